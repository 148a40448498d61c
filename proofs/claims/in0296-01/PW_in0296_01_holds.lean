import PyProof.Rows.All
import Wide.All
import OpenK.AllK
import Wide.FinOn
import PySem.Challenge.RW_in0296_01
open PySem PySem.W PyProof.Rows
set_option Elab.async false
section
open PySem PySem.W PyProof.Rows
set_option maxRecDepth 100000
set_option maxHeartbeats 8000000
namespace Mine
noncomputable abbrev PQ : Program := PySem.Challenge.pw_in0296_01
noncomputable def stAt (i : Nat) : Stmt := PQ.main.body.getD i default
noncomputable def fnAt : Stmt → Arguments × List Stmt × Scope
  | .FunctionDef _ a b _ _ _ s _ _ _ => (a, b, s)
  | _ => default
noncomputable def meAt (i j : Nat) : Stmt := match stAt i with
  | .ClassDef _ _ _ b _ _ _ _ _ _ _ => b.getD j default
  | s => s
@[reducible] noncomputable def kf52 : { x : Arguments × List Stmt × Scope // fnAt (meAt 3 0) = x } := ⟨(_, _, _), rfl⟩
@[reducible] noncomputable def kf92 : { x : Arguments × List Stmt × Scope // fnAt (stAt 6) = x } := ⟨(_, _, _), rfl⟩
@[reducible] noncomputable def kf99 : { x : Arguments × List Stmt × Scope // fnAt (stAt 8) = x } := ⟨(_, _, _), rfl⟩
@[reducible] noncomputable def kf106 : { x : Arguments × List Stmt × Scope // fnAt (stAt 9) = x } := ⟨(_, _, _), rfl⟩
@[reducible] noncomputable def kf118 : { x : Arguments × List Stmt × Scope // fnAt (stAt 12) = x } := ⟨(_, _, _), rfl⟩
@[reducible] noncomputable def kf125 : { x : Arguments × List Stmt × Scope // fnAt (stAt 13) = x } := ⟨(_, _, _), rfl⟩
@[reducible] noncomputable def kf132 : { x : Arguments × List Stmt × Scope // fnAt (stAt 14) = x } := ⟨(_, _, _), rfl⟩
@[reducible] noncomputable def kf147 : { x : Arguments × List Stmt × Scope // fnAt (meAt 18 1) = x } := ⟨(_, _, _), rfl⟩
@[reducible] noncomputable def kf184 : { x : Arguments × List Stmt × Scope // fnAt (meAt 20 0) = x } := ⟨(_, _, _), rfl⟩
@[reducible] noncomputable def kf191 : { x : Arguments × List Stmt × Scope // fnAt (meAt 20 1) = x } := ⟨(_, _, _), rfl⟩
@[reducible] noncomputable def kf198 : { x : Arguments × List Stmt × Scope // fnAt (meAt 20 2) = x } := ⟨(_, _, _), rfl⟩
@[reducible] noncomputable def kf203 : { x : Arguments × List Stmt × Scope // fnAt (meAt 20 3) = x } := ⟨(_, _, _), rfl⟩
@[reducible] noncomputable def kf210 : { x : Arguments × List Stmt × Scope // fnAt (meAt 20 4) = x } := ⟨(_, _, _), rfl⟩
@[reducible] noncomputable def kf217 : { x : Arguments × List Stmt × Scope // fnAt (meAt 20 5) = x } := ⟨(_, _, _), rfl⟩
@[reducible] noncomputable def kf231 : { x : Arguments × List Stmt × Scope // fnAt (meAt 20 7) = x } := ⟨(_, _, _), rfl⟩
@[reducible] noncomputable def kf238 : { x : Arguments × List Stmt × Scope // fnAt (meAt 20 8) = x } := ⟨(_, _, _), rfl⟩
@[reducible] noncomputable def kf257 : { x : Arguments × List Stmt × Scope // fnAt (stAt 22) = x } := ⟨(_, _, _), rfl⟩
@[reducible] noncomputable def kf262 : { x : Arguments × List Stmt × Scope // fnAt (stAt 23) = x } := ⟨(_, _, _), rfl⟩
@[reducible] noncomputable def kf267 : { x : Arguments × List Stmt × Scope // fnAt (stAt 24) = x } := ⟨(_, _, _), rfl⟩
@[reducible] noncomputable def kf274 : { x : Arguments × List Stmt × Scope // fnAt (stAt 25) = x } := ⟨(_, _, _), rfl⟩
@[reducible] noncomputable def kf279 : { x : Arguments × List Stmt × Scope // fnAt (stAt 26) = x } := ⟨(_, _, _), rfl⟩
@[reducible] noncomputable def kf284 : { x : Arguments × List Stmt × Scope // fnAt (stAt 27) = x } := ⟨(_, _, _), rfl⟩
@[reducible] noncomputable def kf291 : { x : Arguments × List Stmt × Scope // fnAt (stAt 28) = x } := ⟨(_, _, _), rfl⟩
@[reducible] noncomputable def kf298 : { x : Arguments × List Stmt × Scope // fnAt (stAt 29) = x } := ⟨(_, _, _), rfl⟩
@[reducible] noncomputable def kf305 : { x : Arguments × List Stmt × Scope // fnAt (stAt 30) = x } := ⟨(_, _, _), rfl⟩
@[reducible] noncomputable def kf310 : { x : Arguments × List Stmt × Scope // fnAt (stAt 31) = x } := ⟨(_, _, _), rfl⟩
@[reducible] noncomputable def kf315 : { x : Arguments × List Stmt × Scope // fnAt (stAt 32) = x } := ⟨(_, _, _), rfl⟩
@[reducible] noncomputable def kFn (n q : Str) {z : Stmt} (f : { x : Arguments × List Stmt × Scope // fnAt z = x }) (dV : Value) (m : Str) (t c : Nat) : Obj := { cls := .type "function", data := .func { name := n, qualname := q, params := f.1.1, body := .stmts f.1.2.1, scope := f.1.2.2, globals := 3, closure := [], defaults := dV, kwdefaults := .none, pyModule := .str m t, code := .ref c } }
@[reducible] noncomputable def kDe (P : Params) (x : Str) (t : Nat) (v : Value) : DictEntry := ⟨PyData.keyHash P x, .str x t, v⟩
@[reducible] noncomputable def kDi (n t : Nat) (x : Str) (u : Nat) : DictEntry := ⟨n, .int n t, .str x u⟩
@[reducible] noncomputable def kTu (l : Array Value) : Obj := { cls := .type "tuple", data := .seq l }
@[reducible] noncomputable def kCo (n q : Str) (t : Nat) (l a f r : Nat) (s : Nat) (x y z u : Nat) (e g : Nat) : Obj := { cls := .type "code", data := .fields #[.str n t, .str q (t + 1), .str "/claim/cut.py" (t + 2), .int l 0, .int a 0, .int 0 0, .int 0 0, .int f 0, .ref r, .bool true, .int s 0, .ref x, .none, .ref y, .ref z, .ref u, .int e 0, .int l 0, .str "/claim/cut.py" g] }
noncomputable def KB (P : Params) : Frag :=
(nat_lit 3, { cls := .type "dict", data := .dict #[kDe P "__name__" 165 (.str "law_in0296_01" 786), kDe P "__doc__" 166 (.none), kDe P "__package__" 167 (.none), kDe P "__loader__" 168 (.builtin "__main__.__loader__#opaque"), kDe P "__spec__" 169 (.none), kDe P "__annotations__" 170 (.ref 6), kDe P "__builtins__" 171 (.ref 4), kDe P "__file__" 173 (.str "/claim/cut.py" 172), kDe P "__cached__" 174 (.none), kDe P "_sre" 275 (.ref 12), kDe P "_wall" 288 (.ref 38), kDe P "Entry" 347 (.ref 76), kDe P "_special_chars_map" 495 (.ref 82), kDe P "escape" 502 (.ref 92), kDe P "translate_pattern" 513 (.ref 99), kDe P "merge_entries" 522 (.ref 106), kDe P "_twin_re_1" 562 (.ref 111), kDe P "translate" 571 (.ref 118), kDe P "_translate" 590 (.ref 125), kDe P "_join_translated_parts" 603 (.ref 132), kDe P "_NODE_OUT" 608 (.int (-1) 607), kDe P "_NODE_DONE" 611 (.int (-2) 610), kDe P "_NodeInfo" 648 (.ref 151), kDe P "CycleError" 666 (.ref 166), kDe P "TopologicalSorter" 785 (.ref 248), kDe P "_law_web" 793 (.ref 257), kDe P "_law_drawn" 799 (.ref 262), kDe P "_law_record" 805 (.ref 267), kDe P "_law_records" 816 (.ref 274), kDe P "_law_ways" 822 (.ref 279), kDe P "_law_shared" 828 (.ref 284), kDe P "_law_pattern" 837 (.ref 291), kDe P "_law_body" 845 (.ref 298), kDe P "_law_takes" 860 (.ref 305), kDe P "_law_takes_all" 866 (.ref 310), kDe P "law" 872 (.ref 315)] 36 }) ::
(nat_lit 32, kTu #[]) ::
(nat_lit 34, kTu #[.str "k" 285]) ::
(nat_lit 35, kTu #[]) ::
(nat_lit 37, kCo "_wall" "_wall" 282 2 1 3 32 276 33 34 35 36 286 287) ::
(nat_lit 46, kTu #[]) ::
(nat_lit 48, kTu #[.str "self" 306]) ::
(nat_lit 49, kTu #[]) ::
(nat_lit 51, kCo "__init__" "Entry.__init__" 303 8 1 3 46 276 47 48 49 50 307 308) ::
(nat_lit 52, kFn "__init__" "Entry.__init__" kf52 (.none) "cpy313.urllib.robotparser" 289 51) ::
(nat_lit 53, kTu #[]) ::
(nat_lit 55, kTu #[.str "self" 313, .str "ret" 314, .str "agent" 315, .str "rate" 316]) ::
(nat_lit 56, kTu #[]) ::
(nat_lit 58, kCo "__str__" "Entry.__str__" 310 14 1 3 53 276 54 55 56 57 317 318) ::
(nat_lit 60, kTu #[]) ::
(nat_lit 62, kTu #[.str "self" 323, .str "useragent" 324]) ::
(nat_lit 63, kTu #[]) ::
(nat_lit 65, kCo "applies_to" "Entry.applies_to" 320 31 2 3 60 276 61 62 63 64 325 326) ::
(nat_lit 67, kTu #[]) ::
(nat_lit 69, kTu #[.str "self" 331, .str "filename" 332]) ::
(nat_lit 70, kTu #[]) ::
(nat_lit 72, kCo "allowance" "Entry.allowance" 328 34 2 3 67 276 68 69 70 71 333 334) ::
(nat_lit 74, kTu #[.str "delay" 336, .str "req_rate" 337, .str "rulelines" 338, .str "useragents" 339]) ::
(nat_lit 75, { cls := .type "dict", data := .dict #[kDe P "__module__" 298 (.str "cpy313.urllib.robotparser" 289), kDe P "__firstlineno__" 302 (.int 6 301), kDe P "__init__" 309 (.ref 52), kDe P "__str__" 319 (.ref 59), kDe P "applies_to" 327 (.ref 66), kDe P "allowance" 335 (.ref 73), kDe P "__static_attributes__" 340 (.ref 74), kDe P "__dict__" 342 (.ref 77), kDe P "__weakref__" 344 (.ref 78), kDe P "__doc__" 345 (.none)] 4 }) ::
(nat_lit 76, { cls := .type "type", data := .cls { name := "Entry", bases := [.type "object"], mro := [.ref 76, .type "object"], ns := 75, qualname := "Entry" }, slots := #[none, none, some (.str "Entry" 291), some (.str "Entry" 299), some (.builtin "object.__new__"), some (.bool true)] }) ::
(nat_lit 77, { cls := .type "getset_descriptor", data := .fields #[.str "__dict__" 341, .ref 76, .builtin "function.__dict__", .builtin "function.__dict__#set"] }) ::
(nat_lit 78, { cls := .type "getset_descriptor", data := .fields #[.str "__weakref__" 343, .ref 76, .builtin "ExceptionGroup.__weakref__", .none] }) ::
(nat_lit 82, { cls := .type "dict", data := .dict #[kDi 40 351 "\\(" 355, kDi 41 357 "\\)" 361, kDi 91 363 "\\[" 367, kDi 93 369 "\\]" 373, kDi 123 375 "\\{" 379, kDi 125 381 "\\}" 385, kDi 63 387 "\\?" 391, kDi 42 393 "\\*" 397, kDi 43 399 "\\+" 403, kDi 45 405 "\\-" 409, kDi 124 411 "\\|" 415, kDi 94 417 "\\^" 421, kDi 36 423 "\\$" 427, kDi 92 429 "\\\\" 433, kDi 46 435 "\\." 439, kDi 38 441 "\\&" 445, kDi 126 447 "\\~" 451, kDi 35 453 "\\#" 457, kDi 32 459 "\\ " 463, kDi 9 465 "\\\t" 469, kDi 10 471 "\\\n" 475, kDi 13 477 "\\\x0d" 481, kDi 11 483 "\\\x0b" 487, kDi 12 489 "\\\x0c" 493] 24 }) ::
(nat_lit 86, kTu #[]) ::
(nat_lit 88, kTu #[.str "pattern" 499]) ::
(nat_lit 89, kTu #[]) ::
(nat_lit 91, kCo "escape" "escape" 496 38 1 3 86 276 87 88 89 90 500 501) ::
(nat_lit 92, kFn "escape" "escape" kf92 (.none) "re" 348 91) ::
(nat_lit 93, kTu #[]) ::
(nat_lit 95, kTu #[.str "path" 508, .str "parts" 509, .str "i" 510]) ::
(nat_lit 96, kTu #[]) ::
(nat_lit 98, kCo "translate_pattern" "translate_pattern" 505 45 1 3 93 276 94 95 96 97 511 512) ::
(nat_lit 99, kFn "translate_pattern" "translate_pattern" kf99 (.none) "cpy313.urllib.robotparser" 503 98) ::
(nat_lit 100, kTu #[]) ::
(nat_lit 102, kTu #[.str "e1" 517, .str "e2" 518, .str "entry" 519]) ::
(nat_lit 103, kTu #[]) ::
(nat_lit 105, kCo "merge_entries" "merge_entries" 514 51 2 3 100 276 101 102 103 104 520 521) ::
(nat_lit 106, kFn "merge_entries" "merge_entries" kf106 (.none) "cpy313.urllib.robotparser" 503 105) ::
(nat_lit 110, kTu #[.int 14 0, .int 14 0, .int 4 0, .int 1 0, .int 1 0, .int 9 0, .int 0 0, .int 64 0, .int 0 0, .int 1342177280 0, .int 0 0, .int 0 0, .int 0 0, .int 0 0, .int 0 0, .int 17 0, .int 0 0, .int 13 0, .int 11 0, .int 9 0, .int 0 0, .int 64 0, .int 0 0, .int 1342177280 0, .int 0 0, .int 0 0, .int 0 0, .int 0 0, .int 0 0, .int 17 0, .int 1 0, .int 1 0]) ::
(nat_lit 111, { cls := .type "re.Pattern", data := .fields #[.str "([&~|])" 526, .int 32 561, .int 1 0, .none, .none, .ref 110, .int 0 0] }) ::
(nat_lit 112, kTu #[]) ::
(nat_lit 114, kTu #[.str "pat" 566, .str "STAR" 567, .str "parts" 568]) ::
(nat_lit 115, kTu #[]) ::
(nat_lit 117, kCo "translate" "translate" 563 60 1 3 112 276 113 114 115 116 569 570) ::
(nat_lit 118, kFn "translate" "translate" kf118 (.none) "cpy313.fnmatch" 523 117) ::
(nat_lit 119, kTu #[]) ::
(nat_lit 121, kTu #[.str "pat" 575, .str "STAR" 576, .str "QUESTION_MARK" 577, .str "res" 578, .str "add" 579, .str "i" 580, .str "n" 581, .str "c" 582, .str "j" 583, .str "stuff" 584, .str "chunks" 585, .str "k" 586, .str "chunk" 587]) ::
(nat_lit 122, kTu #[]) ::
(nat_lit 124, kCo "_translate" "_translate" 572 64 3 3 119 276 120 121 122 123 588 589) ::
(nat_lit 125, kFn "_translate" "_translate" kf125 (.none) "cpy313.fnmatch" 523 124) ::
(nat_lit 126, kTu #[]) ::
(nat_lit 128, kTu #[.str "inp" 594, .str "STAR" 595, .str "res" 596, .str "add" 597, .str "i" 598, .str "n" 599, .str "fixed" 600]) ::
(nat_lit 129, kTu #[]) ::
(nat_lit 131, kCo "_join_translated_parts" "_join_translated_parts" 591 126 2 3 126 276 127 128 129 130 601 602) ::
(nat_lit 132, kFn "_join_translated_parts" "_join_translated_parts" kf132 (.none) "cpy313.fnmatch" 523 131) ::
(nat_lit 140, kTu #[.str "node" 624, .str "npredecessors" 625, .str "successors" 626]) ::
(nat_lit 141, kTu #[]) ::
(nat_lit 143, kTu #[.str "self" 631, .str "node" 632]) ::
(nat_lit 144, kTu #[]) ::
(nat_lit 146, kCo "__init__" "_NodeInfo.__init__" 628 159 2 3 141 276 142 143 144 145 633 634) ::
(nat_lit 147, kFn "__init__" "_NodeInfo.__init__" kf147 (.none) "cpy313.graphlib" 604 146) ::
(nat_lit 148, kTu #[.str "node" 636, .str "npredecessors" 637, .str "successors" 638]) ::
(nat_lit 150, { cls := .type "dict", data := .dict #[kDe P "__module__" 619 (.str "cpy313.graphlib" 604), kDe P "__firstlineno__" 623 (.int 156 622), kDe P "__slots__" 627 (.ref 140), kDe P "__init__" 635 (.ref 147), kDe P "__static_attributes__" 639 (.ref 148), kDe P "node" 641 (.ref 152), kDe P "npredecessors" 643 (.ref 153), kDe P "successors" 645 (.ref 154), kDe P "__doc__" 646 (.none)] 5 }) ::
(nat_lit 151, { cls := .type "type", data := .cls { name := "_NodeInfo", bases := [.type "object"], mro := [.ref 151, .type "object"], ns := 150, qualname := "_NodeInfo", hasDict := false, slotNames := ["node", "npredecessors", "successors"] }, slots := #[none, none, some (.str "_NodeInfo" 612), some (.str "_NodeInfo" 620), some (.builtin "object.__new__"), some (.bool false)] }) ::
(nat_lit 152, { cls := .type "member_descriptor", data := .fields #[.str "node" 640, .ref 151, .builtin "proto.slot", .builtin "proto.slot#set", .int 2 0] }) ::
(nat_lit 153, { cls := .type "member_descriptor", data := .fields #[.str "npredecessors" 642, .ref 151, .builtin "proto.slot", .builtin "proto.slot#set", .int 1 0] }) ::
(nat_lit 154, { cls := .type "member_descriptor", data := .fields #[.str "successors" 644, .ref 151, .builtin "proto.slot", .builtin "proto.slot#set", .int 0 0] }) ::
(nat_lit 157, kTu #[.type "ValueError"]) ::
(nat_lit 164, kTu #[]) ::
(nat_lit 165, { cls := .type "dict", data := .dict #[kDe P "__module__" 656 (.str "cpy313.graphlib" 604), kDe P "__firstlineno__" 660 (.int 163 659), kDe P "__static_attributes__" 661 (.ref 164), kDe P "__weakref__" 663 (.ref 167), kDe P "__doc__" 664 (.none)] 3 }) ::
(nat_lit 166, { cls := .type "type", data := .cls { name := "CycleError", bases := [.type "ValueError"], mro := [.ref 166, .type "ValueError", .type "Exception", .type "BaseException", .type "object"], ns := 165, qualname := "CycleError" }, slots := #[some (.ref 157), none, some (.str "CycleError" 649), some (.str "CycleError" 657), some (.builtin "ValueError.__new__"), some (.bool true)] }) ::
(nat_lit 167, { cls := .type "getset_descriptor", data := .fields #[.str "__weakref__" 662, .ref 166, .builtin "ExceptionGroup.__weakref__", .none] }) ::
(nat_lit 177, kTu #[.none]) ::
(nat_lit 178, kTu #[]) ::
(nat_lit 180, kTu #[.str "self" 682, .str "graph" 683, .str "node" 684, .str "predecessors" 685]) ::
(nat_lit 181, kTu #[]) ::
(nat_lit 183, kCo "__init__" "TopologicalSorter.__init__" 679 167 2 3 178 276 179 180 181 182 686 687) ::
(nat_lit 184, kFn "__init__" "TopologicalSorter.__init__" kf184 (.ref 177) "cpy313.graphlib" 604 183) ::
(nat_lit 185, kTu #[]) ::
(nat_lit 187, kTu #[.str "self" 692, .str "node" 693, .str "result" 694]) ::
(nat_lit 188, kTu #[]) ::
(nat_lit 190, kCo "_get_nodeinfo" "TopologicalSorter._get_nodeinfo" 689 176 2 3 185 276 186 187 188 189 695 696) ::
(nat_lit 191, kFn "_get_nodeinfo" "TopologicalSorter._get_nodeinfo" kf191 (.none) "cpy313.graphlib" 604 190) ::
(nat_lit 192, kTu #[]) ::
(nat_lit 194, kTu #[.str "self" 701, .str "node" 702, .str "predecessors" 703, .str "nodeinfo" 704, .str "pred" 705, .str "pred_info" 706]) ::
(nat_lit 195, kTu #[]) ::
(nat_lit 197, kCo "add" "TopologicalSorter.add" 698 181 2 7 192 276 193 194 195 196 707 708) ::
(nat_lit 198, kFn "add" "TopologicalSorter.add" kf198 (.none) "cpy313.graphlib" 604 197) ::
(nat_lit 199, kTu #[]) ::
(nat_lit 202, { cls := .type "code", data := .fields #[.str "prepare" 710, .str "TopologicalSorter.prepare" 711, .str "/claim/cut.py" 712, .int 190 0, .int 1 0, .int 0 0, .int 0 0, .int 3 0, .ref 199, .bool true, .int 276 0, .ref 200, .none, .none, .none, .ref 201, .int 713 0, .int 190 0, .str "/claim/cut.py" 714] }) ::
(nat_lit 203, kFn "prepare" "TopologicalSorter.prepare" kf203 (.none) "cpy313.graphlib" 604 202) ::
(nat_lit 204, kTu #[]) ::
(nat_lit 206, kTu #[.str "self" 719, .str "result" 720, .str "n2i" 721, .str "node" 722]) ::
(nat_lit 207, kTu #[]) ::
(nat_lit 209, kCo "get_ready" "TopologicalSorter.get_ready" 716 198 1 3 204 276 205 206 207 208 723 724) ::
(nat_lit 210, kFn "get_ready" "TopologicalSorter.get_ready" kf210 (.none) "cpy313.graphlib" 604 209) ::
(nat_lit 211, kTu #[]) ::
(nat_lit 213, kTu #[.str "self" 729]) ::
(nat_lit 214, kTu #[]) ::
(nat_lit 216, kCo "is_active" "TopologicalSorter.is_active" 726 209 1 3 211 276 212 213 214 215 730 731) ::
(nat_lit 217, kFn "is_active" "TopologicalSorter.is_active" kf217 (.none) "cpy313.graphlib" 604 216) ::
(nat_lit 218, kTu #[]) ::
(nat_lit 220, kTu #[.str "self" 736]) ::
(nat_lit 221, kTu #[]) ::
(nat_lit 223, kCo "__bool__" "TopologicalSorter.__bool__" 733 214 1 3 218 276 219 220 221 222 737 738) ::
(nat_lit 225, kTu #[]) ::
(nat_lit 227, kTu #[.str "self" 743, .str "nodes" 744, .str "n2i" 745, .str "node" 746, .str "nodeinfo" 747, .str "stat" 748, .str "successor" 749, .str "successor_info" 750]) ::
(nat_lit 228, kTu #[]) ::
(nat_lit 230, kCo "done" "TopologicalSorter.done" 740 217 1 7 225 276 226 227 228 229 751 752) ::
(nat_lit 231, kFn "done" "TopologicalSorter.done" kf231 (.none) "cpy313.graphlib" 604 230) ::
(nat_lit 232, kTu #[]) ::
(nat_lit 234, kTu #[.str "self" 757, .str "n2i" 758, .str "stack" 759, .str "itstack" 760, .str "seen" 761, .str "node2stacki" 762, .str "node" 763]) ::
(nat_lit 235, kTu #[]) ::
(nat_lit 237, kCo "_find_cycle" "TopologicalSorter._find_cycle" 754 240 1 3 232 276 233 234 235 236 764 765) ::
(nat_lit 238, kFn "_find_cycle" "TopologicalSorter._find_cycle" kf238 (.none) "cpy313.graphlib" 604 237) ::
(nat_lit 239, kTu #[]) ::
(nat_lit 241, kTu #[.str "self" 770]) ::
(nat_lit 242, kTu #[]) ::
(nat_lit 244, kCo "static_order" "TopologicalSorter.static_order" 767 269 1 3 239 276 240 241 242 243 771 772) ::
(nat_lit 246, kTu #[.str "_nfinished" 774, .str "_node2info" 775, .str "_npassedout" 776, .str "_ready_nodes" 777]) ::
(nat_lit 247, { cls := .type "dict", data := .dict #[kDe P "__module__" 674 (.str "cpy313.graphlib" 604), kDe P "__firstlineno__" 678 (.int 165 677), kDe P "__init__" 688 (.ref 184), kDe P "_get_nodeinfo" 697 (.ref 191), kDe P "add" 709 (.ref 198), kDe P "prepare" 715 (.ref 203), kDe P "get_ready" 725 (.ref 210), kDe P "is_active" 732 (.ref 217), kDe P "__bool__" 739 (.ref 224), kDe P "done" 753 (.ref 231), kDe P "_find_cycle" 766 (.ref 238), kDe P "static_order" 773 (.ref 245), kDe P "__static_attributes__" 778 (.ref 246), kDe P "__dict__" 780 (.ref 249), kDe P "__weakref__" 782 (.ref 250), kDe P "__doc__" 783 (.none)] 4 }) ::
(nat_lit 248, { cls := .type "type", data := .cls { name := "TopologicalSorter", bases := [.type "object"], mro := [.ref 248, .type "object"], ns := 247, qualname := "TopologicalSorter" }, slots := #[none, none, some (.str "TopologicalSorter" 667), some (.str "TopologicalSorter" 675), some (.builtin "object.__new__"), some (.bool true)] }) ::
(nat_lit 249, { cls := .type "getset_descriptor", data := .fields #[.str "__dict__" 779, .ref 248, .builtin "function.__dict__", .builtin "function.__dict__#set"] }) ::
(nat_lit 250, { cls := .type "getset_descriptor", data := .fields #[.str "__weakref__" 781, .ref 248, .builtin "ExceptionGroup.__weakref__", .none] }) ::
(nat_lit 253, kTu #[]) ::
(nat_lit 256, { cls := .type "code", data := .fields #[.str "_law_web" 788, .str "_law_web" 789, .str "/claim/cut.py" 790, .int 272 0, .int 1 0, .int 0 0, .int 0 0, .int 3 0, .ref 253, .bool true, .int 276 0, .ref 254, .none, .none, .none, .ref 255, .int 791 0, .int 272 0, .str "/claim/cut.py" 792] }) ::
(nat_lit 257, kFn "_law_web" "_law_web" kf257 (.none) "law_in0296_01" 786 256) ::
(nat_lit 258, kTu #[]) ::
(nat_lit 261, { cls := .type "code", data := .fields #[.str "_law_drawn" 794, .str "_law_drawn" 795, .str "/claim/cut.py" 796, .int 280 0, .int 2 0, .int 0 0, .int 0 0, .int 3 0, .ref 258, .bool true, .int 276 0, .ref 259, .none, .none, .none, .ref 260, .int 797 0, .int 280 0, .str "/claim/cut.py" 798] }) ::
(nat_lit 262, kFn "_law_drawn" "_law_drawn" kf262 (.none) "law_in0296_01" 786 261) ::
(nat_lit 263, kTu #[]) ::
(nat_lit 266, { cls := .type "code", data := .fields #[.str "_law_record" 800, .str "_law_record" 801, .str "/claim/cut.py" 802, .int 287 0, .int 3 0, .int 0 0, .int 0 0, .int 3 0, .ref 263, .bool true, .int 276 0, .ref 264, .none, .none, .none, .ref 265, .int 803 0, .int 287 0, .str "/claim/cut.py" 804] }) ::
(nat_lit 267, kFn "_law_record" "_law_record" kf267 (.none) "law_in0296_01" 786 266) ::
(nat_lit 268, kTu #[]) ::
(nat_lit 270, kTu #[.str "names" 809, .str "waits" 810, .str "sorter" 811, .str "name" 812, .str "records" 813]) ::
(nat_lit 271, kTu #[]) ::
(nat_lit 273, kCo "_law_records" "_law_records" 806 304 2 3 268 276 269 270 271 272 814 815) ::
(nat_lit 274, kFn "_law_records" "_law_records" kf274 (.none) "law_in0296_01" 786 273) ::
(nat_lit 275, kTu #[]) ::
(nat_lit 278, { cls := .type "code", data := .fields #[.str "_law_ways" 817, .str "_law_ways" 818, .str "/claim/cut.py" 819, .int 315 0, .int 2 0, .int 0 0, .int 0 0, .int 3 0, .ref 275, .bool true, .int 276 0, .ref 276, .none, .none, .none, .ref 277, .int 820 0, .int 315 0, .str "/claim/cut.py" 821] }) ::
(nat_lit 279, kFn "_law_ways" "_law_ways" kf279 (.none) "law_in0296_01" 786 278) ::
(nat_lit 280, kTu #[]) ::
(nat_lit 283, { cls := .type "code", data := .fields #[.str "_law_shared" 823, .str "_law_shared" 824, .str "/claim/cut.py" 825, .int 322 0, .int 1 0, .int 0 0, .int 0 0, .int 3 0, .ref 280, .bool true, .int 276 0, .ref 281, .none, .none, .none, .ref 282, .int 826 0, .int 322 0, .str "/claim/cut.py" 827] }) ::
(nat_lit 284, kFn "_law_shared" "_law_shared" kf284 (.none) "law_in0296_01" 786 283) ::
(nat_lit 285, kTu #[]) ::
(nat_lit 287, kTu #[.str "agents" 832, .str "pattern" 833, .str "k" 834]) ::
(nat_lit 288, kTu #[]) ::
(nat_lit 290, kCo "_law_pattern" "_law_pattern" 829 328 1 3 285 276 286 287 288 289 835 836) ::
(nat_lit 291, kFn "_law_pattern" "_law_pattern" kf291 (.none) "law_in0296_01" 786 290) ::
(nat_lit 292, kTu #[]) ::
(nat_lit 294, kTu #[.str "pattern" 841, .str "text" 842]) ::
(nat_lit 295, kTu #[]) ::
(nat_lit 297, kCo "_law_body" "_law_body" 838 334 1 3 292 276 293 294 295 296 843 844) ::
(nat_lit 298, kFn "_law_body" "_law_body" kf298 (.none) "law_in0296_01" 786 297) ::
(nat_lit 299, kTu #[]) ::
(nat_lit 301, kTu #[.str "body" 849, .str "name" 850, .str "text" 851, .str "front" 852, .str "mark" 853, .str "tail" 854, .str "pieces" 855, .str "at" 856, .str "piece" 857]) ::
(nat_lit 302, kTu #[]) ::
(nat_lit 304, kCo "_law_takes" "_law_takes" 846 337 2 3 299 276 300 301 302 303 858 859) ::
(nat_lit 305, kFn "_law_takes" "_law_takes" kf305 (.none) "law_in0296_01" 786 304) ::
(nat_lit 306, kTu #[]) ::
(nat_lit 309, { cls := .type "code", data := .fields #[.str "_law_takes_all" 861, .str "_law_takes_all" 862, .str "/claim/cut.py" 863, .int 352 0, .int 2 0, .int 0 0, .int 0 0, .int 3 0, .ref 306, .bool true, .int 276 0, .ref 307, .none, .none, .none, .ref 308, .int 864 0, .int 352 0, .str "/claim/cut.py" 865] }) ::
(nat_lit 310, kFn "_law_takes_all" "_law_takes_all" kf310 (.none) "law_in0296_01" 786 309) ::
(nat_lit 311, kTu #[]) ::
(nat_lit 314, { cls := .type "code", data := .fields #[.str "law" 867, .str "law" 868, .str "/claim/cut.py" 869, .int 354 0, .int 1 0, .int 0 0, .int 0 0, .int 3 0, .ref 311, .bool true, .int 276 0, .ref 312, .none, .none, .none, .ref 313, .int 870 0, .int 354 0, .str "/claim/cut.py" 871] }) ::
(nat_lit 315, kFn "law" "law" kf315 (.none) "law_in0296_01" 786 314) :: []
noncomputable def asK : List Addr := [3, 32, 34, 35, 37, 46, 48, 49, 51, 52, 53, 55, 56, 58, 60, 62, 63, 65, 67, 69, 70, 72, 74, 75, 76, 77, 78, 82, 86, 88, 89, 91, 92, 93, 95, 96, 98, 99, 100, 102, 103, 105, 106, 110, 111, 112, 114, 115, 117, 118, 119, 121, 122, 124, 125, 126, 128, 129, 131, 132, 140, 141, 143, 144, 146, 147, 148, 150, 151, 152, 153, 154, 157, 164, 165, 166, 167, 177, 178, 180, 181, 183, 184, 185, 187, 188, 190, 191, 192, 194, 195, 197, 198, 199, 202, 203, 204, 206, 207, 209, 210, 211, 213, 214, 216, 217, 218, 220, 221, 223, 225, 227, 228, 230, 231, 232, 234, 235, 237, 238, 239, 241, 242, 244, 246, 247, 248, 249, 250, 253, 256, 257, 258, 261, 262, 263, 266, 267, 268, 270, 271, 273, 274, 275, 278, 279, 280, 283, 284, 285, 287, 288, 290, 291, 292, 294, 295, 297, 298, 299, 301, 302, 304, 305, 306, 309, 310, 311, 314, 315]
theorem asK_ok (P : Params) : asK = (KB P).map (·.1) := by kernel_rfl
theorem kfill (w : World) : ∀ h, (KB w.params).In h → PySem.Challenge.rw_in0296_01.name = PySem.Challenge.rw_in0296_01.name := by k_fill; intros; rfl
end Mine
end

section
open PySem PySem.W PyProof.Rows
set_option maxRecDepth 100000
set_option maxHeartbeats 8000000
namespace Mine
/-! the top, run over a tree of objects -/
noncomputable def runT (tb : String → Option Builtin) (p : Program) (w : World) (n₀ : Nat) (ann : Option Value) : Nat → SharedT → Thread → Option SharedT
  | 0, _, _ => none
  | n + 1, s, t => match through t with
    | true => some s
    | false => match stepOk n₀ ann t with
      | false => none
      | true => match stepT (denote tb) p w s t with
        | some (s', t') => runT tb p w n₀ ann n s' t'
        | none => none
theorem runT_of {tb : String → Option Builtin} {p : Program} {w : World} {n₀ : Nat} {ann : Option Value} : ∀ {n : Nat} {s s' : SharedT} {t : Thread}, runT tb p w n₀ ann n s t = some s' → topRun tb p w n₀ ann n s.abs t = some s'.abs
  | 0, _, _, _, h => by cases h
  | n + 1, s, s', t, h => by
    unfold runT at h
    unfold topRun
    cases ht : through t with
    | true => rw [ht] at h; cases h; rfl
    | false =>
      rw [ht] at h
      cases hk : stepOk n₀ ann t with
      | false => rw [hk] at h; cases h
      | true =>
        rw [hk] at h
        cases hs : stepT (denote tb) p w s t with
        | none => rw [hs] at h; cases h
        | some r =>
          obtain ⟨s₂, t₂⟩ := r
          rw [hs] at h
          rw [stepT_spec hs]
          exact runT_of h
theorem ins_some (o : Obj) : ∀ (t : BT) (n : Nat), (∀ i, i < n → (t.get i).isSome = true) → ((t.ins n o).get n).isSome = true
  | .nil, n, h => by
    cases n with
    | zero => rfl
    | succ n => exact absurd (h 0 (Nat.succ_pos _)) (by simp [BT.get])
  | .node v l r, n, h => by
    rw [BT.ins_node]
    by_cases h0 : n = 0
    · rw [if_pos h0, BT.get_node, if_pos h0]; rfl
    · rw [if_neg h0]
      by_cases h1 : n % 2 = 1
      · rw [if_pos h1, BT.get_node, if_neg h0, if_pos h1]
        refine ins_some o l (n / 2) fun i hi => ?_
        have := h (2 * i + 1) (by lia)
        rwa [BT.get_node, if_neg (by lia), if_pos (by lia), show (2 * i + 1) / 2 = i by lia] at this
      · rw [if_neg h1, BT.get_node, if_neg h0, if_neg h1]
        refine ins_some o r (n / 2 - 1) fun i hi => ?_
        have := h (2 * i + 2) (by lia)
        rwa [BT.get_node, if_neg (by lia), if_neg (by lia), show (2 * i + 2) / 2 - 1 = i by lia] at this
noncomputable def insL : List Obj → Nat → BT → BT
  | [], _, t => t
  | o :: l, n, t => insL l (n + 1) (t.ins n o)
theorem insL_abs (life : Life) : ∀ (l : List Obj) (n : Nat) (t : BT), (∀ i, i < n → (t.get i).isSome = true) → (absHeap (insL l n t) (n + l.length) life).objs.toList = (absHeap t n life).objs.toList ++ l
  | [], n, t, _ => by simp [insL]
  | o :: l, n, t, h => by
    have g := ins_some o t n h
    have := insL_abs life l (n + 1) (t.ins n o) fun i hi => by
      rw [BT.get_ins o t n g]
      by_cases e : i = n
      · rw [if_pos e]; rfl
      · rw [if_neg e]; exact h i (by lia)
    rw [absHeap_ins g] at this
    rw [show n + (o :: l).length = n + 1 + l.length by simp; lia]
    refine this.trans ?_
    simp [Heap.push]
noncomputable def toT (s : Shared) : SharedT := ⟨insL s.heap.objs.toList 0 .nil, s.heap.objs.toList.length, s.heap.life, s.gens, s.drawn, s.toks, s.os⟩
theorem toT_abs (s : Shared) : (toT s).abs = s := by
  obtain ⟨⟨⟨l⟩, life⟩, gens, drawn, toks, os⟩ := s
  have h := insL_abs life l 0 .nil (fun i hi => absurd hi (Nat.not_lt_zero _))
  rw [Nat.zero_add] at h
  have e : absHeap (insL l 0 .nil) l.length life = ⟨⟨l⟩, life⟩ := by
    have h2 : (absHeap (insL l 0 .nil) l.length life).objs = ⟨l⟩ := Array.toList_inj.mp (h.trans (by simp [absHeap, BT.list]))
    show Heap.mk _ _ = _
    exact congrArg (Heap.mk · life) h2
  exact congrArg (fun h => Shared.mk h gens drawn toks os) e
noncomputable def fromT (p : Program) (w : World) (N : Nat) (s₀ : Shared) : Option SharedT :=
  match s₀.heap.isNs mainGlobals && s₀.gens.size == 0 with
  | true => (runT treeTable p w s₀.heap.objs.size (s₀.heap.nsMap mainGlobals "__annotations__") N (toT s₀) (topStub p)).bind fun s₁ => match staticsOk (importedModules p.main.body) s₀.heap s₁.abs.heap && namesBound p s₁.abs.heap && gensDone s₁.abs && laidKept s₀.heap s₁.abs.heap with
      | true => some s₁
      | false => none
  | false => none
theorem fromT_of {p : Program} {w : World} {N : Nat} {s₀ : Shared} {s : SharedT} (h : fromT p w N s₀ = some s) : topFrom treeTable p w N s₀ = some s.abs := by
  unfold fromT at h
  unfold topFrom
  cases c : s₀.heap.isNs mainGlobals && s₀.gens.size == 0 with
  | false => rw [c] at h; cases h
  | true =>
    rw [c] at h
    obtain ⟨s₁, e, h⟩ := Option.bind_eq_some_iff.mp h
    have := runT_of e
    rw [toT_abs] at this
    show (topRun _ _ _ _ _ _ _ _).bind _ = _
    rw [this, Option.bind_some]
    revert h
    generalize (staticsOk (importedModules p.main.body) s₀.heap s₁.abs.heap && namesBound p s₁.abs.heap && gensDone s₁.abs && laidKept s₀.heap s₁.abs.heap) = b
    intro h
    cases b with
    | false => cases h
    | true => cases h; rfl
/-- an object of the tree -/
noncomputable def kGet (s : SharedT) (a : Addr) : Option Obj := match Nat.blt a s.n with
  | true => Heap.get? ⟨#[(s.tree.get a).getD default], s.life⟩ 0
  | false => none
theorem kGet_abs (s : SharedT) (a : Addr) : s.abs.heap.get? a = kGet s a := by
  have e := absHeap_at s.tree s.n s.life a
  unfold kGet
  by_cases h : a < s.n
  · rw [if_pos h] at e
    rw [show Nat.blt a s.n = true from Nat.ble_eq.mpr h]
    show Heap.get? (absHeap s.tree s.n s.life) a = _
    unfold Heap.get?
    rw [e]
    rfl
  · rw [if_neg h] at e
    rw [show Nat.blt a s.n = false from by rw [Bool.eq_false_iff]; exact fun e => h (Nat.ble_eq.mp e)]
    show Heap.get? (absHeap s.tree s.n s.life) a = _
    unfold Heap.get?
    rw [e]
theorem ends_of {α : Type} {p : Program} {w : World} {N : Nat} {g : Shared → α} {gT : SharedT → α} {y : α} (hg : ∀ s, g s.abs = gT s) (h : ((fencedOpening treeTable p w N).bind (fromT p w N)).map gT = some y) : (openEnds treeTable p w N).map g = some y := by
  obtain ⟨s, e, h⟩ := Option.map_eq_some_iff.mp h
  obtain ⟨s₀, e₀, e⟩ := Option.bind_eq_some_iff.mp e
  unfold openEnds
  rw [e₀]
  show (topFrom _ _ _ _ _).map g = _
  rw [fromT_of e]
  exact congrArg some ((hg s).trans h)
noncomputable def stQ (p : Program) (w : World) : SharedT → Thread → Option (SharedT × Thread) := PySem.W.Fast.tw10156331382660048174 (PySem.W.Fast.tw11892475500146522536 PySem.W.Fast.tw14364793385576792824) p w
theorem stQ_eq (p : Program) (w : World) : stepT (denote treeTable) p w = stQ p w := by
  unfold stQ
  rw [PySem.W.Fast.te10156331382660048174, PySem.W.Fast.te11892475500146522536, PySem.W.Fast.te14364793385576792824]
noncomputable def runQ (p : Program) (w : World) (n₀ : Nat) (ann : Option Value) : Nat → SharedT → Thread → Option SharedT
  | 0, _, _ => none
  | n + 1, s, t => match through t with
    | true => some s
    | false => match PySem.W.Fast.tw6613529449190102663 n₀ ann t with
      | false => none
      | true => match stQ p w s t with
        | some (s', t') => runQ p w n₀ ann n s' t'
        | none => none
theorem runQ_eq (p : Program) (w : World) : runT treeTable p w = runQ p w := by
  funext n₀ ann n
  induction n with
  | zero => rfl
  | succ n ih =>
    funext s t
    unfold runT runQ
    rw [stQ_eq, ih, PySem.W.Fast.te6613529449190102663]

noncomputable def vw : Program := view PQ [0, 1, 3, 5, 6, 8, 9, 11, 12, 13, 14, 16, 17, 18, 19, 20, 22, 23, 24, 25, 26, 27, 28, 29, 30, 31, 32]
noncomputable def looseN : List Str := ["_special_chars_map", "_twin_re_1", "_NodeInfo"]
noncomputable def hookK : Hook := kHook KB asK asK_ok
theorem said : OpenLaw.wellSaid PySem.Challenge.rw_in0296_01 = true := by
  rw [PySem.W.Fast.te9446332074065402090]
  kernel_rfl
abbrev LeftAt (w : World) : Prop := (openEnds treeTable PQ w 6632).map (fun s => (openSeen vw looseN (importedModules PQ.main.body) (fun s => xlAt vw [] s && recOk [] s) true s, hookK.obs s)) = some (openGood vw looseN, hookK.val w)
local macro_rules | `(tactic| wrow_close) => `(tactic| (
  intro w
  refine ends_of (gT := fun s => (openSeen vw looseN (importedModules PQ.main.body) (fun s => xlAt vw [] s && recOk [] s) true s.abs, asK.map (kGet s))) (fun s => congrArg (Prod.mk _) (List.map_congr_left fun a _ => kGet_abs s a)) ?_
  unfold fencedOpening fromT
  rw [PySem.W.Fast.te10274390034422433532, PySem.W.Fast.te14289696077712309145, PySem.W.Fast.te1435165496053646825, runQ_eq, PySem.W.Fast.te14364793385576792824, PySem.W.Fast.te4187177175401517315]
  kernel_rfl))
theorem left00 : ∀ w : World, LeftAt ((w.withFollow "comprehension-iter-twice" false).withFollow "special-get-raises" false) := by wrow_close
theorem left01 : ∀ w : World, LeftAt ((w.withFollow "comprehension-iter-twice" false).withFollow "special-get-raises" true) := by wrow_close
theorem left10 : ∀ w : World, LeftAt ((w.withFollow "comprehension-iter-twice" true).withFollow "special-get-raises" false) := by wrow_close
theorem left11 : ∀ w : World, LeftAt ((w.withFollow "comprehension-iter-twice" true).withFollow "special-get-raises" true) := by wrow_close
theorem left (w : World) : LeftAt w := byRow2 "special-get-raises" (byRow2 "comprehension-iter-twice" (P := fun w => LeftAt (w.withFollow "special-get-raises" false)) left00 left10) (byRow2 "comprehension-iter-twice" (P := fun w => LeftAt (w.withFollow "special-get-raises" true)) left01 left11) w
/-! two words of the row, told here while the box is empty -/
theorem fin1 : (chainsOk vw && opensWell PySem.Challenge.rw_in0296_01.row.prog && (frees PySem.Challenge.rw_in0296_01.row.toRowW && PySem.Challenge.rw_in0296_01.row.within.isEmpty)) = true := by decide +kernel
theorem fin2 : PySem.Challenge.rw_in0296_01.row.prog.tablesWhole = true := by decide +kernel
end Mine
end

section
open PySem PySem.W PyProof.Rows PySem.Calls PySem.Builtin PySem.Builtin.Str
set_option maxRecDepth 100000
set_option maxHeartbeats 4000000
set_option linter.unusedVariables false
set_option compiler.extract_closed false
namespace Mine
noncomputable def signs (x : Str) : List Str := x.cps.toList.map fun c => ⟨#[c]⟩
noncomputable def pre : List Nat → List Nat → Bool
  | [], _ => true
  | y :: ys, x :: xs => Nat.beq y x && pre ys xs
  | _ :: _, [] => false
noncomputable def occS (ys : List Nat) (n limit : Nat) : List Nat → Nat → Nat → Nat → List Nat
  | [], _, _, _ => []
  | x :: xs, i, c, free => if Nat.blt c limit && Nat.ble free i && pre ys (x :: xs) then i :: occS ys n limit xs (i + 1) (c + 1) (i + n) else occS ys n limit xs (i + 1) c free
noncomputable def partsL (xs cuts : List Nat) (n : Nat) : List (List Nat) := ((0 :: cuts.map (· + n)).zip (cuts ++ [xs.length])).map fun p => (xs.drop p.1).take (p.2 - p.1)
noncomputable def gluedL (g : List Nat) (ps : List (List Nat)) : List Nat := (ps.drop 1).foldl (fun acc p => acc ++ g ++ p) (ps.headD [])
noncomputable def replL (xs ys zs : List Nat) : List Nat :=
  match occS ys ys.length (xs.length + 1) xs 0 0 0 with
  | [] => xs
  | o => gluedL zs (partsL xs o ys.length)
noncomputable def splitL (xs : List Nat) (c : Nat) : List (List Nat) :=
  match occS [c] 1 (xs.length + 1) xs 0 0 0 with
  | [] => [xs]
  | o => partsL xs o 1
noncomputable def partL (xs : List Nat) (c : Nat) : List Nat × Bool × List Nat :=
  match occS [c] 1 1 xs 0 0 0 with
  | [] => (xs, false, [])
  | i :: _ => (xs.take i, true, xs.drop (i + 1))
noncomputable def findL (xs ys : List Nat) (i : Nat) : Option Nat := (occS ys ys.length 1 (xs.drop i) i 0 i).head?
noncomputable def endsL (xs ys : List Nat) : Bool := Nat.ble ys.length xs.length && pre ys (xs.drop (xs.length - ys.length))
noncomputable def lettr (c : Nat) : Bool := 97 ≤ c && c ≤ 101
noncomputable def trStep (acc : List (Option Nat)) (c : Nat) : List (Option Nat) := if c = 42 then (if acc.getLast? = some none then acc else acc ++ [none]) else acc ++ [some c]
noncomputable def trF (l : List Nat) : List (Option Nat) := l.foldl trStep []
set_option genInjectivity false in
set_option genSizeOf false in
structure Nd (α : Type) where
  nm : α
  np : Int
  sc : List α
section
variable {α : Type} [DecidableEq α]
noncomputable def ndHas (ns : List (Nd α)) (k : α) : Bool := ns.any fun q => decide (q.nm = k)
end
section
variable {α : Type} [DecidableEq α]
noncomputable def ndEnsure (ns : List (Nd α)) (k : α) : List (Nd α) := if ndHas ns k then ns else ns ++ [⟨k, 0, []⟩]
end
section
variable {α : Type} [DecidableEq α]
noncomputable def ndMod (ns : List (Nd α)) (k : α) (f : Nd α → Nd α) : List (Nd α) := ns.map fun q => if q.nm = k then f q else q
end
section
variable {α : Type} [DecidableEq α]
noncomputable def ndGet (ns : List (Nd α)) (k : α) : Option (Nd α) := ns.find? fun q => decide (q.nm = k)
end
section
variable {α : Type} [DecidableEq α]
noncomputable def addStep (k : α) (ns : List (Nd α)) (p : α) : List (Nd α) := ndMod (ndEnsure ns p) p fun q => { q with sc := q.sc ++ [k] }
end
section
variable {α : Type} [DecidableEq α]
noncomputable def addF (ns : List (Nd α)) (k : α) (ps : List α) : List (Nd α) := ps.foldl (addStep k) (ndMod (ndEnsure ns k) k fun q => { q with np := q.np + ps.length })
end
section
variable {α : Type} [DecidableEq α]
noncomputable def outF (ns : List (Nd α)) (l : List α) : List (Nd α) := l.foldl (fun ns k => ndMod ns k fun q => { q with np := -1 }) ns
end
section
variable {α : Type} [DecidableEq α]
noncomputable def decStep (s : List (Nd α) × List α) (k : α) : List (Nd α) × List α :=
  (ndMod s.1 k fun q => { q with np := q.np - 1 }, if (ndGet s.1 k).any (fun q => q.np - 1 == 0) then s.2 ++ [k] else s.2)
end
section
variable {α : Type} [DecidableEq α]
/-- what done(k) makes of the nodes and of the ready list -/
noncomputable def doneF (ns : List (Nd α)) (ready : List α) (k : α) (sc : List α) : List (Nd α) × List α :=
  sc.foldl decStep (ndMod ns k fun q => { q with np := -2 }, ready)
end
section
variable {α : Type} [BEq α] [Append α]
noncomputable def stepF (name one : α) (r : List α × List α) : List α × List α := (r.1 ++ [one ++ name], r.2.map (· ++ name))
end
section
variable {α : Type} [BEq α] [Append α]
noncomputable def mergeF (a b : List α × List α) : List α × List α := (a.1.filter fun k => b.1.any (· == k), a.2 ++ b.2)
end
section
variable {α : Type} [BEq α] [Append α]
/-- what _law_record makes -/
noncomputable def recF (name : α) (waits : List α) (recs : α → List α × List α) : List α × List α :=
  match waits with
  | [] => ([name], [name])
  | x :: xs => let r := (xs.map fun one => stepF name one (recs one)).foldl mergeF (stepF name x (recs x)); (r.1 ++ [name], r.2)
end
set_option genInjectivity false in
set_option genSizeOf false in
structure RS (α : Type) where
  ns : List (Nd α)
  ready : List α
  passed : Int
  fin : Int
  recs : List (α × List α × List α)
section
variable {α : Type} [DecidableEq α] [BEq α] [Append α]
noncomputable def lookR (recs : List (α × List α × List α)) (k : α) : Option (List α × List α) := (recs.find? fun p => decide (p.1 = k)).map (·.2)
end
section
variable {α : Type} [DecidableEq α] [BEq α] [Append α]
noncomputable def hereR (recs : List (α × List α × List α)) (k : α) : List α × List α := (lookR recs k).getD ([], [])
end
section
variable {α : Type} [DecidableEq α] [BEq α] [Append α]
noncomputable def smallR (len : α → Nat) (r : List α × List α) : Bool := decide (r.1.length ≤ 80) && decide (r.2.length ≤ 100) && r.2.all fun l => decide (len l ≤ 100)
end
section
variable {α : Type} [DecidableEq α] [BEq α] [Append α]
noncomputable def fitN (len : α → Nat) (names : List α) (f : α → List α) (st : RS α) (k : α) (q : Nd α) : Bool :=
  decide (q.np = -1) && q.sc.all (ndHas st.ns) && decide (st.ready.length + q.sc.length ≤ 900) && (names.any fun x => decide (x = k)) && decide ((f k).length ≤ 8) && decide (len k ≤ 100) && ((f k).all fun x => decide (len x ≤ 100) && (lookR st.recs x).any (smallR len)) && (lookR st.recs k).isNone && decide (st.recs.length ≤ 100)
end
section
variable {α : Type} [DecidableEq α] [BEq α] [Append α]
noncomputable def nodeStep (len : α → Nat) (names : List α) (f : α → List α) (st : RS α) (k : α) : Option (RS α) :=
  match ndGet st.ns k with
  | none => none
  | some q => if fitN len names f st k q then some ⟨(doneF st.ns st.ready k q.sc).1, (doneF st.ns st.ready k q.sc).2, st.passed, st.fin + 1, st.recs ++ [(k, recF k (f k) (hereR st.recs))]⟩ else none
end
section
variable {α : Type} [DecidableEq α] [BEq α] [Append α]
noncomputable def innerF (len : α → Nat) (names : List α) (f : α → List α) : List α → RS α → Option (RS α)
  | [], st => some st
  | k :: ks, st => match nodeStep len names f st k with
    | none => none
    | some st' => innerF len names f ks st'
end
section
variable {α : Type} [DecidableEq α] [BEq α] [Append α]
noncomputable def loopF (len : α → Nat) (names : List α) (f : α → List α) : Nat → RS α → Option (List (α × List α × List α))
  | 0, _ => none
  | n + 1, st =>
    if decide (st.ready.length ≤ 900) && st.ready.all (ndHas st.ns) then
      if decide (st.fin < st.passed) || !st.ready.isEmpty then
        match innerF len names f st.ready ⟨outF st.ns st.ready, [], st.passed + st.ready.length, st.fin, st.recs⟩ with
        | none => none
        | some st' => loopF len names f n st'
      else some st.recs
    else none
end
section
variable {α : Type} [DecidableEq α] [BEq α] [Append α]
noncomputable def fitA (names : List α) (f : α → List α) (ns : List (Nd α)) (k : α) : Bool := (names.any fun x => decide (x = k)) && decide (ns.length + (f k).length ≤ 500) && decide ((f k).length ≤ 100) && ns.all fun q => decide (q.sc.length ≤ 100)
end
section
variable {α : Type} [DecidableEq α] [BEq α] [Append α]
noncomputable def addsF (names : List α) (f : α → List α) : List α → List (Nd α) → Option (List (Nd α))
  | [], ns => some ns
  | k :: ks, ns => if fitA names f ns k then addsF names f ks (addF ns k (f k)) else none
end
section
variable {α : Type} [DecidableEq α] [BEq α] [Append α]
noncomputable def prepOK (rk : α → Nat) (ns : List (Nd α)) : Bool := (ns.all fun q => decide (q.sc.length ≤ 1000) && q.sc.all fun j => ndHas ns j && decide (rk q.nm < rk j)) && decide (ns.length ≤ 90)
end
section
variable {α : Type} [DecidableEq α] [BEq α] [Append α]
noncomputable def startF (ns : List (Nd α)) : List α := (ns.filter fun q => q.np == 0).map (·.nm)
end
section
variable {α : Type} [DecidableEq α] [BEq α] [Append α]
noncomputable def runF (len : α → Nat) (rk : α → Nat) (names : List α) (f : α → List α) : Option (List (α × List α × List α)) :=
  match addsF names f names.reverse [] with
  | none => none
  | some ns => if prepOK rk ns then loopF len names f 10 ⟨ns, startF ns, 0, 0, []⟩ else none
end
noncomputable def parseL (b : List Nat) : List (List Nat) × Bool × List Nat :=
  let p := partL (replL (replL (replL b [40, 63, 62, 46, 42, 63] [60]) [41] []) [46, 42] [62]) 62
  (splitL p.1 60, p.2.1, p.2.2)
noncomputable def goL (n : List Nat) : List (List Nat) → Nat → Option Nat
  | [], a => some a
  | p :: ps, a => match findL n p a with
    | none => none
    | some k => goL n ps (k + p.length)
noncomputable def takeL (pp : List (List Nat) × Bool × List Nat) (n : List Nat) : Bool :=
  match pp.1 with
  | [] => false
  | p0 :: ps => pre p0 n && match goL n ps p0.length with
    | none => false
    | some k => if pp.2.1 then endsL n pp.2.2 && Nat.ble (k + pp.2.2.length) n.length else Nat.beq k n.length
noncomputable def spL : List (Option Nat) → List Nat × List (Option Nat)
  | some c :: r => (c :: (spL r).1, (spL r).2)
  | l => ([], l)
noncomputable def jBL : Nat → List (Option Nat) → List (List Nat)
  | 0, _ => []
  | _, [] => []
  | _, [none] => [[46, 42]]
  | n + 1, none :: r => if (spL r).2 = [] then [[46, 42], (spL r).1] else ([40, 63, 62, 46, 42, 63] ++ (spL r).1 ++ [41]) :: jBL n (spL r).2
  | _, _ => []
noncomputable def bodyL (x : List Nat) : List Nat := (spL (trF x)).1 ++ (jBL (trF x).length (spL (trF x)).2).flatten
noncomputable def wrapL (x : List Nat) : List Nat := [40, 63, 62, 46, 42, 63] ++ x ++ [41]
noncomputable def tpLoopL : Nat → Nat → List (List Nat) → List (List Nat)
  | 0, _, ss => ss
  | k + 1, i, ss => tpLoopL k (i + 1) (ss.set i (wrapL (ss.getD i [])))
noncomputable def tpL (x : List Nat) : List Nat :=
  let ss := splitL x 42
  let qs := tpLoopL (ss.length - 2) 1 ss
  (qs.set (qs.length - 1) ([46, 42] ++ qs.getD (qs.length - 1) [])).flatten
noncomputable def patStepL (ags : List (List Nat)) (k : Nat) (acc : List Nat) : List Nat :=
  if (ags.getD k []).length = 1 then (if (ags.getD (k - 1) []).length = 2 then acc ++ ags.getD k [] else acc ++ ([42] ++ ags.getD k [])) else acc
noncomputable def patLoopL (ags : List (List Nat)) : Nat → Nat → List Nat → List Nat
  | 0, _, acc => acc
  | n + 1, k, acc => patLoopL ags n (k + 1) (patStepL ags k acc)
noncomputable def patL (ags : List (List Nat)) : List Nat := patLoopL ags (ags.length - 1) 1 (ags.getD 0 [])
noncomputable def lastL (w : List Nat) : List Nat := w.drop (w.length - 1)
noncomputable def rowL (names : List (List Nat)) (f : List Nat → List (List Nat)) (row : List (List Nat)) : List (List Nat) := row.flatMap fun way => (names.filter fun name => (f name).any (· == lastL way)).map fun name => way ++ name
noncomputable def waysLoopL (names : List (List Nat)) (f : List Nat → List (List Nat)) : Nat → List (List Nat) → List (List Nat) → List (List Nat)
  | 0, _, ways => ways
  | n + 1, row, ways => waysLoopL names f n (rowL names f row) (ways ++ row)
noncomputable def waysL (names : List (List Nat)) (f : List Nat → List (List Nat)) : List (List Nat) := waysLoopL names f 5 [names.getD 0 []] []
noncomputable def dueL (names : List (List Nat)) (f : List Nat → List (List Nat)) (x : List Nat) : List (List Nat) := (waysL names f).filter fun way => lastL way == x
noncomputable def markStepL (f : List Nat) (k : Nat) (l : List (List Nat)) : List (List Nat) := l ++ [(f.drop (k - 1)).take 2, (f.drop k).take 1]
noncomputable def markLoopL (f : List Nat) : Nat → Nat → List (List Nat) → List (List Nat)
  | 0, _, l => l
  | n + 1, k, l => markLoopL f n (k + 1) (markStepL f k l)
noncomputable def marksL (f : List Nat) : List (List Nat) := markLoopL f (f.length - 1) 1 [f.take 1]
noncomputable def sharedL (ways : List (List Nat)) : List (List Nat) := (marksL (ways.getD 0 [])).filter fun m => ways.all fun x => (findL x m 0).isSome
section
/-! the tables, by lists of signs -/
noncomputable def names0 : List (List Nat) := [[97], [98], [99], [100], [101]]
noncomputable def selL (m k : Nat) : List (List Nat) := ((List.range k).filter fun i => Nat.beq (m / 2 ^ i % 2) 1).map fun i => [97 + i]
noncomputable def fL (m2 m3 m4 : Nat) : List Nat → List (List Nat)
  | [98] => selL 1 1
  | [99] => selL m2 2
  | [100] => selL m3 3
  | [101] => selL m4 4
  | _ => []
noncomputable def nms : List (List Nat) := [[97,98,101], [97,98,99,100,101], [97,42,99,101], [97,42,99,100,101], [97,42,99,42,101], [97,98,42,101], [97,101], [97,98,42,100,101], [97,99,101], [97,42,100,101], [97,99,100,101], [97,98,99,101], [97,42,101], [97,98,100,101], [97,98,99,42,101], [97,99,42,101], [97,100,101]]
noncomputable def pieceQ (i k : Nat) : List Nat := if k = 0 then [] else if k = 1 then [97 + i] else [42, 97 + i]
noncomputable def qLq : Nat → List Nat → List Nat
  | _, [] => []
  | i, k :: ks => pieceQ i k ++ qLq (i + 1) ks
noncomputable def qL (ks : List Nat) : List Nat := if ks.getD 4 0 = 0 then qLq 0 ks ++ [42] else qLq 0 ks
noncomputable def allK : Nat → List (List Nat)
  | 0 => [[]]
  | n + 1 => (allK n).flatMap fun ks => [0 :: ks, 1 :: ks, 2 :: ks]
noncomputable def maskB : List Bool → Nat
  | [] => 0
  | b :: bs => (if b then 1 else 0) + 2 * maskB bs
noncomputable def tb (r i : Nat) : Bool := Nat.beq (Nat.land (Nat.shiftRight r i) 1) 1
noncomputable def rowOf (b : List Nat) : List Bool := nms.map (takeL (parseL b))
noncomputable def rowM (b : List Nat) : Nat := maskB (rowOf b)
noncomputable def okP (b : List Nat) : Bool := Nat.ble b.length 100 && (parseL b).1.tail.all fun p => !p.isEmpty
noncomputable def okT (q : List Nat) : Bool := (q.all fun c => Nat.beq c 42 || lettr c) && Nat.ble q.length 100
noncomputable def idxN (w : List Nat) : Nat := nms.findIdx fun n => n == w
noncomputable def webR (m2 m3 m4 : Nat) : Bool :=
  match runF List.length (fun a => names0.idxOf a) names0 (fL m2 m3 m4) with
  | none => false
  | some recs => names0.all fun x => match lookR recs x with
    | none => false
    | some r => r.2.isPerm (dueL names0 (fL m2 m3 m4) x) && r.1 == sharedL (dueL names0 (fL m2 m3 m4) x)
noncomputable def webD (m2 m3 m4 : Nat) : Bool :=
  (names0.all fun x => match dueL names0 (fL m2 m3 m4) x with
    | [] => false
    | d :: ds => Nat.ble (d :: ds).length 60 && !d.isEmpty && (marksL d).all fun m => !m.isEmpty) &&
  Nat.ble (waysL names0 (fL m2 m3 m4)).length 1000 && (waysL names0 (fL m2 m3 m4)).all fun y => !y.isEmpty && Nat.ble y.length 100
noncomputable def goalI (m2 m3 m4 : Nat) : List Nat := (dueL names0 (fL m2 m3 m4) [101]).map idxN
noncomputable def patI (m2 m3 m4 : Nat) : Nat := idxN (patL (sharedL (dueL names0 (fL m2 m3 m4) [101])))
end
section
noncomputable def rows18 : List Nat := [131071, 0, 26787, 34048, 18434, 52510, 65536, 8192, 1024, 2, 1034, 75402, 8322, 64, 1, 256, 2048, 2308]
noncomputable def rowsQ : List Nat := [131071, 131071, 131071, 0, 26787, 26787, 26787, 26787, 26787, 0, 34048, 34048, 0, 18434, 18434, 18434, 18434, 18434, 52510, 52510, 52510, 0, 18434, 18434, 18434, 18434, 18434, 0, 65536, 65536, 0, 8192, 8192, 8192, 8192, 8192, 0, 1024, 1024, 0, 2, 2, 2, 2, 2, 1034, 1034, 1034, 0, 2, 2, 2, 2, 2, 75402, 75402, 75402, 0, 8322, 8322, 8322, 8322, 8322, 0, 1024, 1024, 0, 2, 2, 2, 2, 2, 1034, 1034, 1034, 0, 2, 2, 2, 2, 2, 0, 64, 64, 0, 1, 1, 1, 1, 1, 0, 256, 256, 0, 2048, 2048, 2048, 2048, 2048, 2308, 2308, 2308, 0, 2048, 2048, 2048, 2048, 2048, 0, 65536, 65536, 0, 8192, 8192, 8192, 8192, 8192, 0, 1024, 1024, 0, 2, 2, 2, 2, 2, 1034, 1034, 1034, 0, 2, 2, 2, 2, 2, 75402, 75402, 75402, 0, 8322, 8322, 8322, 8322, 8322, 0, 1024, 1024, 0, 2, 2, 2, 2, 2, 1034, 1034, 1034, 0, 2, 2, 2, 2, 2, 131071, 131071, 131071, 0, 26787, 26787, 26787, 26787, 26787, 0, 34048, 34048, 0, 18434, 18434, 18434, 18434, 18434, 52510, 52510, 52510, 0, 18434, 18434, 18434, 18434, 18434, 0, 65536, 65536, 0, 8192, 8192, 8192, 8192, 8192, 0, 1024, 1024, 0, 2, 2, 2, 2, 2, 1034, 1034, 1034, 0, 2, 2, 2, 2, 2, 75402, 75402, 75402, 0, 8322, 8322, 8322, 8322, 8322, 0, 1024, 1024, 0, 2, 2, 2, 2, 2, 1034, 1034, 1034, 0, 2, 2, 2, 2, 2]
noncomputable def rowsT : List Nat := [1, 2, 2308, 1034, 52510, 26787, 64, 8322, 256, 75402, 1024, 2048, 131071, 8192, 18434, 34048, 65536]
theorem rowsQ_ok : ((allK 5).map fun ks => rowM (bodyL (qL ks))) = rowsQ := by decide +kernel
theorem rowsQ_18 : (rowsQ.all fun r => rows18.any (Nat.beq r)) = true := by decide +kernel
theorem okQ : ((allK 5).all fun ks => okT (qL ks) && okP (bodyL (qL ks))) = true := by decide +kernel
theorem rowsT_ok : (nms.map fun p => rowM (tpL p)) = rowsT := by decide +kernel
theorem rowsB_ok : (nms.map fun p => rowM (bodyL p)) = rowsT := by decide +kernel
noncomputable def okS (p : List Nat) : Bool := (splitL p 42).all (fun x => x.all lettr && Nat.ble x.length 100) && Nat.blt 0 (splitL p 42).length && Nat.ble (splitL p 42).length 100
theorem okN : (nms.all fun p => okT p && okP (bodyL p) && okP (tpL p) && okS p) = true := by decide +kernel
theorem okR : (nms.all fun p => (allK 5).any fun ks => qL ks == replL p [42] []) = true := by decide +kernel
noncomputable def webAll (m2 m3 m4 : Nat) : Bool := webR m2 m3 m4 && webD m2 m3 m4 && (goalI m2 m3 m4).all (fun i => Nat.blt i 17) && Nat.blt (patI m2 m3 m4) 17 && (sharedL (dueL names0 (fL m2 m3 m4) [101])).all (fun x => Nat.ble x.length 2) && !(sharedL (dueL names0 (fL m2 m3 m4) [101])).isEmpty && Nat.ble (sharedL (dueL names0 (fL m2 m3 m4) [101])).length 100 &&
  (rows18.all fun r => (goalI m2 m3 m4).all (tb r) == tb r (patI m2 m3 m4)) && (goalI m2 m3 m4).all (tb (rowsT.getD (patI m2 m3 m4) 0))
noncomputable def websOf (m2 m3 : Nat) : Bool := (List.range 15).all fun i => webAll m2 m3 (i + 1)
theorem web_1_1 : websOf 1 1 = true := by decide +kernel
theorem web_1_2 : websOf 1 2 = true := by decide +kernel
theorem web_1_3 : websOf 1 3 = true := by decide +kernel
theorem web_1_4 : websOf 1 4 = true := by decide +kernel
theorem web_1_5 : websOf 1 5 = true := by decide +kernel
theorem web_1_6 : websOf 1 6 = true := by decide +kernel
theorem web_1_7 : websOf 1 7 = true := by decide +kernel
theorem web_2_1 : websOf 2 1 = true := by decide +kernel
theorem web_2_2 : websOf 2 2 = true := by decide +kernel
theorem web_2_3 : websOf 2 3 = true := by decide +kernel
theorem web_2_4 : websOf 2 4 = true := by decide +kernel
theorem web_2_5 : websOf 2 5 = true := by decide +kernel
theorem web_2_6 : websOf 2 6 = true := by decide +kernel
theorem web_2_7 : websOf 2 7 = true := by decide +kernel
theorem web_3_1 : websOf 3 1 = true := by decide +kernel
theorem web_3_2 : websOf 3 2 = true := by decide +kernel
theorem web_3_3 : websOf 3 3 = true := by decide +kernel
theorem web_3_4 : websOf 3 4 = true := by decide +kernel
theorem web_3_5 : websOf 3 5 = true := by decide +kernel
theorem web_3_6 : websOf 3 6 = true := by decide +kernel
theorem web_3_7 : websOf 3 7 = true := by decide +kernel
theorem web_all {m2 m3 m4 : Nat} (h2 : 1 ≤ m2 ∧ m2 ≤ 3) (h3 : 1 ≤ m3 ∧ m3 ≤ 7) (h4 : 1 ≤ m4 ∧ m4 ≤ 15) : webAll m2 m3 m4 = true := by
  have h : websOf m2 m3 = true := by
    rcases (show m2 = 1 ∨ m2 = 2 ∨ m2 = 3 by lia) with rfl | rfl | rfl <;> rcases (show m3 = 1 ∨ m3 = 2 ∨ m3 = 3 ∨ m3 = 4 ∨ m3 = 5 ∨ m3 = 6 ∨ m3 = 7 by lia) with rfl | rfl | rfl | rfl | rfl | rfl | rfl
    · exact web_1_1
    · exact web_1_2
    · exact web_1_3
    · exact web_1_4
    · exact web_1_5
    · exact web_1_6
    · exact web_1_7
    · exact web_2_1
    · exact web_2_2
    · exact web_2_3
    · exact web_2_4
    · exact web_2_5
    · exact web_2_6
    · exact web_2_7
    · exact web_3_1
    · exact web_3_2
    · exact web_3_3
    · exact web_3_4
    · exact web_3_5
    · exact web_3_6
    · exact web_3_7
  have := List.all_eq_true.mp h (m4 - 1) (List.mem_range.mpr (by lia))
  rw [show m4 - 1 + 1 = m4 by lia] at this
  exact this
end
end Mine
end

section
open PySem PySem.W PyProof.Rows PySem.Calls
set_option maxRecDepth 100000
set_option maxHeartbeats 8000000
namespace Mine
/-! small arithmetic -/
theorem ar_step {n i : Nat} (h : i < n) : n - i = n - (i + 1) + 1 := (Nat.sub_add_cancel (Nat.sub_pos_of_lt h)).symm
theorem ar_r1 {n : Nat} : n - 1 = ((n : Int) - 1).toNat := by
  cases n with
  | zero => rfl
  | succ m => exact (congrArg Int.toNat (Int.add_sub_cancel (m : Int) 1)).symm
theorem ar_r2 {n : Nat} : n - 2 = ((n : Int) - 1 - 1).toNat := by
  cases n with
  | zero => rfl
  | succ m =>
    show m - 1 = (((m : Int) + 1) - 1 - 1).toNat
    rw [Int.add_sub_cancel]
    exact ar_r1
theorem ar_t {a n : Nat} (h : a ≤ 100 + 7 * (n - 2)) (k : n ≤ 100) : a ≤ 800 := Nat.le_trans h (Nat.le_trans (Nat.add_le_add_left (Nat.mul_le_mul_left 7 (Nat.le_trans (Nat.sub_le n 2) k)) 100) (by decide))
theorem ar_t1 {a n i : Nat} (h : a ≤ 100 + 7 * i) (k : n ≤ 100) (hi : i < n - 2) : a ≤ 800 := Nat.le_trans h (Nat.le_trans (Nat.add_le_add_left (Nat.mul_le_mul_left 7 (Nat.le_trans (Nat.le_of_lt hi) (Nat.le_trans (Nat.sub_le n 2) k))) 100) (by decide))
theorem ar_i {n i : Nat} (hi : i < n - 1) (k : n ≤ 100) : i ≤ 98 := Nat.le_of_lt_succ (Nat.lt_of_lt_of_le hi (Nat.sub_le_sub_right k 1))
theorem ar_t2 {p n i : Nat} (h : p ≤ 2 + 3 * i) (k : n ≤ 100) (hi : i < n - 1) : p ≤ 300 := Nat.le_trans h (Nat.le_trans (Nat.add_le_add_left (Nat.mul_le_mul_left 3 (ar_i hi k)) 2) (by decide))
theorem ar_m {n : Nat} : 5 + n * 5 = (n + 1) * 5 := (Nat.add_comm _ _).trans (Nat.succ_mul n 5).symm
theorem ar_d1 {dp k l : Nat} (h : dp + (k + 1) < l) : dp + 1 + k < l := by rw [Nat.add_assoc, Nat.add_comm 1]; exact h
theorem ar_u1 {un k l : Nat} (h : un + 8 * (k + 1) < l) : un + 3 + 8 * k < l := Nat.lt_of_le_of_lt (by rw [Nat.add_assoc, Nat.add_comm 3]; exact Nat.add_le_add_left (Nat.add_le_add_left (show 3 ≤ 8 by decide) _) _) h
theorem ar_d2 {dp k need l : Nat} (h : dp + need < l) (hk : k ≤ need) : dp + k < l := Nat.lt_of_le_of_lt (Nat.add_le_add_left hk _) h
theorem ar_u2 {un k need l : Nat} (h : un + 8 * need < l) (hk : k ≤ need) : un + 8 * k < l := Nat.lt_of_le_of_lt (Nat.add_le_add_left (Nat.mul_le_mul_left 8 hk) _) h
theorem ar_d3 {dp a k need l : Nat} (h : k + 1 ≤ need) (h2 : dp ≤ a + 1) (h3 : a + need < l) : dp + k < l := Nat.lt_of_le_of_lt (Nat.le_trans (Nat.add_le_add_right h2 k) (by rw [Nat.add_assoc, Nat.add_comm 1]; exact Nat.add_le_add_left h a)) h3
theorem ar_u3 {un a k need l : Nat} (h : k + 1 ≤ need) (h2 : un ≤ a + 7) (h3 : a + 8 * need < l) : un + 8 * k < l := Nat.lt_of_le_of_lt (Nat.le_trans (Nat.add_le_add_right h2 (8 * k)) (by rw [Nat.add_assoc, Nat.add_comm 7]; exact Nat.add_le_add_left (Nat.le_trans (Nat.add_le_add_left (show 7 ≤ 8 by decide) _) (Nat.mul_le_mul_left 8 h)) a)) h3
theorem ar_f {n i fuel : Nat} (h : n - i ≤ fuel) (hi : i < n) : fuel = fuel - 1 + 1 := (Nat.sub_add_cancel (Nat.le_trans (Nat.sub_pos_of_lt hi) h)).symm
theorem f2 {a b y B m : Nat} (h : y ≤ B) (k : a + b + B ≤ m) : a + b + y ≤ m := Nat.le_trans (Nat.add_le_add_left h _) k
theorem f3 {a b y c B m : Nat} (h : y ≤ B) (k : a + b + B + c ≤ m) : a + b + y + c ≤ m := Nat.le_trans (Nat.add_le_add_right (Nat.add_le_add_left h _) _) k
theorem seq_at {n k : Nat} (h : k < n) : seqIndex? (k : Int) n = some k := by
  unfold seqIndex?
  dsimp only
  rw [if_neg (show ¬ (k : Int) < 0 from Int.not_lt.mpr (Int.natCast_nonneg k))]
  exact if_pos (Bool.and_eq_true_iff.mpr ⟨decide_eq_true (Int.natCast_nonneg k), decide_eq_true (Int.ofNat_lt.mpr h)⟩)
theorem seq_last {n : Nat} (h : 0 < n) : seqIndex? (-1 : Int) n = some (n - 1) := by
  cases n with
  | zero => cases h
  | succ m =>
    unfold seqIndex?
    dsimp only
    rw [if_pos (show (-1 : Int) < 0 by decide), show (-1 : Int) + ((m + 1 : Nat) : Int) = (m : Int) from (Int.add_comm _ _).trans (Int.add_sub_cancel (m : Int) 1)]
    exact if_pos (Bool.and_eq_true_iff.mpr ⟨decide_eq_true (Int.natCast_nonneg m), decide_eq_true (Int.ofNat_lt.mpr (Nat.lt_succ_self m))⟩)
noncomputable abbrev ar (dp un : Nat) (gd : Option (List Code)) (fr : List Env) : Around := { handled := none, depth := dp, frames := some fr, guards := gd, units := un }
noncomputable abbrev PP : Program := PySem.Challenge.rw_in0296_01.prog

/-- the top's readings, of whatever program -/
structure Tp (loose : List Str) (mean : ExcName → Option Value) (mg mb : Str → Option Value) (h : Heap) : Prop where
  g : h.Ns mainGlobals mg
  b : h.Ns builtinsNs mb
  nolimit : h.NoLimit
  builtins : ∀ x : Str, x ≠ "__name__" → mb x = bootBuiltins x
theorem Tp.keeps {loose : List Str} {mean : ExcName → Option Value} {mg mb : Str → Option Value} {h h' : Heap} (T : Tp loose mean mg mb h) (hk : ∀ b o, h.get? b = some o → h'.get? b = some o) : Tp loose mean mg mb h' := ⟨T.g.keeps hk, T.b.keeps hk, T.nolimit.keeps hk, T.builtins⟩

/-- the frames around, and what lies below them all -/
structure BelK (w : World) (loose : List Str) (mean : ExcName → Option Value) (mg mb : Str → Option Value) (A : Around) (base : Heap) (fr : List Env) (h : Heap) : Prop where
  b : Below A base fr h
  x : (KB w.params).In base
  t : Tp loose mean mg mb base
/-- what a call finds around it; `h₀` is the heap at the call, without what the call may turn -/
structure Amb (w : World) (loose : List Str) (mean : ExcName → Option Value) (mg mb : Str → Option Value) (need dp un : Nat) (gd : Option (List Code)) (fr : List Env) (h₀ : Heap) : Prop where
  x : (KB w.params).In h₀
  t : Tp loose mean mg mb h₀
  b : ∃ base, BelK w loose mean mg mb (ar dp un gd fr) base fr h₀
  dp : dp + need < recursionLimit
  un : un + 8 * need < cLine

noncomputable def Newly (h₀ h' : Heap) (tl : List (Addr × Obj)) : Prop := (∀ p ∈ tl, h'.get? p.1 = some p.2 ∧ h₀.get? p.1 = none) ∧ (tl.map (·.1)).Nodup

/-- a call that may turn the objects `σ₀` alone -/
noncomputable def MutC (w : World) (loose : List Str) (mean : ExcName → Option Value) (mg mb : Str → Option Value) (need : Nat) (f : Value) (args : List Value) (h₀ : Heap) (σ₀ : List (Addr × Obj)) (P : List (Addr × Obj) → Value → Prop) : Prop :=
  ∀ (dp un : Nat) (gd : Option (List Code)) (fr : List Env) (s : Shared) (R : Result → Shared → Prop), h₀.StaysIn s.heap → h₀.objs.size ≤ s.heap.objs.size → Newly h₀ s.heap σ₀ → 0 < s.toks →
    Amb w loose mean mg mb need dp un gd fr h₀ →
    (∀ v tl h' tk, h₀.StaysIn h' → Newly h₀ h' tl → s.toks ≤ tk → P tl v → R (.ok (.ret v)) { s with heap := h', toks := tk }) →
    codeAny (model PP w) (ar dp un gd fr) (.call f ⟨args, []⟩) R s
noncomputable abbrev PureC (w : World) (loose : List Str) (mean : ExcName → Option Value) (mg mb : Str → Option Value) (need : Nat) (f : Value) (args : List Value) (h₀ : Heap) (P : List (Addr × Obj) → Value → Prop) : Prop :=
  MutC w loose mean mg mb need f args h₀ [] P

end Mine
end

section
open PySem PySem.W PyProof.Rows PySem.Calls
set_option maxRecDepth 100000
set_option maxHeartbeats 4000000
set_option linter.unusedVariables false
namespace Mine
noncomputable abbrev Rho := Str → Option Value
noncomputable abbrev Led := List (Addr × Obj)

/-- what stands in a frame: the entry heap `h₀` is kept, `ρ` the names, `σ` objects made since -/
structure FS (h₀ : Heap) (env : Env) (ρ : Rho) (σ : Led) (h : Heap) : Prop where
  keep : h₀.StaysIn h
  ns : ∃ m, h.Ns env.locals m ∧ ∀ x, env.kindOf x = some .local → m x = ρ x
  cell : ∀ x c, env.cells.lookup x = some c → h.IsCell c (ρ x)
  off : h₀.get? env.locals = none
  coff : env.func ≠ none → ∀ x c, env.kindOf x = some .cell → env.cells.lookup x = some c → h₀.get? c = none
  cne : ∀ x c, env.cells.lookup x = some c → c ≠ env.locals
  cnd : ∀ x y c, env.cells.lookup x = some c → env.cells.lookup y = some c → x = y
  led : ∀ p ∈ σ, h.get? p.1 = some p.2 ∧ h₀.get? p.1 = none ∧ p.1 ≠ env.locals ∧ ∀ x c, env.cells.lookup x = some c → p.1 ≠ c
  nd : (σ.map (·.1)).Nodup

section
variable {h₀ h h' : Heap} {env : Env} {ρ ρ' : Rho} {σ σ' : Led}
theorem FS.get (F : FS h₀ env ρ σ h) {a : Addr} {o : Obj} (hm : (a, o) ∈ σ) : h.get? a = some o := (F.led _ hm).1
theorem FS.fresh (F : FS h₀ env ρ σ h) {a : Addr} {o : Obj} (hm : (a, o) ∈ σ) : h₀.get? a = none := (F.led _ hm).2.1
theorem FS.old (F : FS h₀ env ρ σ h) {a : Addr} {o : Obj} (e : h₀.get? a = some o) : h.get? a = some o := F.keep _ _ e

theorem FS.stays (F : FS h₀ env ρ σ h) (st : h.StaysIn h') : FS h₀ env ρ σ h' where
  keep := fun b o e => st b o (F.keep b o e)
  ns := let ⟨m, n, r⟩ := F.ns; ⟨m, n.keeps st, r⟩
  cell := fun x c hc => (F.cell x c hc).keeps st
  off := F.off
  coff := F.coff
  cne := F.cne
  cnd := F.cnd
  led := fun p hp => ⟨st _ _ (F.led p hp).1, (F.led p hp).2⟩
  nd := F.nd

theorem FS.add (F : FS h₀ env ρ σ h) (st : h.StaysIn h') {tl : Led} (hg : ∀ p ∈ tl, h'.get? p.1 = some p.2 ∧ h.get? p.1 = none) (hn : (tl.map (·.1)).Nodup) : FS h₀ env ρ (tl ++ σ) h' :=
  { F.stays st with
    led := fun p hp => by
      rcases List.mem_append.mp hp with hp | hp
      · obtain ⟨g, n⟩ := hg p hp
        refine ⟨g, ?_, ?_, ?_⟩
        · cases e : h₀.get? p.1 with
          | none => rfl
          | some o => have := F.keep _ _ e; rw [n] at this; cases this
        · intro e
          obtain ⟨m, ⟨o, _, _, ho, _⟩, _⟩ := F.ns
          rw [← e, n] at ho; cases ho
        · intro x c hc e
          obtain ⟨o, ho, _⟩ := F.cell x c hc
          rw [← e, n] at ho; cases ho
      · exact ⟨st _ _ (F.led p hp).1, (F.led p hp).2⟩
    nd := by
      rw [List.map_append]
      refine List.nodup_append.mpr ⟨hn, F.nd, ?_⟩
      intro a ha b hb e
      obtain ⟨p, hp, rfl⟩ := List.mem_map.mp ha
      obtain ⟨q, hq, rfl⟩ := List.mem_map.mp hb
      have h1 := (F.led q hq).1
      rw [← e, (hg p hp).2] at h1; cases h1 }

theorem FS.push (F : FS h₀ env ρ σ h) (o : Obj) (hf : o.isFreed = false) : FS h₀ env ρ ((h.objs.size, o) :: σ) (h.push o) :=
  F.add (tl := [(h.objs.size, o)]) (fun b o' e => Heap.get?_push_of_some _ e) (fun p hp => by
    rw [List.mem_singleton.mp hp]
    refine ⟨Heap.get?_push_size _ hf, ?_⟩
    cases e : h.get? h.objs.size with
    | none => rfl
    | some o' => exact absurd (Heap.lt_size e) (Nat.lt_irrefl _)) (by simp)
theorem FS.sub (F : FS h₀ env ρ σ h) (hs : ∀ p ∈ σ', p ∈ σ) (hn : (σ'.map (·.1)).Nodup) : FS h₀ env ρ σ' h :=
  { F with led := fun p hp => F.led p (hs p hp), nd := hn }
theorem FS.drop {p : Addr × Obj} (F : FS h₀ env ρ (p :: σ) h) : FS h₀ env ρ σ h := F.sub (fun q hq => .tail _ hq) (List.nodup_cons.mp F.nd).2
theorem FS.sublist (F : FS h₀ env ρ σ h) (hs : σ'.Sublist σ) : FS h₀ env ρ σ' h := F.sub (fun _ hp => hs.subset hp) ((hs.map _).nodup F.nd)

theorem FS.perm (F : FS h₀ env ρ σ h) (p : σ.Perm σ') : FS h₀ env ρ σ' h := F.sub (fun _ hp => p.symm.subset hp) ((p.map _).nodup_iff.mp F.nd)

/-- one object of the ledger turned -/
inductive Upd (a : Addr) (o o' : Obj) : Led → Led → Prop
  | head (r : Led) : Upd a o o' ((a, o) :: r) ((a, o') :: r)
  | tail (p : Addr × Obj) {r r' : Led} : Upd a o o' r r' → Upd a o o' (p :: r) (p :: r')
theorem Upd.mem {a : Addr} {o o' : Obj} {l l' : Led} (u : Upd a o o' l l') : (a, o) ∈ l := by
  induction u with
  | head _ => exact .head _
  | tail _ _ ih => exact .tail _ ih
theorem Upd.map {a : Addr} {o o' : Obj} {l l' : Led} (u : Upd a o o' l l') : l'.map (·.1) = l.map (·.1) := by
  induction u with
  | head _ => rfl
  | tail p _ ih => exact congrArg (p.1 :: ·) ih
theorem Upd.mem' {a : Addr} {o o' : Obj} {l l' : Led} (u : Upd a o o' l l') (hn : (l.map (·.1)).Nodup) (p : Addr × Obj) (hp : p ∈ l') : p = (a, o') ∨ (p ∈ l ∧ p.1 ≠ a) := by
  induction u with
  | head r =>
    cases hp with
    | head => exact .inl rfl
    | tail _ hp => exact .inr ⟨.tail _ hp, fun e => (List.nodup_cons.mp hn).1 (List.mem_map.mpr ⟨p, hp, e⟩)⟩
  | tail q u ih =>
    cases hp with
    | head => exact .inr ⟨.head _, fun e => (List.nodup_cons.mp hn).1 (List.mem_map.mpr ⟨_, u.mem, e.symm⟩)⟩
    | tail _ hp => exact (ih (List.nodup_cons.mp hn).2 hp).imp id fun h => ⟨.tail _ h.1, h.2⟩

theorem FS.upd {a : Addr} {o : Obj} {f : Obj → Obj} (F : FS h₀ env ρ σ h) (U : Upd a o (f o) σ σ') (hf : (f o).isFreed = false) : FS h₀ env ρ σ' (h.update a f) := by
  have D := F.led _ U.mem
  have hs : Heap.SameBut a h (h.update a f) := Heap.SameBut.update ..
  refine ⟨fun b x e => (hs.2 b fun z => ?_).trans (F.keep b x e), ?_, fun x c hc => (F.cell x c hc).sameBut hs fun z => D.2.2.2 x c hc z.symm, F.off, F.coff, F.cne, F.cnd, fun p hp => ?_, U.map ▸ F.nd⟩
  · rw [z, D.2.1] at e; cases e
  · obtain ⟨m, n, r⟩ := F.ns
    exact ⟨m, n.sameBut hs (Ne.symm D.2.2.1), r⟩
  · rcases U.mem' F.nd p hp with rfl | ⟨h1, ne⟩
    · exact ⟨Heap.get?_update_self _ D.1 hf, D.2⟩
    · exact ⟨(hs.2 _ ne).trans (F.led p h1).1, (F.led p h1).2⟩
end

/-- the ledger's or the entry heap's word of an object -/
noncomputable def Kn (h₀ : Heap) (σ : Led) (a : Addr) (o : Obj) : Prop := (a, o) ∈ σ ∨ h₀.get? a = some o
theorem FS.kn {h₀ h : Heap} {env : Env} {ρ : Rho} {σ : Led} (F : FS h₀ env ρ σ h) {a : Addr} {o : Obj} (k : Kn h₀ σ a o) : h.get? a = some o := k.elim F.get F.old

structure Ok (w : World) (loose : List Str) (mean : ExcName → Option Value) (mg mb : Str → Option Value) (need : Nat) (A : Around) (env : Env) (h₀ : Heap) : Prop where
  x : (KB w.params).In h₀
  t : Tp loose mean mg mb h₀
  hh : A.handled = none
  bel : ∀ h, h₀.StaysIn h → (∃ m, h.Ns env.locals m) → ∃ base fr, A.frames = some fr ∧ BelK w loose mean mg mb A base fr h
  dp : A.depth + need < recursionLimit
  un : A.units + 8 * need < cLine
  ek : env.scope.kind = .function
  eg : env.globals = mainGlobals
  eb : env.builtins = builtinsNs

inductive PostP (h₀ : Heap) (env : Env) (g : Array GenState) (d : Drawn) (os : OsState) (P : Rho → Led → Prop) (s' : Shared) : Prop
  | mk (ρ' : Rho) (σ' : Led) (h' : Heap) (tk : Nat) (y1 : s' = ⟨h', g, d, tk, os⟩) (y2 : FS h₀ env ρ' σ' h') (y3 : P ρ' σ') : PostP h₀ env g d os P s'
noncomputable def Post {α : Type} (h₀ : Heap) (env : Env) (s : Shared) (Q : α → Rho → Led → Prop) (a : α) (s' : Shared) : Prop := PostP h₀ env s.gens s.drawn s.os (Q a) s'

noncomputable def W {α : Type} (w : World) (A : Around) (h₀ : Heap) (env : Env) (ρ : Rho) (σ : Led) (t : Sem α) (Q : α → Rho → Led → Prop) : Prop :=
  ∀ s : Shared, 0 < s.toks → FS h₀ env ρ σ s.heap → wpAny (model PP w) A t (Post h₀ env s Q) (fun _ _ => False) s

section
variable {α β : Type} {w : World} {A : Around} {h₀ : Heap} {env : Env} {ρ ρ' : Rho} {σ σ' : Led}

theorem W.mono {t : Sem α} {Q Q' : α → Rho → Led → Prop} (h : W w A h₀ env ρ σ t Q) (hq : ∀ a ρ σ, Q a ρ σ → Q' a ρ σ) : W w A h₀ env ρ σ t Q' := fun s ht F =>
  wpAny_mono (h s ht F) (fun a s' ⟨ρ', σ', h', tk, e, F', q⟩ => ⟨ρ', σ', h', tk, e, F', hq _ _ _ q⟩) fun _ _ x => x

theorem W.done {a : α} {Q : α → Rho → Led → Prop} (h : Q a ρ σ) : W w A h₀ env ρ σ (pure a : Sem α) Q := fun s _ F => wpAny_pure ⟨ρ, σ, s.heap, s.toks, rfl, F, h⟩

/-- the step behind a first tree -/
theorem W.step {t : Sem α} {s : Shared} {R : α → Shared → Prop} {Q₁ : α → Rho → Led → Prop} (h : W w A h₀ env ρ σ t Q₁) (ht : 0 < s.toks) (F : FS h₀ env ρ σ s.heap)
    (k : ∀ a ρ' σ' h' tk, 0 < tk → s.toks ≤ tk → FS h₀ env ρ' σ' h' → Q₁ a ρ' σ' → R a { s with heap := h', toks := tk }) : wpAny (model PP w) A t R (fun _ _ => False) s :=
  wpAny_with_toks (n := s.toks) (Nat.le_refl _) (wpAny_mono (h s ht F) (fun a s' ⟨ρ', σ', h', tk, e, F', q⟩ htk => by
    subst e
    exact k a ρ' σ' h' tk (Nat.lt_of_lt_of_le ht htk) htk F' q) fun _ _ x => x.elim)

/-- a post behind two steps -/
theorem Post.next {s : Shared} {h' : Heap} {tk : Nat} {Q : α → Rho → Led → Prop} {a : α} {s' : Shared} (h : Post h₀ env { s with heap := h', toks := tk } Q a s') : Post h₀ env s Q a s' := by
  obtain ⟨ρ', σ', h'', tk', e, F, q⟩ := h
  exact ⟨ρ', σ', h'', tk', e, F, q⟩
theorem W.at {t : Sem α} {s : Shared} {Q : α → Rho → Led → Prop} (h : W w A h₀ env ρ σ t Q) {h' : Heap} {tk : Nat} (ht : 0 < tk) (F : FS h₀ env ρ σ h') :
    wpAny (model PP w) A t (Post h₀ env s Q) (fun _ _ => False) { s with heap := h', toks := tk } :=
  wpAny_mono (h { s with heap := h', toks := tk } ht F) (fun _ _ p => p.next) fun _ _ x => x

theorem W.bind {t : Sem α} {f : α → Sem β} {Q : β → Rho → Led → Prop} (h : W w A h₀ env ρ σ t fun a ρ' σ' => W w A h₀ env ρ' σ' (f a) Q) : W w A h₀ env ρ σ (t >>= f) Q := fun s ht F =>
  wpAny_bind (W.step h ht F fun _ _ _ _ _ htk _ F' q => q.at htk F')

theorem W.sub {t : Sem α} {Q : α → Rho → Led → Prop} (h : W w A h₀ env ρ σ' t Q) (hs : σ'.Sublist σ) : W w A h₀ env ρ σ t Q := fun s ht F => h s ht (F.sublist hs)
end

section
variable {w : World} {A : Around} {h₀ : Heap} {env : Env} {ρ : Rho} {σ : Led}
/-! statements -/
theorem W.execs_nil {Q : Flow → Rho → Led → Prop} (h : Q .next ρ σ) : W w A h₀ env ρ σ (execs [] env) Q := fun s _ F => wpAny_execs_nil ⟨ρ, σ, s.heap, s.toks, rfl, F, h⟩
theorem W.execs_cons {st : Stmt} {rest : List Stmt} {Q : Flow → Rho → Led → Prop} (h : W w A h₀ env ρ σ (exec st env) fun f ρ' σ' => match f with | .next => W w A h₀ env ρ' σ' (execs rest env) Q | f => Q f ρ' σ') :
    W w A h₀ env ρ σ (execs (st :: rest) env) Q := fun s ht F => wpAny_execs_cons (W.step h ht F fun f ρ' σ' h' tk htk _ F' q => by
  cases f with
  | next => exact q.at htk F'
  | _ => exact ⟨ρ', σ', h', tk, rfl, F', q⟩)
/-! what comes behind a statement, hidden from its walk -/
noncomputable def Tagd (_ : Flow → Rho → Led → Prop) : Prop := True
noncomputable def HidB (Q R : Flow → Rho → Led → Prop) : Prop := ∀ f ρ σ, Q f ρ σ → R f ρ σ
noncomputable def HidC (w : World) (A : Around) (h₀ : Heap) (env : Env) (rest : List Stmt) (Q R : Flow → Rho → Led → Prop) : Prop := ∀ f ρ σ, (match f with | .next => W w A h₀ env ρ σ (execs rest env) Q | f => Q f ρ σ) → R f ρ σ
theorem W.consH {st : Stmt} {rest : List Stmt} {Q : Flow → Rho → Led → Prop} (_ : Tagd Q) (h : ∀ R, Tagd R → HidC w A h₀ env rest Q R → W w A h₀ env ρ σ (exec st env) R) : W w A h₀ env ρ σ (execs (st :: rest) env) Q :=
  W.execs_cons (h _ trivial fun _ _ _ x => x)
theorem W.hideB {st : Stmt} {rest : List Stmt} {Q : Flow → Rho → Led → Prop} (h : ∀ R, Tagd R → HidB Q R → W w A h₀ env ρ σ (execs (st :: rest) env) R) : W w A h₀ env ρ σ (execs (st :: rest) env) Q := h Q trivial fun _ _ _ x => x
section
variable {rest : List Stmt} {Q R : Flow → Rho → Led → Prop}
theorem HidB.out {f : Flow} (h : HidB Q R) (p : Q f ρ σ) : R f ρ σ := h _ _ _ p
theorem HidC.next (h : HidC w A h₀ env rest Q R) (p : W w A h₀ env ρ σ (execs rest env) Q) : R .next ρ σ := h .next _ _ p
theorem HidC.brk (h : HidC w A h₀ env rest Q R) (p : Q .brk ρ σ) : R .brk ρ σ := h .brk _ _ p
theorem HidC.ret {v : Value} (h : HidC w A h₀ env rest Q R) (p : Q (.ret v) ρ σ) : R (.ret v) ρ σ := h (.ret v) _ _ p
end
theorem W.assign {x : Str} {pos' pos : Pos} {value : Expr} {Q : Flow → Rho → Led → Prop} (h : W w A h₀ env ρ σ (eval value env) fun v ρ' σ' => W w A h₀ env ρ' σ' (storeName env x v) fun _ => Q .next)
    (hs : swapsWith value (some (.Name x pos')) pos.line env = pure false := by with_unfolding_all rfl) : W w A h₀ env ρ σ (exec (.Assign [.Name x pos'] value pos) env) Q := fun s ht F =>
  wpAny_Assign_Name (W.step h ht F fun _ _ _ _ _ htk _ F' q => wpAny_mono (q.at htk F') (fun _ _ p => p) fun _ _ x => x) hs
theorem W.aug {x : Str} {pos' pos : Pos} {op : Operator} {value : Expr} {Q : Flow → Rho → Led → Prop}
    (h : W w A h₀ env ρ σ (loadName env x) fun old ρ₁ σ₁ => W w A h₀ env ρ₁ σ₁ (eval value env) fun v ρ₂ σ₂ => W w A h₀ env ρ₂ σ₂ (inplaceOp op old v) fun r ρ₃ σ₃ => W w A h₀ env ρ₃ σ₃ (storeName env x r) fun _ => Q .next) :
    W w A h₀ env ρ σ (exec (.AugAssign (.Name x pos') op value pos) env) Q := fun s ht F =>
  wpAny_AugAssign_Name (W.step h ht F fun _ _ _ _ _ htk _ F' q => W.step q htk F' fun _ _ _ _ _ htk _ F' q => W.step q htk F' fun _ _ _ _ _ htk _ F' q => q.at htk F')
theorem W.ifs {test : Expr} {body orelse : List Stmt} {pos : Pos} {Q : Flow → Rho → Led → Prop}
    (h : W w A h₀ env ρ σ (isTrue test env (eval test env)) fun b ρ' σ' => if b then W w A h₀ env ρ' σ' (execs body env) Q else W w A h₀ env ρ' σ' (execs orelse env) Q) :
    W w A h₀ env ρ σ (exec (.If test body orelse pos) env) Q := fun s ht F =>
  wpAny_If (W.step h ht F fun b _ _ _ _ htk _ F' q => by cases b <;> exact q.at htk F')
theorem W.ret {e : Expr} {pos : Pos} {Q : Flow → Rho → Led → Prop} (h : W w A h₀ env ρ σ (eval e env) fun v ρ' σ' => Q (.ret v) ρ' σ') : W w A h₀ env ρ σ (exec (.Return (some e) pos) env) Q := fun s ht F =>
  wpAny_Return_some (wpAny_mono (h s ht F) (fun _ _ p => p) fun _ _ x => x)
theorem W.brk {pos : Pos} {Q : Flow → Rho → Led → Prop} (h : Q .brk ρ σ) : W w A h₀ env ρ σ (exec (.Break pos) env) Q := fun s _ F => wpAny_Break ⟨ρ, σ, s.heap, s.toks, rfl, F, h⟩
theorem W.assert {test : Expr} {msg : Option Expr} {pos : Pos} {Q : Flow → Rho → Led → Prop} (h : W w A h₀ env ρ σ (isTrue test env (eval test env)) fun b ρ' σ' => b = true ∧ Q .next ρ' σ') :
    W w A h₀ env ρ σ (exec (.Assert test msg pos) env) Q := fun s ht F => wpAny_Assert_holds (W.step h ht F fun _ ρ' σ' h' tk _ _ F' q => ⟨q.1, ρ', σ', h', tk, rfl, F', q.2⟩)
end
end Mine
end

section
open PySem PySem.W PyProof.Rows PySem.Calls
set_option maxRecDepth 100000
set_option maxHeartbeats 4000000
set_option linter.unusedVariables false
namespace Mine
section
variable {w : World} {A : Around} {h₀ : Heap} {env : Env} {ρ : Rho} {σ : Led} {loose : List Str} {mean : ExcName → Option Value} {mg mb : Str → Option Value} {need : Nat}

theorem Post.now {α : Type} {s : Shared} {h' : Heap} {tk : Nat} {Q : α → Rho → Led → Prop} {a : α} {ρ' : Rho} {σ' : Led} (F : FS h₀ env ρ' σ' h') (q : Q a ρ' σ') : Post h₀ env s Q a { s with heap := h', toks := tk } := ⟨ρ', σ', h', tk, rfl, F, q⟩

/-! names -/
theorem W.local {x : Str} {pos : Pos} {v : Value} {Q : Value → Rho → Led → Prop} (hv : ρ x = some v) (h : Q v ρ σ)
    (hk : env.scope.kind = .function := by with_unfolding_all rfl) (hx : env.kindOf x = some .local := by with_unfolding_all rfl) (hd : (x == ("__debug__" : Str)) = false := by with_unfolding_all rfl) : W w A h₀ env ρ σ (eval (.Name x pos) env) Q := fun s ht F => by
  obtain ⟨m, n, r⟩ := F.ns
  exact wpAny_Name (wpAny_loadName_local hk hx n ((r x hx).trans hv) (Post.now F h)) hd
theorem W.cell {x : Str} {pos : Pos} {c : Addr} {v : Value} {Q : Value → Rho → Led → Prop} (hc : env.cells.lookup x = some c) (hv : ρ x = some v) (h : Q v ρ σ)
    (hk : env.scope.kind = .function := by rfl) (hx : env.kindOf x = some .cell := by rfl) (hd : (x == ("__debug__" : Str)) = false := by with_unfolding_all rfl) : W w A h₀ env ρ σ (eval (.Name x pos) env) Q := fun s ht F =>
  wpAny_Name (wpAny_loadName_cell hk hx hc (hv ▸ F.cell x c hc) (Post.now F h)) hd
theorem W.cellM {x : Str} {pos : Pos} {c : Addr} {v : Value} {Q : Value → Rho → Led → Prop} (hv : ρ x = some v) (h : Q v ρ σ) (hc : env.cells.lookup x = some c := by with_unfolding_all rfl)
    (hk : env.scope.kind = .function := by with_unfolding_all rfl) (hx : env.kindOf x = some .cell := by with_unfolding_all rfl) (hd : (x == ("__debug__" : Str)) = false := by with_unfolding_all rfl) : W w A h₀ env ρ σ (eval (.Name x pos) env) Q := W.cell hc hv h hk hx hd
theorem W.localN {x : Str} {v : Value} {Q : Value → Rho → Led → Prop} (hv : ρ x = some v) (h : Q v ρ σ)
    (hk : env.scope.kind = .function := by with_unfolding_all rfl) (hx : env.kindOf x = some .local := by with_unfolding_all rfl) : W w A h₀ env ρ σ (loadName env x) Q := fun s ht F => by
  obtain ⟨m, n, r⟩ := F.ns
  exact wpAny_loadName_local hk hx n ((r x hx).trans hv) (Post.now F h)
theorem W.glob (O : Ok w loose mean mg mb need A env h₀) {x : Str} {pos : Pos} {v : Value} {Q : Value → Rho → Led → Prop} (e : nsIn (KB w.params) mainGlobals x = some (some v)) (h : Q v ρ σ)
    (hx : env.kindOf x = some .globalImplicit := by with_unfolding_all rfl) (hd : (x == ("__debug__" : Str)) = false := by with_unfolding_all rfl) : W w A h₀ env ρ σ (eval (.Name x pos) env) Q := fun s ht F =>
  Name_function_global O.ek hx (loadGlobal_global (O.eg ▸ O.t.g.keeps F.keep) (mg_of O.x O.t.g e) (Post.now F h)) hd
theorem W.boot (O : Ok w loose mean mg mb need A env h₀) {x : Str} {pos : Pos} {v : Value} {Q : Value → Rho → Led → Prop} (e : nsIn (KB w.params) mainGlobals x = some none) (hv : bootBuiltins x = some v) (h : Q v ρ σ)
    (hn : x ≠ "__name__" := by decide) (hx : env.kindOf x = some .globalImplicit := by with_unfolding_all rfl) (hd : (x == ("__debug__" : Str)) = false := by with_unfolding_all rfl) : W w A h₀ env ρ σ (eval (.Name x pos) env) Q := fun s ht F =>
  Name_function_global O.ek hx (loadGlobal_builtin (O.eg ▸ O.t.g.keeps F.keep) (mg_none_of O.x O.t.g e) (O.eb ▸ O.t.b.keeps F.keep) ((O.t.builtins x hn).trans hv) (Post.now F h)) hd

/-! stores -/
theorem FS.store {h h' : Heap} {x : Str} {v : Value} {m : Rho} (F : FS h₀ env ρ σ h) (hm : ∀ y, env.kindOf y = some .local → m y = ρ y) (hx : env.cells.lookup x = none)
    (hn : h'.Ns env.locals fun y => if y = x then some v else m y) (hs : Heap.SameBut env.locals h h') : FS h₀ env (fun y => if y = x then some v else ρ y) σ h' where
  keep := fun b o e => (hs.2 b fun z => by rw [z, F.off] at e; cases e).trans (F.keep b o e)
  ns := ⟨_, hn, fun y hy => by by_cases e : y = x <;> simp [e, hm y hy]⟩
  cell := fun y c hc => by
    have : y ≠ x := fun e => by rw [e, hx] at hc; cases hc
    rw [if_neg this]; exact (F.cell y c hc).sameBut hs (F.cne y c hc)
  off := F.off
  coff := F.coff
  cne := F.cne
  cnd := F.cnd
  led := fun p hp => ⟨(hs.2 _ (F.led p hp).2.2.1).trans (F.led p hp).1, (F.led p hp).2⟩
  nd := F.nd
theorem FS.storeX {h h' : Heap} {x : Str} {c : Addr} {v : Value} (F : FS h₀ env ρ σ h) (hf : h₀.get? c = none) (hx : env.kindOf x = some .cell) (hc : env.cells.lookup x = some c)
    (hn : h'.IsCell c (some v)) (hs : Heap.SameBut c h h') : FS h₀ env (fun y => if y = x then some v else ρ y) σ h' where
  keep := fun b o e => (hs.2 b fun z => by rw [z, hf] at e; cases e).trans (F.keep b o e)
  ns := by
    obtain ⟨m, n, r⟩ := F.ns
    refine ⟨m, n.sameBut hs (Ne.symm (F.cne x c hc)), fun y hy => ?_⟩
    have : y ≠ x := fun e => by rw [e, hx] at hy; cases hy
    rw [if_neg this]; exact r y hy
  cell := fun y c' hc' => by
    by_cases e : y = x
    · subst e; rw [hc] at hc'; cases hc'; simpa using hn
    · rw [if_neg e]; exact (F.cell y c' hc').sameBut hs fun z => e (F.cnd y x c' hc' (z ▸ hc))
  off := F.off
  coff := F.coff
  cne := F.cne
  cnd := F.cnd
  led := fun p hp => ⟨(hs.2 _ ((F.led p hp).2.2.2 x c hc)).trans (F.led p hp).1, (F.led p hp).2⟩
  nd := F.nd
theorem FS.storeC {h h' : Heap} {x : Str} {c : Addr} {v : Value} (F : FS h₀ env ρ σ h) (hfn : env.func ≠ none) (hx : env.kindOf x = some .cell) (hc : env.cells.lookup x = some c)
    (hn : h'.IsCell c (some v)) (hs : Heap.SameBut c h h') : FS h₀ env (fun y => if y = x then some v else ρ y) σ h' := F.storeX (F.coff hfn x c hx hc) hx hc hn hs
/-- a name set -/
noncomputable def upd (ρ : Rho) (x : Str) (v : Value) : Rho := fun y => if y = x then some v else ρ y
theorem look_here {ρ : Rho} {x : Str} {v : Value} : upd ρ x v x = some v := if_pos rfl
theorem look_there {ρ : Rho} {x z : Str} {v u : Value} (h : z ≠ x) (e : ρ z = some u) : upd ρ x v z = some u := (if_neg h).trans e
theorem W.store {x : Str} {v : Value} {Q : Unit → Rho → Led → Prop} (h : Q () (upd ρ x v) σ)
    (hx : env.kindOf x = some .local := by with_unfolding_all rfl) (hc : env.cells.lookup x = none := by with_unfolding_all rfl) (hk : env.scope.kind = .function := by with_unfolding_all rfl) : W w A h₀ env ρ σ (storeName env x v) Q := fun s ht F => by
  obtain ⟨m, n, r⟩ := F.ns
  exact wpAny_storeName_local hx n (fun h' hn hs => Post.now (F.store r hc hn hs) h) (by rw [hk]; rfl)
theorem W.assignL {x : Str} {pos' pos : Pos} {value : Expr} {Q : Flow → Rho → Led → Prop} (h : W w A h₀ env ρ σ (eval value env) fun v ρ' σ' => Q .next (upd ρ' x v) σ')
    (hs : swapsWith value (some (.Name x pos')) pos.line env = pure false := by with_unfolding_all rfl) (hx : env.kindOf x = some .local := by with_unfolding_all rfl) (hc : env.cells.lookup x = none := by with_unfolding_all rfl) (hk : env.scope.kind = .function := by with_unfolding_all rfl) :
    W w A h₀ env ρ σ (exec (.Assign [.Name x pos'] value pos) env) Q := W.assign (h.mono fun _ _ _ q => W.store q hx hc hk) hs
theorem W.storeC {x : Str} {c : Addr} {v : Value} {Q : Unit → Rho → Led → Prop} (hc : env.cells.lookup x = some c) (h : Q () (upd ρ x v) σ)
    (hx : env.kindOf x = some .cell := by rfl) (hk : env.scope.kind = .function := by rfl) (hfn : env.func ≠ none := by exact fun h => nomatch h) : W w A h₀ env ρ σ (storeName env x v) Q := fun s ht F =>
  wpAny_storeName_cell hk hx hc (F.cell x c hc) fun h' hv hs => ⟨_, σ, h', s.toks, rfl, F.storeC hfn hx hc hv hs, h⟩

theorem W.storeM {x : Str} {c : Addr} {v : Value} {Q : Unit → Rho → Led → Prop} (h : Q () (upd ρ x v) σ) (hc : env.cells.lookup x = some c := by with_unfolding_all rfl)
    (hx : env.kindOf x = some .cell := by with_unfolding_all rfl) (hk : env.scope.kind = .function := by with_unfolding_all rfl) (hfn : env.func ≠ none := by with_unfolding_all exact (Option.some_ne_none _)) : W w A h₀ env ρ σ (storeName env x v) Q := W.storeC hc h hx hk hfn
theorem W.storeX {x : Str} {c : Addr} {v : Value} {Q : Unit → Rho → Led → Prop} (hf : h₀.get? c = none) (hc : env.cells.lookup x = some c) (h : Q () (upd ρ x v) σ)
    (hx : env.kindOf x = some .cell := by rfl) (hk : env.scope.kind = .function := by rfl) : W w A h₀ env ρ σ (storeName env x v) Q := fun s ht F =>
  wpAny_storeName_cell hk hx hc (F.cell x c hc) fun h' hv hs => ⟨_, σ, h', s.toks, rfl, F.storeX hf hx hc hv hs, h⟩

/-! constants -/
theorem W.cInt {i : Int} {k : Nat} {pos : Pos} {Q : Value → Rho → Led → Prop} (h : ∀ t, 0 < t → Q (.int i t) ρ σ) : W w A h₀ env ρ σ (eval (.Constant (.int i) k pos) env) Q := fun s ht F => wpAny_Constant_int (Post.now F (h _ ht))
theorem W.cStr {x : Str} {k : Nat} {pos : Pos} {Q : Value → Rho → Led → Prop} (h : ∀ t, 0 < t → Q (.str x t) ρ σ) : W w A h₀ env ρ σ (eval (.Constant (.str x) k pos) env) Q := fun s ht F => wpAny_Constant_str (Post.now F (h _ ht))
theorem W.cNone {k : Nat} {pos : Pos} {Q : Value → Rho → Led → Prop} (h : Q .none ρ σ) : W w A h₀ env ρ σ (eval (.Constant .none k pos) env) Q := fun s ht F => wpAny_Constant_none (Post.now F h)
theorem W.cBool {b : Bool} {k : Nat} {pos : Pos} {Q : Value → Rho → Led → Prop} (h : Q (.bool b) ρ σ) : W w A h₀ env ρ σ (eval (.Constant (.bool b) k pos) env) Q := fun s ht F => wpAny_Constant_bool (Post.now F h)

/-! composites -/
theorem W.binop {l r : Expr} {op : Operator} {pos : Pos} {Q : Value → Rho → Led → Prop}
    (h : W w A h₀ env ρ σ (eval l env) fun a ρ₁ σ₁ => W w A h₀ env ρ₁ σ₁ (eval r env) fun b ρ₂ σ₂ => W w A h₀ env ρ₂ σ₂ (binaryOp op a b) Q) : W w A h₀ env ρ σ (eval (.BinOp l op r pos) env) Q := fun s ht F =>
  wpAny_BinOp (W.step h ht F fun _ _ _ _ _ htk _ F' q => W.step q htk F' fun _ _ _ _ _ htk _ F' q => q.at htk F')
theorem W.cmp1 {l r : Expr} {op : CmpOp} {pos : Pos} {Q : Value → Rho → Led → Prop}
    (h : W w A h₀ env ρ σ (eval l env) fun a ρ₁ σ₁ => W w A h₀ env ρ₁ σ₁ (eval r env) fun b ρ₂ σ₂ => W w A h₀ env ρ₂ σ₂ (compareOp op a b) Q)
    (hm : behindInMarks op r = false := by with_unfolding_all rfl) : W w A h₀ env ρ σ (eval (.Compare l [op] [r] pos) env) Q := fun s ht F =>
  wpAny_Compare1 (W.step h ht F fun _ _ _ _ _ htk _ F' q => W.step q htk F' fun _ _ _ _ _ htk _ F' q => q.at htk F') hm
theorem W.test1 {l r : Expr} {op : CmpOp} {pos : Pos} {whole : Sem Value} {Q : Bool → Rho → Led → Prop}
    (h : W w A h₀ env ρ σ (eval l env) fun a ρ₁ σ₁ => W w A h₀ env ρ₁ σ₁ (eval r env) fun b ρ₂ σ₂ => W w A h₀ env ρ₂ σ₂ (compareOp op a b) fun c ρ₃ σ₃ => W w A h₀ env ρ₃ σ₃ (truthy c) Q)
    (hm : behindInMarks op r = false := by with_unfolding_all rfl) : W w A h₀ env ρ σ (isTrue (.Compare l [op] [r] pos) env whole) Q := fun s ht F =>
  wpAny_isTrue_Compare1 (W.step h ht F fun _ _ _ _ _ htk _ F' q => W.step q htk F' fun _ _ _ _ _ htk _ F' q => W.step q htk F' fun _ _ _ _ _ htk _ F' q => q.at htk F') hm
theorem W.test {e : Expr} {whole : Sem Value} {Q : Bool → Rho → Led → Prop} (h : W w A h₀ env ρ σ whole fun v ρ₁ σ₁ => W w A h₀ env ρ₁ σ₁ (truthy v) Q)
    (he : isTrue e env whole = (do let v ← whole; standAt e.pos; holding [v] (truthy v)) := by with_unfolding_all rfl) : W w A h₀ env ρ σ (isTrue e env whole) Q := fun s ht F =>
  isTrue_plain (W.step h ht F fun _ _ _ _ _ htk _ F' q => q.at htk F') he
theorem W.testNot {x : Expr} {pos : Pos} {whole : Sem Value} {Q : Bool → Rho → Led → Prop} (h : W w A h₀ env ρ σ (isTrue x env (eval x env)) fun c ρ' σ' => Q (!c) ρ' σ') :
    W w A h₀ env ρ σ (isTrue (.UnaryOp .Not x pos) env whole) Q := fun s ht F => isTrue_not (W.step h ht F fun _ _ _ _ _ _ _ F' q => Post.now F' q)
theorem W.testAnd {x : Expr} {rest : List Expr} {pos : Pos} {whole : Sem Value} {Q : Bool → Rho → Led → Prop}
    (h : W w A h₀ env ρ σ (isTrue x env (eval x env)) fun c ρ' σ' => if c then W w A h₀ env ρ' σ' (isTrue (.BoolOp .And rest pos) env whole) Q else Q false ρ' σ') :
    W w A h₀ env ρ σ (isTrue (.BoolOp .And (x :: rest) pos) env whole) Q := fun s ht F => isTrue_and (W.step h ht F fun c _ _ _ _ htk _ F' q => by
  cases c
  · exact Post.now F' q
  · exact q.at htk F')
theorem W.testAnd0 {pos : Pos} {whole : Sem Value} {Q : Bool → Rho → Led → Prop} (h : Q true ρ σ) : W w A h₀ env ρ σ (isTrue (.BoolOp .And [] pos) env whole) Q := fun s ht F => isTrue_and_nil ⟨ρ, σ, s.heap, s.toks, rfl, F, h⟩
theorem W.testOr {x : Expr} {rest : List Expr} {pos : Pos} {whole : Sem Value} {Q : Bool → Rho → Led → Prop}
    (h : W w A h₀ env ρ σ (isTrue x env (eval x env)) fun c ρ' σ' => if c then Q true ρ' σ' else W w A h₀ env ρ' σ' (isTrue (.BoolOp .Or rest pos) env whole) Q) :
    W w A h₀ env ρ σ (isTrue (.BoolOp .Or (x :: rest) pos) env whole) Q := fun s ht F => isTrue_or (W.step h ht F fun c _ _ _ _ htk _ F' q => by
  cases c
  · exact q.at htk F'
  · exact Post.now F' q)
theorem W.testOr0 {pos : Pos} {whole : Sem Value} {Q : Bool → Rho → Led → Prop} (h : Q false ρ σ) : W w A h₀ env ρ σ (isTrue (.BoolOp .Or [] pos) env whole) Q := fun s ht F => isTrue_or_nil ⟨ρ, σ, s.heap, s.toks, rfl, F, h⟩
theorem W.and1 {e : Expr} {op : BoolOp} {pos : Pos} {Q : Value → Rho → Led → Prop} (h : W w A h₀ env ρ σ (eval e env) Q) : W w A h₀ env ρ σ (eval (.BoolOp op [e] pos) env) Q := fun s ht F => BoolOp_one (h s ht F)
theorem W.and {e₁ e₂ : Expr} {rest : List Expr} {pos : Pos} {Q : Value → Rho → Led → Prop}
    (h : W w A h₀ env ρ σ (eval e₁ env) fun v ρ₁ σ₁ => W w A h₀ env ρ₁ σ₁ (truthy v) fun c ρ₂ σ₂ => if c then W w A h₀ env ρ₂ σ₂ (eval (.BoolOp .And (e₂ :: rest) pos) env) Q else Q v ρ₂ σ₂) :
    W w A h₀ env ρ σ (eval (.BoolOp .And (e₁ :: e₂ :: rest) pos) env) Q := fun s ht F => BoolOp_and (W.step h ht F fun v _ _ _ _ htk _ F' q => W.step q htk F' fun c _ _ _ _ htk _ F' q => by
  cases c
  · exact Post.now F' q
  · exact q.at htk F')
theorem W.or {e₁ e₂ : Expr} {rest : List Expr} {pos : Pos} {Q : Value → Rho → Led → Prop}
    (h : W w A h₀ env ρ σ (eval e₁ env) fun v ρ₁ σ₁ => W w A h₀ env ρ₁ σ₁ (truthy v) fun c ρ₂ σ₂ => if c then Q v ρ₂ σ₂ else W w A h₀ env ρ₂ σ₂ (eval (.BoolOp .Or (e₂ :: rest) pos) env) Q) :
    W w A h₀ env ρ σ (eval (.BoolOp .Or (e₁ :: e₂ :: rest) pos) env) Q := fun s ht F => BoolOp_or (W.step h ht F fun v _ _ _ _ htk _ F' q => W.step q htk F' fun c _ _ _ _ htk _ F' q => by
  cases c
  · exact q.at htk F'
  · exact Post.now F' q)
theorem W.unary {op : UnaryOp} {x : Expr} {pos : Pos} {Q : Value → Rho → Led → Prop} (h : W w A h₀ env ρ σ (eval x env) fun v ρ₁ σ₁ => W w A h₀ env ρ₁ σ₁ (unaryOp op v) Q) : W w A h₀ env ρ σ (eval (.UnaryOp op x pos) env) Q := fun s ht F =>
  UnaryOp_ (W.step h ht F fun _ _ _ _ _ htk _ F' q => q.at htk F')
theorem W.ifExp {test body orelse : Expr} {pos : Pos} {Q : Value → Rho → Led → Prop}
    (h : W w A h₀ env ρ σ (isTrue test env (eval test env)) fun c ρ' σ' => if c then W w A h₀ env ρ' σ' (eval body env) Q else W w A h₀ env ρ' σ' (eval orelse env) Q) : W w A h₀ env ρ σ (eval (.IfExp test body orelse pos) env) Q := fun s ht F =>
  IfExp_ (W.step h ht F fun c _ _ _ _ htk _ F' q => by cases c <;> exact q.at htk F')
theorem W.sub1 {value slice : Expr} {pos : Pos} {Q : Value → Rho → Led → Prop}
    (h : W w A h₀ env ρ σ (eval value env) fun o ρ₁ σ₁ => W w A h₀ env ρ₁ σ₁ (eval slice env) fun i ρ₂ σ₂ => W w A h₀ env ρ₂ σ₂ (subscriptTail value slice o i) Q) : W w A h₀ env ρ σ (eval (.Subscript value slice pos) env) Q := fun s ht F =>
  Subscript_ (W.step h ht F fun _ _ _ _ _ htk _ F' q => W.step q htk F' fun _ _ _ _ _ htk _ F' q => q.at htk F')
theorem wpAny_letTemp {M : Program} {w : World} {A : Around} {E : Value → Shared → Prop} {base : Expr} {o r : Value} {Q : Unit → Shared → Prop} {s : Shared} (h : Q () s) : wpAny (model M w) A (letTemporaryGo base o r) Q E s := by
  unfold letTemporaryGo
  split
  · exact wpAny_pure h
  · exact wpAny_bind (wpAny_holding (wpAny_runValue (codeAny_builtin entry_let_go (show wpAny _ _ (ret .none) _ _ s from wpAny_pure (wpAny_pure h)))))
  · exact wpAny_pure h
theorem W.attr {value : Expr} {attr : Str} {pos : Pos} {Q : Value → Rho → Led → Prop}
    (h : W w A h₀ env ρ σ (eval value env) fun o ρ₁ σ₁ => W w A h₀ env ρ₁ σ₁ (getAttr o attr true) Q)
    (he : eval (.Attribute value attr pos) env = (do
      let o ← eval value env
      standAt pos.atName
      let r ← holding [o] (getAttr o attr true)
      letTemporaryGo value o r
      return r) := by with_unfolding_all rfl) : W w A h₀ env ρ σ (eval (.Attribute value attr pos) env) Q := fun s hts F => by
  rw [he]
  refine wpAny_bind (W.step h hts F fun o _ _ _ _ htk _ F' q => wpAny_bind (wpAny_standAt (wpAny_bind (wpAny_holding (wpAny_mono (q.at htk F') (fun r s₂ p => ?_) fun _ _ y => y)))))
  exact wpAny_bind (wpAny_letTemp (wpAny_pure p))
theorem W.named {x : Str} {p pos : Pos} {value : Expr} {Q : Value → Rho → Led → Prop} (h : W w A h₀ env ρ σ (eval value env) fun v ρ₁ σ₁ => W w A h₀ env ρ₁ σ₁ (storeName env x v) fun _ ρ₂ σ₂ => Q v ρ₂ σ₂) :
    W w A h₀ env ρ σ (eval (.NamedExpr (.Name x p) value pos) env) Q := fun s ht F =>
  wpAny_NamedExpr (W.step h ht F fun _ _ _ _ _ htk _ F' q => wpAny_assign_Name (wpAny_mono (q.at htk F') (fun _ _ p => p) fun _ _ x => x))

/-! calls -/
theorem W.call {func : Expr} {args : List Expr} {pos : Pos} {Q : Value → Rho → Led → Prop}
    (h : W w A h₀ env ρ σ (eval func env) fun f ρ₁ σ₁ => W w A h₀ env ρ₁ σ₁ (callWith pos f [] (backTo pos (starEach args env)) []) Q)
    (he : eval (.Call func args [] pos) env = (do callWith pos (← eval func env) [] (backTo pos (starEach args env)) (backToKw pos (keywordEach [] env))) := by with_unfolding_all rfl) : W w A h₀ env ρ σ (eval (.Call func args [] pos) env) Q := fun s ht F =>
  Call_ (W.step h ht F fun _ _ _ _ _ htk _ F' q => q.at htk F') he
theorem W.method {o : Expr} {name : Str} {apos pos : Pos} {args : List Expr} {pl : Sem Bool} {Q : Value → Rho → Led → Prop}
    (h : W w A h₀ env ρ σ (eval o env) fun ov ρ₁ σ₁ => W w A h₀ env ρ₁ σ₁ (getMethod ov name pl) fun fx ρ₂ σ₂ => W w A h₀ env ρ₂ σ₂ (callWith pos fx.1 fx.2 (backTo pos (starEach args env)) []) Q)
    (he : eval (.Call (.Attribute o name apos) args [] pos) env = (do
      let ov ← eval o env
      standAt apos.atName
      let (f, first) ← holding [ov] (getMethod ov name pl)
      callWith pos f first (backTo pos (starEach args env)) []) := by with_unfolding_all rfl) : W w A h₀ env ρ σ (eval (.Call (.Attribute o name apos) args [] pos) env) Q := fun s ht F =>
  MethodCall_ (W.step h ht F fun _ _ _ _ _ htk _ F' q => W.step q htk F' fun _ _ _ _ _ htk _ F' q => q.at htk F') he
theorem W.args0 {pos : Pos} {Q : List Value → Rho → Led → Prop} (h : Q [] ρ σ) : W w A h₀ env ρ σ (spliced (backTo pos (starEach [] env))) Q := fun s ht F => args_nil ⟨ρ, σ, s.heap, s.toks, rfl, F, h⟩
theorem W.args {e : Expr} {rest : List Expr} {pos : Pos} {Q : List Value → Rho → Led → Prop}
    (h : W w A h₀ env ρ σ (eval e env) fun v ρ₁ σ₁ => W w A h₀ env ρ₁ σ₁ (spliced (backTo pos (starEach rest env))) fun vs ρ₂ σ₂ => Q (v :: vs) ρ₂ σ₂)
    (he : starEach (e :: rest) env = (false, eval e env) :: starEach rest env := by with_unfolding_all rfl) : W w A h₀ env ρ σ (spliced (backTo pos (starEach (e :: rest) env))) Q := fun s ht F =>
  args_cons (W.step h ht F fun _ _ _ _ _ htk _ F' q => W.step q htk F' fun _ _ _ _ _ htk _ F' q => Post.now F' q) he
theorem W.argsE {e : Expr} {pos : Pos} {Q : List Value → Rho → Led → Prop} (h : W w A h₀ env ρ σ (eval e env) fun v => Q [v])
    (he : starEach [e] env = (false, eval e env) :: starEach [] env := by with_unfolding_all rfl) : W w A h₀ env ρ σ (spliced (backTo pos (starEach [e] env))) Q := W.args (h.mono fun _ _ _ q => W.args0 q) he
theorem W.callB {pos : Pos} {id : String} {e : Expr} {rest : List Expr} {Q : Value → Rho → Led → Prop}
    (h : W w A h₀ env ρ σ (spliced (backTo pos (starEach (e :: rest) env))) fun vs ρ₁ σ₁ => W w A h₀ env ρ₁ σ₁ (PySem.call (.builtin id) vs) Q)
    (he : starEach (e :: rest) env = (false, eval e env) :: starEach rest env := by with_unfolding_all rfl)
    (hplain : (backTo pos (starEach rest env)).any (·.1) = false := by with_unfolding_all rfl) : W w A h₀ env ρ σ (callWith pos (.builtin id) [] (backTo pos (starEach (e :: rest) env)) []) Q := fun s ht F =>
  callWith_builtin1 (W.step h ht F fun _ _ _ _ _ htk _ F' q => q.at htk F') he hplain
theorem W.callM0 {pos : Pos} {id : String} {first : List Value} {Q : Value → Rho → Led → Prop} (h : W w A h₀ env ρ σ (PySem.call (.builtin id) first) Q) :
    W w A h₀ env ρ σ (callWith pos (.builtin id) first (backTo pos (starEach [] env)) []) Q := fun s ht F => callWith_method0 (h s ht F)
theorem W.callM {pos : Pos} {id : String} {first : List Value} {e : Expr} {rest : List Expr} {Q : Value → Rho → Led → Prop}
    (h : W w A h₀ env ρ σ (spliced (backTo pos (starEach (e :: rest) env))) fun vs ρ₁ σ₁ => W w A h₀ env ρ₁ σ₁ (PySem.call (.builtin id) (first ++ vs)) Q)
    (he : starEach (e :: rest) env = (false, eval e env) :: starEach rest env := by rfl)
    (hplain : (backTo pos (starEach rest env)).any (·.1) = false := by rfl) : W w A h₀ env ρ σ (callWith pos (.builtin id) first (backTo pos (starEach (e :: rest) env)) []) Q := fun s ht F =>
  callWith_method1 (W.step h ht F fun _ _ _ _ _ htk _ F' q => q.at htk F') he hplain
theorem W.callM1 {pos : Pos} {id : String} {v : Value} {e : Expr} {rest : List Expr} {Q : Value → Rho → Led → Prop}
    (h : W w A h₀ env ρ σ (spliced (backTo pos (starEach (e :: rest) env))) fun vs ρ₁ σ₁ => W w A h₀ env ρ₁ σ₁ (PySem.call (.builtin id) (v :: vs)) Q)
    (he : starEach (e :: rest) env = (false, eval e env) :: starEach rest env := by with_unfolding_all rfl)
    (hplain : (backTo pos (starEach rest env)).any (·.1) = false := by with_unfolding_all rfl) : W w A h₀ env ρ σ (callWith pos (.builtin id) [v] (backTo pos (starEach (e :: rest) env)) []) Q := W.callM h he hplain
theorem W.callT {pos : Pos} {T : String} {e : Expr} {rest : List Expr} {Q : Value → Rho → Led → Prop}
    (h : W w A h₀ env ρ σ (spliced (backTo pos (starEach (e :: rest) env))) fun vs ρ₁ σ₁ => W w A h₀ env ρ₁ σ₁ (PySem.call (.type T) vs) Q)
    (he : starEach (e :: rest) env = (false, eval e env) :: starEach rest env := by with_unfolding_all rfl)
    (hplain : (backTo pos (starEach rest env)).any (·.1) = false := by with_unfolding_all rfl) : W w A h₀ env ρ σ (callWith pos (.type T) [] (backTo pos (starEach (e :: rest) env)) []) Q := fun s ht F =>
  callWith_type1 (W.step h ht F fun _ _ _ _ _ htk _ F' q => q.at htk F') he hplain
/-- a call of a def by its name -/
theorem W.callD (O : Ok w loose mean mg mb need A env h₀) {pos : Pos} {f : Addr} {oc : Value} {od : Option Addr} {fd : FuncData} {osl : Array (Option Value)} {e : Expr} {rest : List Expr} {Q : Value → Rho → Led → Prop}
    (ho : (KB w.params).lookup f = some ⟨oc, od, .func fd, osl⟩)
    (h : W w A h₀ env ρ σ (spliced (backTo pos (starEach (e :: rest) env))) fun vs ρ₁ σ₁ => W w A h₀ env ρ₁ σ₁ (PySem.call (.ref f) vs) Q)
    (he : starEach (e :: rest) env = (false, eval e env) :: starEach rest env := by with_unfolding_all rfl) : W w A h₀ env ρ σ (callWith pos (.ref f) [] (backTo pos (starEach (e :: rest) env)) []) Q := fun s ht F =>
  callWith_def (o := ⟨oc, od, .func fd, osl⟩) rfl (W.step h ht F fun _ _ _ _ _ htk _ F' q => ⟨F'.keep _ _ (O.x _ _ ho), q.at htk F'⟩) he

/-- a pure contract used -/
theorem W.pureC (O : Ok w loose mean mg mb need A env h₀) {k : Nat} {f : Value} {args : List Value} {P : Led → Value → Prop} {Q : Value → Rho → Led → Prop}
    (C : ∀ h, FS h₀ env ρ σ h → PureC w loose mean mg mb k f args h P) (hk : k ≤ need) (h : ∀ v tl, P tl v → Q v ρ (tl ++ σ)) : W w A h₀ env ρ σ (PySem.call f args) Q := fun s ht F => by
  obtain ⟨m, hn, r⟩ := F.ns
  obtain ⟨base, fr, hfr, B⟩ := O.bel s.heap F.keep ⟨m, hn⟩
  obtain ⟨hd, dp, fr', gd, un⟩ := A
  obtain rfl : hd = none := O.hh
  obtain rfl : fr' = some fr := hfr
  have h1 := O.dp
  have h2 := O.un
  dsimp only at h1 h2
  refine wpAny_call (C s.heap F dp un gd fr s _ (fun _ _ e => e) (Nat.le_refl _) ⟨fun _ h => (nomatch h), List.nodup_nil⟩ ht ⟨O.x.keeps F.keep, O.t.keeps F.keep, ⟨base, B⟩, ar_d2 h1 hk, ar_u2 h2 hk⟩ fun v tl h' tk st nw htk p => ⟨ρ, tl ++ σ, h', tk, rfl, F.add st (fun q hq => nw.1 q hq) nw.2, h v tl p⟩)
end
end Mine
end

section
open PySem PySem.W PyProof.Rows PySem.Calls
set_option maxRecDepth 100000
set_option maxHeartbeats 4000000
set_option linter.unusedVariables false
namespace Mine
section
variable {w : World} {h₀ : Heap} {loose : List Str} {mean : ExcName → Option Value} {mg mb : Str → Option Value} {k : Nat}
  {f : Addr} {name qual : Str} {params : Arguments} {body : List Stmt} {scope : Scope} {dV kV doc pm cdv ct oc : Value} {an od : Option Addr} {osl : Array (Option Value)} {args : List Value} {binds : List (Str × Value)}
  {P : Led → Value → Prop} {σ₀ : Led}

noncomputable def retOf : Flow → Value
  | .ret v => v
  | _ => .none

theorem bel_of {h₀ : Heap} {dp un : Nat} {gd : Option (List Code)} {fr : List Env} {base : Heap} (B : BelK w loose mean mg mb (ar dp un gd fr) base fr h₀) {env : Env} (hL : h₀.objs.size ≤ env.locals) (hf : env.frame = some env.locals) (hk : env.scope.kind = .function) :
    ∀ h, h₀.StaysIn h → (∃ m, h.Ns env.locals m) → ∃ base fr', ((ar dp un gd fr).deeper env).frames = some fr' ∧ BelK w loose mean mg mb ((ar dp un gd fr).deeper env) base fr' h := fun h st ⟨m, hn⟩ =>
  ⟨base, env :: fr, rfl, pushX B.b (⟨hn, st, hL⟩ : Fr h₀ env.locals h m) hf hk, B.x, B.t⟩

/-- a def without cells, walked -/
theorem enterP (ho : (KB w.params).lookup f = some ⟨oc, od, .func (fnOf name qual params body scope dV kV doc pm an cdv ct), osl⟩) (hcd : codeIn (KB w.params) cdv qual = true)
    (hbind : ∀ s : Shared, h₀.StaysIn s.heap → BindsTo s (fnOf name qual params body scope dV kV doc pm an cdv ct) ⟨args, []⟩ binds) (hloc : (binds.all fun x => decide (scope.names.lookup x.1 = some .local)) = true)
    (h : ∀ A L ρ, Ok w loose mean mg mb k A (envOf qual scope L f cdv) h₀ → (∀ x v, binds.reverse.lookup x = some v → ρ x = some v) → W w A h₀ (envOf qual scope L f cdv) ρ σ₀ (execs body (envOf qual scope L f cdv))
      fun fl ρ σ => ∃ σ', σ'.Sublist σ ∧ P σ' (retOf fl))
    (hcell : ∀ x ∈ scope.names, x.2 ≠ .cell := by decide) (hco : scope.isCoroutine = false := by rfl) (hgen : scope.isGenerator = false := by rfl) (hk : scope.kind = .function := by rfl) :
    MutC w loose mean mg mb (k + 1) (.ref f) args h₀ σ₀ P := by
  intro dp un gd fr s RR hs hsz hnew ht a hret
  obtain ⟨base, B⟩ := a.b
  have h1 := a.dp
  have h2 := a.un
  have hO : Ok w loose mean mg mb k ((ar dp un gd fr).deeper (envOf qual scope s.heap.objs.size f cdv)) (envOf qual scope s.heap.objs.size f cdv) h₀ :=
    ⟨a.x, a.t, rfl, bel_of B hsz rfl hk, ar_d1 a.dp, ar_u1 a.un, hk, rfl, rfl⟩
  have hno : s.heap.get? s.heap.objs.size = none := by
    cases e : s.heap.get? s.heap.objs.size with
    | none => rfl
    | some o => exact absurd (Heap.lt_size e) (Nat.lt_irrefl _)
  refine codeAny_call_def (R := RR) (fd := fnOf name qual params body scope dV kV doc pm an cdv ct) (body := body) (binds := binds) (Nat.lt_of_le_of_lt (Nat.le_add_right _ _) a.dp) (hs _ _ (a.x _ _ ho)) rfl (a.t.nolimit.keeps hs) (codeRec_of (fun b o e => hs b o (a.x b o e)) hcd) rfl (hbind s hs) hcell (locs hloc) (fun h₁ hns hk₁ => ?_) hco hgen hk
  have hno' : h₀.get? s.heap.objs.size = none := by
    cases e : h₀.get? s.heap.objs.size with
    | none => rfl
    | some o => have := hs _ _ e; rw [hno] at this; cases this
  have F₁ : FS h₀ (envOf qual scope s.heap.objs.size f cdv) (fun y => binds.reverse.lookup y) σ₀ h₁ :=
    ⟨fun b o e => hk₁ b o (hs b o e), ⟨_, hns, fun _ _ => rfl⟩, fun _ _ h => (by cases h), hno', fun _ _ _ _ h => (by cases h), fun _ _ h => (by cases h), fun _ _ _ h => (by cases h), fun p hp => ⟨hk₁ _ _ (hnew.1 p hp).1, (hnew.1 p hp).2, (fun e => by
      have := (hnew.1 p hp).1
      rw [show p.1 = s.heap.objs.size from e, hno] at this; cases this), fun _ _ h => (nomatch h)⟩, hnew.2⟩
  refine wpAny_mono (W.step (s := { s with heap := h₁, toks := s.toks + binds.length }) (h _ _ (fun y => binds.reverse.lookup y) hO fun _ _ e => e) (Nat.lt_of_lt_of_le ht (Nat.le_add_right _ _)) F₁ (R := fun fl s' => RR (.ok (.ret (match fl with | .ret v => v | _ => .none))) s') ?_) (fun fl s' q => q) fun _ _ x => x.elim
  intro fl ρ' σ' h' tk htk hle F' ⟨σ₁, hsub, p⟩
  have := hret (retOf fl) σ₁ h' tk F'.keep ⟨fun q hq => ⟨(F'.led q (hsub.subset hq)).1, (F'.led q (hsub.subset hq)).2.1⟩, (hsub.map _).nodup F'.nd⟩ (Nat.le_trans (Nat.le_add_right _ _) hle) p
  cases fl <;> exact this

theorem bindL_lookup (κ : Str → Option NameKind) : ∀ (binds : List (Str × Value)) (m : Str → Option Value) (x : Str), κ x = some .local → bindL κ binds m x = (binds.reverse.lookup x).or (m x)
  | [], m, x, _ => rfl
  | (n, v) :: r, m, x, hx => by
    unfold bindL
    rw [bindL_lookup κ r _ x hx, List.reverse_cons, List.lookup_append]
    cases h : r.reverse.lookup x with
    | some y => simp
    | none =>
      by_cases hn : x = n
      · subst hn; simp [hx]
      · have : (x == n) = false := by simpa using hn
        by_cases hk : κ n = some .local
        · simp [hk, hn, List.lookup_cons, this]
        · simp [hk, List.lookup_cons, this]
theorem bindC_lookup (κ : Str → Option NameKind) : ∀ (binds : List (Str × Value)) (m : Str → Option Value) (x : Str), κ x ≠ some .local → bindC κ binds m x = (binds.reverse.lookup x).or (m x)
  | [], m, x, _ => rfl
  | (n, v) :: r, m, x, hx => by
    unfold bindC
    rw [bindC_lookup κ r _ x hx, List.reverse_cons, List.lookup_append]
    cases h : r.reverse.lookup x with
    | some y => simp
    | none =>
      by_cases hn : x = n
      · subst hn; simp [hx]
      · have : (x == n) = false := by simpa using hn
        by_cases hk : κ n = some .local
        · simp [hk, List.lookup_cons, this]
        · simp [hk, hn, List.lookup_cons, this]

/-- a def with cells, walked -/
theorem enterC (ho : (KB w.params).lookup f = some ⟨oc, od, .func (fnOf name qual params body scope dV kV doc pm an cdv ct), osl⟩) (hcd : codeIn (KB w.params) cdv qual = true)
    (hbind : bindArgs (fnOf name qual params body scope dV kV doc pm an cdv ct) ⟨args, []⟩ = pure binds) (hkind : (binds.all fun y => scope.names.lookup y.1 == some .local || scope.names.lookup y.1 == some .cell) = true)
    (hnl : ((cellsFrom 0 scope.names []).all fun p => scope.names.lookup p.1 == some .cell) = true)
    (h : ∀ A L ρ, Ok w loose mean mg mb k A (envOfC qual scope L f cdv) h₀ → (∀ x v, binds.reverse.lookup x = some v → ρ x = some v) → W w A h₀ (envOfC qual scope L f cdv) ρ σ₀ (execs body (envOfC qual scope L f cdv))
      fun fl ρ σ => ∃ σ', σ'.Sublist σ ∧ P σ' (retOf fl))
    (hco : scope.isCoroutine = false := by rfl) (hgen : scope.isGenerator = false := by rfl) (hk : scope.kind = .function := by rfl) :
    MutC w loose mean mg mb (k + 1) (.ref f) args h₀ σ₀ P := by
  intro dp un gd fr s RR hs hsz hnew ht a hret
  obtain ⟨base, B⟩ := a.b
  have h1 := a.dp
  have h2 := a.un
  have hO : Ok w loose mean mg mb k ((ar dp un gd fr).deeper (envOfC qual scope s.heap.objs.size f cdv)) (envOfC qual scope s.heap.objs.size f cdv) h₀ :=
    ⟨a.x, a.t, rfl, bel_of B hsz rfl hk, ar_d1 a.dp, ar_u1 a.un, hk, rfl, rfl⟩
  have hno : ∀ n, s.heap.objs.size ≤ n → s.heap.get? n = none := fun n hn => by
    cases e : s.heap.get? n with
    | none => rfl
    | some o => exact absurd (Heap.lt_size e) (Nat.not_lt.mpr hn)
  refine codeAny_call_function (fd := fnOf name qual params body scope dV kV doc pm an cdv ct) (body := body) (Nat.lt_of_le_of_lt (Nat.le_add_right _ _) a.dp) (hs _ _ (a.x _ _ ho)) rfl hco hgen rfl (codeRec_of (fun b o e => hs b o (a.x b o e)) hcd) ?_
  rw [hbind]
  refine wpAny_pure (wpAny_with_toks (n := s.toks) (Nat.le_refl _) (wpAny_newFunctionEnv_cells hk (fun y hy => kindsX hkind _ y hy) fun env' he s₁ x hle₁ => ?_))
  subst he
  refine ⟨(a.t.nolimit.keeps hs).keeps x.toInCall.keep, codeAny_func ?_⟩
  have hname : ∀ (names : List (Str × NameKind)) (n n' : Nat) (acc acc' : List (Str × Addr)), acc.map (·.1) = acc'.map (·.1) → (cellsFrom n names acc).map (·.1) = (cellsFrom n' names acc').map (·.1) := by
    intro names
    induction names with
    | nil => intro n n' acc acc' e; exact e
    | cons p r ih =>
      intro n n' acc acc' e
      unfold cellsFrom
      split
      · exact ih _ _ _ _ (by simp [e])
      · exact ih _ _ _ _ e
  have hcl : ∀ y c, (envOfC qual scope s.heap.objs.size f cdv).cells.lookup y = some c → scope.names.lookup y = some .cell := fun y c hc => by
    have hm : y ∈ (cellsFrom (s.heap.objs.size + 1) scope.names []).map (·.1) := List.mem_map.mpr ⟨(y, c), mem_of_lookup hc, rfl⟩
    rw [hname scope.names _ 0 [] [] rfl] at hm
    obtain ⟨p, hp, rfl⟩ := List.mem_map.mp hm
    have := List.all_eq_true.mp hnl p hp
    simpa using this
  obtain ⟨h₁, tk₁, hs₁⟩ := x.toInCall.same
  have hno' : ∀ n, s.heap.objs.size ≤ n → h₀.get? n = none := fun n hn => by
    cases e : h₀.get? n with
    | none => rfl
    | some o => have := hs _ _ e; rw [hno n hn] at this; cases this
  have F₁ : FS h₀ (envOfC qual scope s.heap.objs.size f cdv) (fun y => binds.reverse.lookup y) σ₀ s₁.heap := by
    refine ⟨fun b o e => x.toInCall.keep b o (hs b o e), ⟨_, x.toInCall.ns, fun y hy => ?_⟩, fun y c hc => ?_, hno' _ (Nat.le_refl _), fun _ y c _ hc => ?_, fun y c hc => ?_, fun y z c hy hz => ?_, fun p hp => ⟨x.toInCall.keep _ _ (hnew.1 p hp).1, (hnew.1 p hp).2, fun e => ?_, fun y c hc e => ?_⟩, hnew.2⟩
    · exact (bindL_lookup _ _ _ _ hy).trans (by simp)
    · have h3 := x.cell y c hc
      have e := bindC_lookup (envOfC qual scope s.heap.objs.size f cdv).kindOf binds (fun _ => none) y (by show scope.names.lookup y ≠ _; rw [hcl y c hc]; decide)
      have e' : (binds.reverse.lookup y).or none = binds.reverse.lookup y := by simp
      rw [← e', ← e]; exact h3
    · exact hno' _ (Nat.le_of_lt (x.above y c (mem_of_lookup hc)))
    · exact Nat.ne_of_gt (x.above y c (mem_of_lookup hc))
    · exact name_of_addr x.apart (mem_of_lookup hy) (mem_of_lookup hz)
    · have := (hnew.1 p hp).1
      rw [show p.1 = s.heap.objs.size from e, hno _ (Nat.le_refl _)] at this; cases this
    · have := (hnew.1 p hp).1
      rw [e, hno _ (Nat.le_of_lt (x.above y c (mem_of_lookup hc)))] at this; cases this
  subst hs₁
  refine wpAny_mono (W.step (s := { s with heap := h₁, toks := tk₁ }) (h _ _ (fun y => binds.reverse.lookup y) hO fun _ _ e => e) (Nat.lt_of_lt_of_le ht hle₁) F₁ (R := fun fl s' => RR (.ok (.ret (match fl with | .ret v => v | _ => .none))) s') ?_) (fun fl s' q => q) fun _ _ x => x.elim
  intro fl ρ' σ' h' tk htk hle F' ⟨σ₁, hsub, p⟩
  have := hret (retOf fl) σ₁ h' tk F'.keep ⟨fun q hq => ⟨(F'.led q (hsub.subset hq)).1, (F'.led q (hsub.subset hq)).2.1⟩, (hsub.map _).nodup F'.nd⟩ (Nat.le_trans hle₁ hle) p
  cases fl <;> exact this
/-! what a call may turn, hidden -/
noncomputable def hides (h : Heap) : List Addr → Heap
  | [] => h
  | a :: r => (hides h r).hide a
theorem hides_size (h : Heap) : ∀ l, (hides h l).objs.size = h.objs.size
  | [] => rfl
  | a :: r => (Heap.hide_size _ _).trans (hides_size h r)
theorem hides_mem (h : Heap) : ∀ {l : List Addr} {a : Addr}, a ∈ l → (hides h l).get? a = none
  | b :: r, a, hm => by
    by_cases e : a = b
    · subst e; exact Heap.hide_self _ _
    · exact (Heap.hide_ne _ e).trans (hides_mem h ((List.mem_cons.mp hm).resolve_left e))
theorem hides_ne (h : Heap) : ∀ {l : List Addr} {a : Addr}, a ∉ l → (hides h l).get? a = h.get? a
  | [], a, _ => rfl
  | b :: r, a, hm => (Heap.hide_ne _ fun e => hm (List.mem_cons.mpr (.inl e))).trans (hides_ne h fun h1 => hm (.tail _ h1))
theorem of_hides (h : Heap) : ∀ {l : List Addr} {a : Addr} {o : Obj}, (hides h l).get? a = some o → h.get? a = some o
  | [], _, _, e => e
  | b :: r, _, _, e => of_hides h (l := r) (Heap.of_hide e)

/-- a contract used that turns `σ₀` -/
theorem W.mutC {A : Around} {env : Env} {ρ : Rho} {σ : Led} {need : Nat} (O : Ok w loose mean mg mb need A env h₀) {k : Nat} {f : Value} {args : List Value} {Q : Value → Rho → Led → Prop}
    (C : ∀ h, h₀.StaysIn h → (∀ p ∈ σ, h.get? p.1 = some p.2) → MutC w loose mean mg mb k f args h σ₀ P) (hk : k ≤ need) (hq : ∀ v tl, P tl v → Q v ρ (tl ++ σ)) : W w A h₀ env ρ (σ₀ ++ σ) (PySem.call f args) Q := fun s ht F => by
  obtain ⟨m, hn, r⟩ := F.ns
  have hL : ∀ p ∈ σ₀, p.1 ≠ env.locals := fun p hp => (F.led p (List.mem_append_left _ hp)).2.2.1
  have out : ∀ a, a ∉ σ₀.map (·.1) → (hides s.heap (σ₀.map (·.1))).get? a = s.heap.get? a := fun a ha => hides_ne _ ha
  have nL : env.locals ∉ σ₀.map (·.1) := fun h1 => by
    obtain ⟨p, hp, e⟩ := List.mem_map.mp h1
    exact hL p hp e
  have nd := F.nd
  rw [List.map_append] at nd
  obtain ⟨nd1, nd2, nd3⟩ := List.nodup_append.mp nd
  have st₀ : h₀.StaysIn (hides s.heap (σ₀.map (·.1))) := fun b o e => by
    rw [out b fun h1 => ?_]
    · exact F.keep b o e
    · obtain ⟨p, hp, e'⟩ := List.mem_map.mp h1
      have := (F.led p (List.mem_append_left _ hp)).2.1
      rw [e', e] at this; cases this
  have inσ : ∀ p ∈ σ, (hides s.heap (σ₀.map (·.1))).get? p.1 = some p.2 := fun p hp => by
    rw [out p.1 fun h1 => nd3 _ h1 _ (List.mem_map.mpr ⟨p, hp, rfl⟩) rfl]
    exact (F.led p (List.mem_append_right _ hp)).1
  have hn' : (hides s.heap (σ₀.map (·.1))).Ns env.locals m := by
    obtain ⟨ob, es, ep, e1, e2⟩ := hn
    exact ⟨ob, es, ep, by rw [out _ nL]; exact e1, e2⟩
  have cells : ∀ x c, env.cells.lookup x = some c → (hides s.heap (σ₀.map (·.1))).IsCell c (ρ x) := fun x c hc => by
    obtain ⟨ob, e1, e2⟩ := F.cell x c hc
    refine ⟨ob, ?_, e2⟩
    rw [out c fun h1 => ?_]
    · exact e1
    · obtain ⟨p, hp, e'⟩ := List.mem_map.mp h1
      exact (F.led p (List.mem_append_left _ hp)).2.2.2 x c hc e'
  obtain ⟨base, fr, hfr, B⟩ := O.bel _ st₀ ⟨m, hn'⟩
  obtain ⟨hd, dp, fr', gd, un⟩ := A
  obtain rfl : hd = none := O.hh
  obtain rfl : fr' = some fr := hfr
  have h1 := O.dp
  have h2 := O.un
  dsimp only at h1 h2
  refine wpAny_call (C _ st₀ inσ dp un gd fr s _ (fun _ _ e => of_hides _ e) (by rw [hides_size]; exact Nat.le_refl _) ⟨fun p hp => ⟨(F.led p (List.mem_append_left _ hp)).1, hides_mem _ (List.mem_map.mpr ⟨p, hp, rfl⟩)⟩, nd1⟩ ht
    ⟨fun b o e => st₀ b o (O.x b o e), O.t.keeps st₀, ⟨base, B⟩, ar_d2 h1 hk, ar_u2 h2 hk⟩ fun v tl h' tk st nw htk p => ⟨ρ, tl ++ σ, h', tk, rfl, ?_, hq v tl p⟩)
  refine ⟨fun b o e => st b o (st₀ b o e), ⟨m, hn'.keeps st, r⟩, fun x c hc => (cells x c hc).keeps st, F.off, F.coff, F.cne, F.cnd, fun q hq => ?_, ?_⟩
  · rcases List.mem_append.mp hq with hq | hq
    · refine ⟨(nw.1 q hq).1, ?_, fun e => ?_, fun x c hc e => ?_⟩
      · cases e : h₀.get? q.1 with
        | none => rfl
        | some o => have := st₀ _ _ e; rw [(nw.1 q hq).2] at this; cases this
      · obtain ⟨ob, es, ep, e1, e2⟩ := hn'
        have := (nw.1 q hq).2
        rw [e, e1] at this; cases this
      · obtain ⟨ob, e1, e2⟩ := cells x c hc
        have := (nw.1 q hq).2
        rw [e, e1] at this; cases this
    · exact ⟨st _ _ (inσ q hq), (F.led q (List.mem_append_right _ hq)).2⟩
  · rw [List.map_append]
    refine List.nodup_append.mpr ⟨nw.2, nd2, fun a ha b hb e => ?_⟩
    obtain ⟨p, hp, rfl⟩ := List.mem_map.mp ha
    obtain ⟨q, hq, rfl⟩ := List.mem_map.mp hb
    have h1 := (nw.1 p hp).2
    rw [e, inσ q hq] at h1; cases h1
end
end Mine
end

section
open PySem PySem.W PyProof.Rows PySem.Calls
set_option maxRecDepth 100000
set_option maxHeartbeats 4000000
set_option linter.unusedVariables false
namespace Mine
/-! frames whose slots are turned by a raise -/
noncomputable def fsOf (A : Around) : List Addr := (A.frames.getD []).filterMap (·.frame)
structure Turn (fs : List Addr) (g g' : Heap) : Prop where
  none_ : ∀ b, g.get? b = none → g'.get? b = none
  other : ∀ b o, g.get? b = some o → b ∉ fs → g'.get? b = some o
  frame : ∀ b o, g.get? b = some o → b ∈ fs → ∃ sl, g'.get? b = some { o with slots := sl }
theorem Turn.refl {fs : List Addr} {g : Heap} : Turn fs g g := ⟨fun _ e => e, fun _ _ e _ => e, fun _ o e _ => ⟨o.slots, e⟩⟩
theorem Turn.trans {fs : List Addr} {g g₁ g₂ : Heap} (x : Turn fs g g₁) (y : Turn fs g₁ g₂) : Turn fs g g₂ :=
  ⟨fun b e => y.none_ b (x.none_ b e), fun b o e m => y.other b o (x.other b o e m) m, fun b o e m => by
    obtain ⟨s1, h1⟩ := x.frame b o e m
    obtain ⟨s2, h2⟩ := y.frame b _ h1 m
    exact ⟨s2, h2⟩⟩
/-! the judgement whose entry heap may turn -/
inductive PostG (A : Around) (h₀ : Heap) (env : Env) (g : Array GenState) (d : Drawn) (os : OsState) (P : Heap → Rho → Led → Prop) (s' : Shared) : Prop
  | mk (h₁ : Heap) (ρ' : Rho) (σ' : Led) (h' : Heap) (tk : Nat) (y1 : s' = ⟨h', g, d, tk, os⟩) (y2 : Turn (fsOf A) h₀ h₁) (y3 : FS h₁ env ρ' σ' h') (y4 : P h₁ ρ' σ') : PostG A h₀ env g d os P s'
noncomputable def PostF {α : Type} (A : Around) (h₀ : Heap) (env : Env) (s : Shared) (Q : Heap → α → Rho → Led → Prop) (a : α) (s' : Shared) : Prop := PostG A h₀ env s.gens s.drawn s.os (fun h => Q h a) s'
noncomputable def WF {α : Type} (w : World) (A : Around) (h₀ : Heap) (env : Env) (ρ : Rho) (σ : Led) (t : Sem α) (Q : Heap → α → Rho → Led → Prop) : Prop :=
  ∀ s : Shared, 0 < s.toks → FS h₀ env ρ σ s.heap → wpAny (model PP w) A t (PostF A h₀ env s Q) (fun _ _ => False) s
section
variable {α β : Type} {w : World} {A : Around} {h₀ : Heap} {env : Env} {ρ ρ' : Rho} {σ σ' : Led}
theorem WF.step {t : Sem α} {s : Shared} {R : α → Shared → Prop} {Q₁ : Heap → α → Rho → Led → Prop} (h : WF w A h₀ env ρ σ t Q₁) (ht : 0 < s.toks) (F : FS h₀ env ρ σ s.heap)
    (k : ∀ a h₁ ρ' σ' h' tk, 0 < tk → s.toks ≤ tk → Turn (fsOf A) h₀ h₁ → FS h₁ env ρ' σ' h' → Q₁ h₁ a ρ' σ' → R a { s with heap := h', toks := tk }) : wpAny (model PP w) A t R (fun _ _ => False) s :=
  wpAny_with_toks (n := s.toks) (Nat.le_refl _) (wpAny_mono (h s ht F) (fun a s' ⟨h₁, ρ', σ', h', tk, e, T, F', q⟩ htk => by
    subst e
    exact k a h₁ ρ' σ' h' tk (Nat.lt_of_lt_of_le ht htk) htk T F' q) fun _ _ x => x.elim)
theorem WF.ofW {t : Sem α} {Q : Heap → α → Rho → Led → Prop} (h : W w A h₀ env ρ σ t (Q h₀)) : WF w A h₀ env ρ σ t Q := fun s ht F =>
  wpAny_mono (h s ht F) (fun a s' ⟨ρ', σ', h', tk, e, F', q⟩ => ⟨h₀, ρ', σ', h', tk, e, .refl, F', q⟩) fun _ _ x => x
theorem WF.at {t : Sem α} {s : Shared} {Q : Heap → α → Rho → Led → Prop} {h₁ : Heap} (T : Turn (fsOf A) h₀ h₁) (h : WF w A h₁ env ρ σ t Q) {h' : Heap} {tk : Nat} (ht : 0 < tk) (F : FS h₁ env ρ σ h') :
    wpAny (model PP w) A t (PostF A h₀ env s Q) (fun _ _ => False) { s with heap := h', toks := tk } :=
  wpAny_mono (h { s with heap := h', toks := tk } ht F) (fun _ _ ⟨h₂, ρ', σ', h'', tk', e, T', F', q⟩ => ⟨h₂, ρ', σ', h'', tk', e, T.trans T', F', q⟩) fun _ _ x => x
theorem WF.mono {t : Sem α} {Q Q' : Heap → α → Rho → Led → Prop} (h : WF w A h₀ env ρ σ t Q) (hq : ∀ h₁ a ρ' σ', Turn (fsOf A) h₀ h₁ → Q h₁ a ρ' σ' → Q' h₁ a ρ' σ') : WF w A h₀ env ρ σ t Q' := fun s ht F =>
  wpAny_mono (h s ht F) (fun a s' ⟨h₁, ρ', σ', h', tk, e, T, F', q⟩ => ⟨h₁, ρ', σ', h', tk, e, T, F', hq _ _ _ _ T q⟩) fun _ _ x => x
theorem WF.sub {t : Sem α} {Q : Heap → α → Rho → Led → Prop} {σ' : Led} (h : WF w A h₀ env ρ σ' t Q) (hs : σ'.Sublist σ) : WF w A h₀ env ρ σ t Q := fun s ht F => h s ht (F.sublist hs)
theorem WF.execs_nil {Q : Heap → Flow → Rho → Led → Prop} (h : Q h₀ .next ρ σ) : WF w A h₀ env ρ σ (execs [] env) Q := WF.ofW (W.execs_nil h)
theorem WF.execs_cons {st : Stmt} {rest : List Stmt} {Q : Heap → Flow → Rho → Led → Prop} (h : WF w A h₀ env ρ σ (exec st env) fun h₁ f ρ' σ' => match f with | .next => WF w A h₁ env ρ' σ' (execs rest env) Q | f => Q h₁ f ρ' σ') :
    WF w A h₀ env ρ σ (execs (st :: rest) env) Q := fun s ht F => wpAny_execs_cons (WF.step h ht F fun f h₁ ρ' σ' h' tk htk _ T F' q => by
  cases f with
  | next => exact q.at T htk F'
  | _ => exact ⟨h₁, ρ', σ', h', tk, rfl, T, F', q⟩)
/-- the next statement turns nothing -/
theorem WF.execs_W {st : Stmt} {rest : List Stmt} {Q : Heap → Flow → Rho → Led → Prop} (h : W w A h₀ env ρ σ (exec st env) fun f ρ' σ' => match f with | .next => WF w A h₀ env ρ' σ' (execs rest env) Q | f => Q h₀ f ρ' σ') :
    WF w A h₀ env ρ σ (execs (st :: rest) env) Q := WF.execs_cons (WF.ofW h)
theorem WF.ifs {test : Expr} {body orelse : List Stmt} {pos : Pos} {Q : Heap → Flow → Rho → Led → Prop}
    (h : W w A h₀ env ρ σ (isTrue test env (eval test env)) fun b ρ' σ' => if b then WF w A h₀ env ρ' σ' (execs body env) Q else WF w A h₀ env ρ' σ' (execs orelse env) Q) :
    WF w A h₀ env ρ σ (exec (.If test body orelse pos) env) Q := fun s ht F =>
  wpAny_If (W.step h ht F fun b _ _ _ _ htk _ F' q => by cases b <;> exact q.at .refl htk F')
theorem wpF {t : Sem α} {s : Shared} {Q Q' : α → Shared → Prop} {E : Value → Shared → Prop} (h : wpAny (model PP w) A t Q (fun _ _ => False) s) (hq : ∀ a s, Q a s → Q' a s) : wpAny (model PP w) A t Q' E s := wpAny_mono h hq fun _ _ x => x.elim
theorem W.ofWF {t : Sem α} {Q : α → Rho → Led → Prop} (h : WF w A h₀ env ρ σ t fun h₁ a ρ' σ' => h₁ = h₀ ∧ Q a ρ' σ') : W w A h₀ env ρ σ t Q := fun s ht F =>
  wpAny_mono (h s ht F) (fun a s' q => by
    cases q with | mk h₁ ρ' σ' h' tk e T F' q =>
    cases q with | intro e' q =>
    subst e'
    exact ⟨ρ', σ', h', tk, e, F', q⟩) fun _ _ x => x
/-- a state of a loop, `k` its measure -/
inductive LSt (A : Around) (h₀ : Heap) (env : Env) (s : Shared) (J : Nat → Heap → Rho → Led → Prop) (k : Nat) : Shared → Prop
  | mk {h₁ : Heap} {ρ : Rho} {σ : Led} {h' : Heap} {tk : Nat} : 0 < tk → Turn (fsOf A) h₀ h₁ → FS h₁ env ρ σ h' → J k h₁ ρ σ → LSt A h₀ env s J k { s with heap := h', toks := tk }
/-- what a loop's body brings -/
noncomputable abbrev FlW (J : Nat → Heap → Rho → Led → Prop) (k : Nat) (Q : Heap → Flow → Rho → Led → Prop) (h : Heap) (f : Flow) (ρ : Rho) (σ : Led) : Prop := match f with
  | .next | .cont => ∃ m, m < k ∧ J m h ρ σ
  | .brk => Q h .next ρ σ
  | .ret v => Q h (.ret v) ρ σ
noncomputable def FlS (A : Around) (h₀ : Heap) (env : Env) (s : Shared) (J : Nat → Heap → Rho → Led → Prop) (k : Nat) (Q : Heap → Flow → Rho → Led → Prop) (f : Flow) (s' : Shared) : Prop := match f with
  | .next | .cont => ∃ m, m < k ∧ LSt A h₀ env s J m s'
  | .brk => PostF A h₀ env s Q .next s'
  | .ret v => PostF A h₀ env s Q (.ret v) s'
section
variable {s : Shared} {J : Nat → Heap → Rho → Led → Prop} {k : Nat} {Q : Heap → Flow → Rho → Led → Prop} {h₁ g : Heap} {tk : Nat} {body orelse : List Stmt} {target : Expr} {it : Value}
theorem body_step (T : Turn (fsOf A) h₀ h₁) (q : WF w A h₁ env ρ σ (execs body env) (FlW J k Q)) (ht : 0 < tk) (F : FS h₁ env ρ σ g) :
    wpAny (model PP w) A (execs body env) (FlS A h₀ env s J k Q) (fun _ _ => False) { s with heap := g, toks := tk } :=
  WF.step q ht F fun f h₂ ρ' σ' h' tk' ht' _ T' F' q => by
    cases f with
    | next => exact q.elim fun m x => ⟨m, x.1, .mk ht' (T.trans T') F' x.2⟩
    | cont => exact q.elim fun m x => ⟨m, x.1, .mk ht' (T.trans T') F' x.2⟩
    | brk => exact ⟨h₂, ρ', σ', h', tk', rfl, T.trans T', F', q⟩
    | ret v => exact ⟨h₂, ρ', σ', h', tk', rfl, T.trans T', F', q⟩
noncomputable def WhS (w : World) (A : Around) (h₀ : Heap) (env : Env) (s : Shared) (J : Nat → Heap → Rho → Led → Prop) (k : Nat) (Q : Heap → Flow → Rho → Led → Prop) (body orelse : List Stmt) (b : Bool) (s' : Shared) : Prop :=
  if b then wpAny (model PP w) A (execs body env) (FlS A h₀ env s J k Q) (fun _ _ => False) s' else wpAny (model PP w) A (execs orelse env) (PostF A h₀ env s Q) (fun _ _ => False) s'
theorem WF.whileC {test : Expr} {pos : Pos} (J : Nat → Heap → Rho → Led → Prop)
    (turn : ∀ n h₁ ρ σ, J n h₁ ρ σ → W w A h₁ env ρ σ (isTrue test env (eval test env)) fun b ρ' σ' => if b then WF w A h₁ env ρ' σ' (execs body env) (FlW J n Q) else WF w A h₁ env ρ' σ' (execs orelse env) Q)
    (n : Nat) (h : J n h₀ ρ σ) : WF w A h₀ env ρ σ (exec (.While test body orelse pos) env) Q := fun s ht F => by
  refine wpAny_While (codeAny_whileLoop (LSt A h₀ env s J) ?_ n (.mk (tk := s.toks) ht .refl F h))
  intro n s' H
  cases H with | mk ht₁ T₁ F₁ hI =>
  refine wpF (Q := WhS w A h₀ env s J n Q body orelse) (W.step (turn _ _ _ _ hI) ht₁ F₁ fun b ρ' σ' h' tk htk _ F' q => ?_) fun b s' q => ?_
  · cases b with
    | false => exact WF.at T₁ q htk F'
    | true => exact body_step T₁ q htk F'
  · cases b with
    | false => exact wpF q fun _ _ x => x
    | true => exact wpF q fun f _ x => by cases f <;> exact x
noncomputable def NxS (w : World) (A : Around) (h₀ : Heap) (env : Env) (s : Shared) (J : Nat → Heap → Rho → Led → Prop) (k : Nat) (Q : Heap → Flow → Rho → Led → Prop) (target : Expr) (it : Value) (body orelse : List Stmt) (r : Option Value) (s' : Shared) : Prop := match r with
  | none => wpAny (model PP w) A (execs orelse env) (PostF A h₀ env s Q) (fun _ _ => False) s'
  | some v => wpAny (model PP w) A (letOwnedTupleGo target it v) (fun _ s' => wpAny (model PP w) A (PySem.assign target env v) (fun _ s' => wpAny (model PP w) A (execs body env) (FlS A h₀ env s J k Q) (fun _ _ => False) s') (fun _ _ => False) s') (fun _ _ => False) s'
/-- a loop's turn -/
noncomputable def NxW (w : World) (A : Around) (env : Env) (J : Nat → Heap → Rho → Led → Prop) (k : Nat) (Q : Heap → Flow → Rho → Led → Prop) (target : Expr) (it : Value) (body orelse : List Stmt) (h₁ : Heap) (r : Option Value) (ρ : Rho) (σ : Led) : Prop := match r with
  | none => WF w A h₁ env ρ σ (execs orelse env) Q
  | some v => W w A h₁ env ρ σ (letOwnedTupleGo target it v) fun _ ρ σ => W w A h₁ env ρ σ (PySem.assign target env v) fun _ ρ σ => WF w A h₁ env ρ σ (execs body env) (FlW J k Q)
theorem for_core {R : Result → Shared → Prop} (J : Nat → Heap → Rho → Led → Prop) (turn : ∀ k h₁ ρ σ, J k h₁ ρ σ → W w A h₁ env ρ σ (pyNext it) (NxW w A env J k Q target it body orelse h₁)) (hR : ∀ f s', PostF A h₀ env s Q f s' → R (.ok f) s')
    (k : Nat) (h : J k h₀ ρ σ) (ht : 0 < tk) (F : FS h₀ env ρ σ g) : codeAny (model PP w) A (.forLoop target it body orelse env) R { s with heap := g, toks := tk } := by
  refine codeAny_forLoop_any (LSt A h₀ env s J) ?_ k (.mk ht .refl F h)
  intro k s' H
  cases H with | mk ht₁ T₁ F₁ hI =>
  refine wpF (Q := NxS w A h₀ env s J k Q target it body orelse) (W.step (turn _ _ _ _ hI) ht₁ F₁ fun r ρ' σ' h' tk htk _ F' q => ?_) fun r s' q => ?_
  · cases r with
    | none => exact WF.at T₁ q htk F'
    | some v => exact W.step q htk F' fun _ _ _ _ _ htk _ F' q => W.step q htk F' fun _ _ _ _ _ htk _ F' q => body_step T₁ q htk F'
  · cases r with
    | none => exact wpF q fun f s' x => hR f s' x
    | some v =>
      refine wpF q fun _ _ q => wpF q fun _ _ q => wpF q fun f s' x => ?_
      cases f with
      | next => exact x
      | cont => exact x
      | brk => exact hR _ _ x
      | ret v => exact hR _ _ x
end
end
section
variable {w : World} {A : Around} {h₀ : Heap} {env : Env} {ρ : Rho} {σ : Led} {test : Expr} {body orelse : List Stmt} {pos : Pos}
theorem WF.while {Q : Heap → Flow → Rho → Led → Prop} (I : Nat → Heap → Rho → Led → Prop)
    (turn : ∀ n h₁ ρ σ, I n h₁ ρ σ → W w A h₁ env ρ σ (isTrue test env (eval test env)) fun b ρ' σ' =>
      if b then WF w A h₁ env ρ' σ' (execs body env) (FlW I n Q) else WF w A h₁ env ρ' σ' (execs orelse env) Q)
    (n : Nat) (h : I n h₀ ρ σ) : WF w A h₀ env ρ σ (exec (.While test body orelse pos) env) Q := WF.whileC I turn n h
/-- what a body brings that turns nothing -/
noncomputable abbrev FlN (I : Nat → Rho → Led → Prop) (n : Nat) (Q : Flow → Rho → Led → Prop) (f : Flow) (ρ : Rho) (σ : Led) : Prop := match f with
  | .next | .cont => ∃ m, m < n ∧ I m ρ σ
  | .brk => Q .next ρ σ
  | .ret v => Q (.ret v) ρ σ
noncomputable abbrev FlX (I : Nat → Rho → Led → Prop) (X : Rho → Led → Prop) (n : Nat) (Q : Flow → Rho → Led → Prop) (f : Flow) (ρ : Rho) (σ : Led) : Prop := match f with
  | .next | .cont => ∃ m, m < n ∧ I m ρ σ
  | .brk => X ρ σ
  | .ret v => Q (.ret v) ρ σ
inductive AtH (h₀ : Heap) (I : Nat → Rho → Led → Prop) (n : Nat) : Heap → Rho → Led → Prop
  | mk {ρ : Rho} {σ : Led} : I n ρ σ → AtH h₀ I n h₀ ρ σ
theorem FlN.to {I : Nat → Rho → Led → Prop} {n : Nat} {Q : Flow → Rho → Led → Prop} {f : Flow} (q : FlN I n Q f ρ σ) : FlW (AtH h₀ I) n (fun h₁ a ρ' σ' => h₁ = h₀ ∧ Q a ρ' σ') h₀ f ρ σ := by
  cases f with
  | next => exact q.elim fun m x => ⟨m, x.1, .mk x.2⟩
  | cont => exact q.elim fun m x => ⟨m, x.1, .mk x.2⟩
  | brk => exact ⟨rfl, q⟩
  | ret v => exact ⟨rfl, q⟩
theorem W.while {Q : Flow → Rho → Led → Prop} (I : Nat → Rho → Led → Prop)
    (turn : ∀ n ρ σ, I n ρ σ → W w A h₀ env ρ σ (isTrue test env (eval test env)) fun b ρ' σ' =>
      if b then W w A h₀ env ρ' σ' (execs body env) (FlN I n Q) else W w A h₀ env ρ' σ' (execs orelse env) Q)
    (n : Nat) (h : I n ρ σ) : W w A h₀ env ρ σ (exec (.While test body orelse pos) env) Q := by
  refine W.ofWF (WF.whileC (AtH h₀ I) ?_ n (.mk h))
  intro n h₁ ρ σ H
  cases H with | mk hI =>
  refine (turn n ρ σ hI).mono fun b ρ' σ' q => ?_
  cases b with
  | false => exact WF.ofW (W.mono q fun _ _ _ x => ⟨rfl, x⟩)
  | true => exact WF.ofW (W.mono q fun _ _ _ x => x.to)
end
end Mine
end

section
open PySem PySem.W PyProof.Rows PySem.Calls
set_option maxRecDepth 100000
set_option maxHeartbeats 4000000
set_option linter.unusedVariables false
namespace Mine
section
variable {w : World} {A : Around} {h₀ h h' : Heap} {env : Env} {ρ : Rho} {σ : Led}

theorem FS.same {I : Addr} {o o' : Obj} (F : FS h₀ env ρ ((I, o) :: σ) h) (hs : Heap.SameBut I h h') (ho : h'.get? I = some o') : FS h₀ env ρ ((I, o') :: σ) h' := by
  have D := F.led _ (.head _)
  have nI := (List.nodup_cons.mp F.nd).1
  refine ⟨fun b x e => (hs.2 b fun z => ?_).trans (F.keep b x e), ?_, fun x c hc => (F.cell x c hc).sameBut hs fun z => D.2.2.2 x c hc z.symm, F.off, F.coff, F.cne, F.cnd, fun p hp => ?_, by simpa using F.nd⟩
  · rw [z, D.2.1] at e; cases e
  · obtain ⟨m, n, r⟩ := F.ns
    exact ⟨m, n.sameBut hs (Ne.symm D.2.2.1), r⟩
  · rcases List.mem_cons.mp hp with rfl | hp
    · exact ⟨ho, D.2⟩
    · refine ⟨(hs.2 _ fun z => nI ?_).trans (F.led p (.tail _ hp)).1, (F.led p (.tail _ hp)).2⟩
      exact List.mem_map.mpr ⟨p, hp, z⟩
theorem FS.gone {I : Addr} {o : Obj} (F : FS h₀ env ρ ((I, o) :: σ) h) (hs : Heap.ExtBut I h h') : FS h₀ env ρ σ h' := by
  have D := F.led _ (.head _)
  have nI := (List.nodup_cons.mp F.nd).1
  refine ⟨fun b x e => hs b x (fun z => ?_) (F.keep b x e), ?_, fun x c hc => ?_, F.off, F.coff, F.cne, F.cnd, fun p hp => ?_, (List.nodup_cons.mp F.nd).2⟩
  · rw [z, D.2.1] at e; cases e
  · obtain ⟨m, n, r⟩ := F.ns
    exact ⟨m, n.extBut hs (Ne.symm D.2.2.1), r⟩
  · obtain ⟨oc, ho, hd⟩ := F.cell x c hc
    exact ⟨oc, hs c oc (fun z => D.2.2.2 x c hc z.symm) ho, hd⟩
  · refine ⟨hs _ _ (fun z => nI ?_) (F.led p (.tail _ hp)).1, (F.led p (.tail _ hp)).2⟩
    exact List.mem_map.mpr ⟨p, hp, z⟩

/-- an iterator's way: `It i` its object before the i-th item, `P i` the item -/
structure Proto (w : World) (A : Around) (h₀ : Heap) (env : Env) (ok : Led → Prop) (n : Nat) (It : Nat → Obj → Prop) (P : Nat → Value → Prop) : Prop where
  item : ∀ i I o ρ σ (Q : Option Value → Rho → Led → Prop), i < n → It i o → ok σ → (∀ v o', P i v → It (i + 1) o' → Q (some v) ρ ((I, o') :: σ)) → W w A h₀ env ρ ((I, o) :: σ) (pyNext (.ref I)) Q
  done : ∀ I o ρ σ (Q : Option Value → Rho → Led → Prop), It n o → ok σ → Q none ρ σ → W w A h₀ env ρ ((I, o) :: σ) (pyNext (.ref I)) Q
  self : ∀ i I o ρ σ (Q : Value → Rho → Led → Prop), It i o → Q (.ref I) ρ ((I, o) :: σ) → W w A h₀ env ρ ((I, o) :: σ) (pyIter (.ref I)) Q

/-- what a body over an iterator brings -/
noncomputable abbrev FlI (I : Addr) (o : Obj) (J : Rho → Led → Prop) (Q : Flow → Rho → Led → Prop) (f : Flow) (ρ : Rho) (σ : Led) : Prop := match f with
  | .next | .cont => ∃ σ₃, ((I, o) :: σ₃).Sublist σ ∧ J ρ σ₃
  | .brk => Q .next ρ σ
  | .ret v => Q (.ret v) ρ σ
inductive LoopAt (w : World) (A : Around) (h₀ : Heap) (env : Env) (target : Expr) (body orelse : List Stmt) (Q : Flow → Rho → Led → Prop) (it : Value) (ρ : Rho) (σ : Led) : Prop
  | mk (ok : Led → Prop) (n : Nat) (It : Nat → Obj → Prop) (P : Nat → Value → Prop) (J : Nat → Rho → Led → Prop) (I : Addr) (o : Obj) (σ₃ : Led) (y1 : Proto w A h₀ env ok n It P) (y2 : it = .ref I) (y3 : ((I, o) :: σ₃).Sublist σ) (y4 : It 0 o) (y5 : J 0 ρ σ₃)
    (y6 : ∀ i ρ σ, J i ρ σ → ok σ)
    (y7 : ∀ i v I o ρ σ, i < n → P i v → It (i + 1) o → J i ρ σ → W w A h₀ env ρ ((I, o) :: σ) (PySem.assign target env v) fun _ ρ' σ' => W w A h₀ env ρ' σ' (execs body env) (FlI I o (J (i + 1)) Q))
    (y8 : ∀ ρ σ, J n ρ σ → W w A h₀ env ρ σ (execs orelse env) Q) : LoopAt w A h₀ env target body orelse Q it ρ σ
/-- the state before the item `i` -/
inductive FJ (n : Nat) (I : Addr) (It : Nat → Obj → Prop) (J : Nat → Heap → Rho → Led → Prop) : Nat → Heap → Rho → Led → Prop
  | mk {i : Nat} {h : Heap} {ρ : Rho} {σ σ' : Led} {o : Obj} : i ≤ n → ((I, o) :: σ).Sublist σ' → It i o → J i h ρ σ → FJ n I It J (n - i) h ρ σ'
theorem FJ.go {n i : Nat} {I : Addr} {It : Nat → Obj → Prop} {J : Nat → Heap → Rho → Led → Prop} {h : Heap} {o : Obj} {σ' : Led} (hin : i < n) (hs : ((I, o) :: σ).Sublist σ') (hI : It (i + 1) o) (hJ : J (i + 1) h ρ σ) : ∃ m, m < n - i ∧ FJ n I It J m h ρ σ' :=
  ⟨n - (i + 1), Nat.sub_lt_sub_left hin (Nat.lt_succ_self i), .mk hin hs hI hJ⟩
inductive AtJ (h₀ : Heap) (J : Nat → Rho → Led → Prop) (i : Nat) : Heap → Rho → Led → Prop
  | mk {ρ : Rho} {σ : Led} : J i ρ σ → AtJ h₀ J i h₀ ρ σ
theorem W.for {target iter : Expr} {body orelse : List Stmt} {pos : Pos} {Q : Flow → Rho → Led → Prop}
    (hiter : W w A h₀ env ρ σ (eval iter env) fun v ρ' σ' => W w A h₀ env ρ' σ' (pyIter v) fun it ρ'' σ'' => LoopAt w A h₀ env target body orelse Q it ρ'' σ'')
    (hs : ∀ x, foldedSetIterable iter env x = pure x := by intro _; rfl) (hgo : ∀ I v, letOwnedTupleGo target (.ref I) v = pure () := by intro _ _; rfl) :
    W w A h₀ env ρ σ (exec (.For target iter body orelse pos) env) Q := W.ofWF fun s ht F => by
  refine wpAny_For (W.step hiter ht F fun v ρ₁ σ₁ h₁ tk₁ ht₁ _ F₁ q₁ => W.step q₁ ht₁ F₁ fun it ρ₂ σ₂ h₂ tk₂ ht₂ _ F₂ q => ?_) hs
  cases q with | mk ok n It P J I o σ₃ Pr e hsub hI0 hJ0 hok turn done =>
  subst e
  refine for_core (FJ n I It (AtJ h₀ J)) ?_ (fun _ _ x => x) n (.mk (i := 0) (Nat.zero_le _) hsub hI0 (.mk hJ0)) ht₂ F₂
  intro k h₃ ρ₃ σ₃ H
  cases H with | mk hi hs₃ hI hJ =>
  cases hJ with | mk hJ =>
  rename_i i σ₄ o₄
  refine W.sub ?_ hs₃
  by_cases hin : i < n
  · refine Pr.item i I _ _ _ _ hin hI (hok i _ _ hJ) fun v o' pv hI' => ?_
    show W w A h₀ env _ _ (letOwnedTupleGo target (.ref I) v) _
    rw [hgo]
    refine W.done ((turn i v I o' _ _ hin pv hI' hJ).mono fun _ ρ' σ' q => WF.ofW (q.mono fun f ρ'' σ'' q => ?_))
    cases f with
    | next => exact q.elim fun σ₆ x => FJ.go hin x.1 hI' (.mk x.2)
    | cont => exact q.elim fun σ₆ x => FJ.go hin x.1 hI' (.mk x.2)
    | brk => exact ⟨rfl, q⟩
    | ret v => exact ⟨rfl, q⟩
  · have e := Nat.le_antisymm hi (Nat.le_of_not_lt hin)
    subst e
    exact Pr.done I _ _ _ _ hI (hok _ _ _ hJ) (WF.ofW ((done _ _ hJ).mono fun _ _ _ x => ⟨rfl, x⟩))
inductive LoopF (w : World) (A : Around) (h₀ : Heap) (env : Env) (target : Expr) (body orelse : List Stmt) (Q : Heap → Flow → Rho → Led → Prop) (it : Value) (ρ : Rho) (σ : Led) : Prop
  | mk (ok : Heap → Led → Prop) (n : Nat) (It : Nat → Obj → Prop) (P : Nat → Value → Prop) (J : Nat → Heap → Rho → Led → Prop) (I : Addr) (o : Obj) (σ₃ : Led) (y1 : ∀ h₁, Proto w A h₁ env (ok h₁) n It P) (y2 : it = .ref I) (y3 : ((I, o) :: σ₃).Sublist σ) (y4 : It 0 o) (y5 : J 0 h₀ ρ σ₃)
    (y6 : ∀ i h₁ ρ σ, J i h₁ ρ σ → ok h₁ σ)
    (y7 : ∀ i v I o h₁ ρ σ, i < n → P i v → It (i + 1) o → J i h₁ ρ σ → W w A h₁ env ρ ((I, o) :: σ) (PySem.assign target env v) fun _ ρ' σ' => WF w A h₁ env ρ' σ' (execs body env) fun h₂ => FlI I o (J (i + 1) h₂) (Q h₂))
    (y8 : ∀ h₁ ρ σ, J n h₁ ρ σ → WF w A h₁ env ρ σ (execs orelse env) Q) : LoopF w A h₀ env target body orelse Q it ρ σ
/-- a loop over an iterator -/
theorem WF.for {target iter : Expr} {body orelse : List Stmt} {pos : Pos} {Q : Heap → Flow → Rho → Led → Prop}
    (hiter : W w A h₀ env ρ σ (eval iter env) fun v ρ' σ' => W w A h₀ env ρ' σ' (pyIter v) fun it ρ'' σ'' => LoopF w A h₀ env target body orelse Q it ρ'' σ'')
    (hs : ∀ x, foldedSetIterable iter env x = pure x := by intro _; rfl) (hgo : ∀ I v, letOwnedTupleGo target (.ref I) v = pure () := by intro _ _; rfl) :
    WF w A h₀ env ρ σ (exec (.For target iter body orelse pos) env) Q := fun s ht F => by
  refine wpAny_For (W.step hiter ht F fun v ρ₁ σ₁ h₁ tk₁ ht₁ _ F₁ q₁ => W.step q₁ ht₁ F₁ fun it ρ₂ σ₂ h₂ tk₂ ht₂ _ F₂ q => ?_) hs
  cases q with | mk ok n It P J I o σ₃ Pr e hsub hI0 hJ0 hok turn done =>
  subst e
  refine for_core (FJ n I It J) ?_ (fun _ _ x => x) n (.mk (i := 0) (Nat.zero_le _) hsub hI0 hJ0) ht₂ F₂
  intro k h₃ ρ₃ σ₃ H
  cases H with | mk hi hs₃ hI hJ =>
  rename_i i σ₄ o₄
  refine W.sub ?_ hs₃
  by_cases hin : i < n
  · refine (Pr h₃).item i I _ _ _ _ hin hI (hok i _ _ _ hJ) fun v o' pv hI' => ?_
    show W w A h₃ env _ _ (letOwnedTupleGo target (.ref I) v) _
    rw [hgo]
    refine W.done ((turn i v I o' _ _ _ hin pv hI' hJ).mono fun _ ρ' σ' q => q.mono fun h₄ f ρ'' σ'' _ q => ?_)
    cases f with
    | next => exact q.elim fun σ₆ x => FJ.go hin x.1 hI' x.2
    | cont => exact q.elim fun σ₆ x => FJ.go hin x.1 hI' x.2
    | brk => exact q
    | ret v => exact q
  · have e := Nat.le_antisymm hi (Nat.le_of_not_lt hin)
    subst e
    exact (Pr h₃).done I _ _ _ _ hI (hok _ _ _ _ hJ) (done _ _ _ hJ)

theorem ite_t {c : Prop} [Decidable c] {P Q : Prop} (h : c) (p : P) : if c then P else Q := by rw [if_pos h]; exact p
theorem ite_f {c : Prop} [Decidable c] {P Q : Prop} (h : ¬ c) (q : Q) : if c then P else Q := by rw [if_neg h]; exact q
theorem strValues_len (l : List (Str × Tok)) : (strValues l).length = l.length := by simp [strValues]
theorem strValues_get {l : List (Str × Tok)} {i : Nat} {v : Value} (h : (strValues l)[i]? = some v) : ∃ p, l[i]? = some p ∧ v = .str p.1 p.2 := by
  simp only [strValues, List.getElem?_map] at h
  cases e : l[i]? with
  | none => rw [e] at h; cases h
  | some p => rw [e] at h; cases h; exact ⟨p, rfl, rfl⟩
theorem W.assignName {x : Str} {pos : Pos} {v : Value} {Q : Unit → Rho → Led → Prop} (h : W w A h₀ env ρ σ (storeName env x v) Q) : W w A h₀ env ρ σ (PySem.assign (.Name x pos) env v) Q := fun s ht F => wpAny_assign_Name (h s ht F)

/-! lists -/
noncomputable def LObj (o : Obj) (vs : List Value) : Prop := ∃ n, o = { cls := .type "list", data := .seq vs.toArray n }
noncomputable def TObj (o : Obj) (vs : List Value) : Prop := o.cls = .type "tuple" ∧ ∃ n, o.data = .seq vs.toArray n
noncomputable def ItL (a : Addr) (i : Nat) (o : Obj) : Prop := o.cls = .type "list_iterator" ∧ o.data = .fields #[.ref a, .int i 0]
noncomputable def ItR (a left : Int) (o : Obj) : Prop := o = { cls := .type "range_iterator", data := .fields #[rawInt a, rawInt left, rawInt 1] }

theorem LObj.isList {a : Addr} {o : Obj} {vs : List Value} (x : LObj o vs) (e : h.get? a = some o) : h.IsList a vs.toArray := let ⟨n, x⟩ := x; ⟨o, e, by rw [x], n, by rw [x]⟩
theorem proto_list {a : Addr} {o : Obj} {vs : List Value} (hh : A.handled = none) (x : LObj o vs) : Proto w A h₀ env (fun σ => Kn h₀ σ a o) vs.length (ItL a) (fun i v => vs[i]? = some v) where
  item := fun i I oi ρ σ Q hi hI hk hQ s ht F => by
    have hl := x.isList (F.kn (hk.imp (.tail _) id))
    refine wpAny_pyNext_list_item ⟨oi, F.get (.head _), hI⟩ hl (x := vs[i]) (by simp [hi]) fun h' qq1 hs => ?_
    obtain ⟨o', ho', hi'⟩ := qq1
    exact ⟨ρ, (I, o') :: σ, h', s.toks, rfl, F.same hs ho', hQ _ _ (by simp [hi]) hi'⟩
  done := fun I oi ρ σ Q hI hk hQ s ht F => by
    have hl := x.isList (F.kn (hk.imp (.tail _) id))
    refine wpAny_pyNext_list_end hh ⟨oi, F.get (.head _), hI⟩ hl (by simp) fun h' hs => ?_
    exact ⟨ρ, σ, h', s.toks, rfl, F.gone hs, hQ⟩
  self := fun i I oi ρ σ Q hI hQ s ht F => wpAny_pyIter_listiter ⟨oi, F.get (.head _), hI⟩ (Post.now F hQ)
theorem W.iterList {a : Addr} {o : Obj} {vs : List Value} {Q : Value → Rho → Led → Prop} (hk : Kn h₀ σ a o) (x : LObj o vs)
    (h : ∀ I oi, ItL a 0 oi → Q (.ref I) ρ ((I, oi) :: σ)) : W w A h₀ env ρ σ (pyIter (.ref a)) Q := fun s ht F =>
  wpAny_pyIter_list (x.isList (F.kn hk)) ⟨ρ, _, _, s.toks, rfl, F.push _ rfl, h _ _ ⟨rfl, rfl⟩⟩

theorem w_forList {a : Addr} {o : Obj} {vs : List Value} {target : Expr} {body orelse : List Stmt} {Q : Flow → Rho → Led → Prop} (hh : A.handled = none) (hk : Kn h₀ σ a o) (x : LObj o vs) {σ₃ : Led} (hsub : σ₃.Sublist σ) (J : Nat → Rho → Led → Prop) (j0 : J 0 ρ σ₃)
    (hok : ∀ i ρ σ, J i ρ σ → Kn h₀ σ a o)
    (turn : ∀ i v I oi ρ σ, i < vs.length → vs[i]? = some v → J i ρ σ → W w A h₀ env ρ ((I, oi) :: σ) (PySem.assign target env v) fun _ ρ' σ' => W w A h₀ env ρ' σ' (execs body env) (FlI I oi (J (i + 1)) Q))
    (done : ∀ ρ σ, J vs.length ρ σ → W w A h₀ env ρ σ (execs orelse env) Q) :
    W w A h₀ env ρ σ (pyIter (.ref a)) fun it ρ'' σ'' => LoopAt w A h₀ env target body orelse Q it ρ'' σ'' :=
  W.iterList hk x fun I oi hi => ⟨_, _, _, _, J, I, oi, σ₃, proto_list hh x, rfl, List.Sublist.cons₂ _ hsub, hi, j0, hok, fun i v I o ρ σ hi pv _ hJ => turn i v I o ρ σ hi pv hJ, done⟩

theorem proto_range {n : Nat} {a : Int} (hh : A.handled = none) : Proto w A h₀ env (fun _ => True) n (fun i o => ItR (a + i) (n - i) o) (fun i v => ∃ t, v = .int (a + i) t) where
  item := fun i I oi ρ σ Q hi hI hk hQ s ht F => by
    have e : IsRangeIter s.heap I (a + i) (n - i) 1 := by
      show s.heap.get? I = _
      rw [F.get (.head _), hI]
    refine wpAny_pyNext_range_item e (by lia) fun h' hi' hs => ?_
    exact ⟨ρ, _, h', s.toks + 1, rfl, F.same hs hi', hQ _ _ ⟨_, rfl⟩ (by
      show _ = _
      have e1 : a + ↑i + 1 = a + ((i + 1 : Nat) : Int) := by lia
      have e2 : (n : Int) - ↑i - 1 = n - ((i + 1 : Nat) : Int) := by lia
      rw [← e1, ← e2])⟩
  done := fun I oi ρ σ Q hI hk hQ s ht F => by
    have e : IsRangeIter s.heap I (a + n) (n - n) 1 := by
      show s.heap.get? I = _
      rw [F.get (.head _), hI]
    refine wpAny_pyNext_range_end hh e (by lia) fun h' hs => ?_
    exact ⟨ρ, σ, h', s.toks, rfl, F.gone hs, hQ⟩
  self := fun i I oi ρ σ Q hI hQ s ht F => wpAny_pyIter_rangeiter (x := a + i) (left := n - i) (step := 1) (by show s.heap.get? I = _; rw [F.get (.head _), hI]) (Post.now F hQ)
end
end Mine
end

section
open PySem PySem.W PyProof.Rows PySem.Calls PySem.Builtin PySem.Builtin.Str
set_option maxRecDepth 100000
set_option maxHeartbeats 4000000
set_option linter.unusedVariables false
namespace Mine
section
variable {w : World} {A : Around} {h₀ h h' : Heap} {env : Env} {ρ : Rho} {σ : Led}

theorem W.leaf0 {α : Type} {t : Sem α} {Q : α → Rho → Led → Prop} {a : α}
    (L : ∀ (s : Shared) (R : α → Shared → Prop), R a s → wpAny (model PP w) A t R (fun _ _ => False) s) (h : Q a ρ σ) : W w A h₀ env ρ σ t Q := fun s ht F =>
  L s _ ⟨ρ, σ, s.heap, s.toks, rfl, F, h⟩
/-- the same, the answer's token not told -/
theorem W.leafT {t : Sem Value} {Q : Value → Rho → Led → Prop} {f : Tok → Value}
    (L : ∀ (s : Shared) (R : Value → Shared → Prop), (∀ t' k, R (f t') { s with toks := k }) → wpAny (model PP w) A t R (fun _ _ => False) s) (h : ∀ t', Q (f t') ρ σ) : W w A h₀ env ρ σ t Q := fun s ht F =>
  L s _ fun t' k => ⟨ρ, σ, s.heap, k, rfl, F, h t'⟩

section
variable {a b : Int} {t u v : Tok} {x y z : Str} {Q : Value → Rho → Led → Prop}
theorem W.addI (h : ∀ t', Q (.int (a + b) t') ρ σ) : W w A h₀ env ρ σ (binaryOp .Add (.int a t) (.int b u)) Q := by with_reducible exact W.leafT (f := fun t' => .int (a + b) t') (fun s R q => PyProof.Rows.add_int (q _ _)) h
theorem W.subI (h : ∀ t', Q (.int (a - b) t') ρ σ) : W w A h₀ env ρ σ (binaryOp .Sub (.int a t) (.int b u)) Q := by with_reducible exact W.leafT (f := fun t' => .int (a - b) t') (fun s R q => PyProof.Rows.sub_int (q _ _)) h
theorem W.modI (hb : b ≠ 0) (h : ∀ t', Q (.int (a.fmod b) t') ρ σ) : W w A h₀ env ρ σ (binaryOp .Mod (.int a t) (.int b u)) Q := by with_reducible exact W.leafT (f := fun t' => .int (a.fmod b) t') (fun s R q => PyProof.Rows.mod_int hb (q _ _)) h
theorem W.iaddI (h : ∀ t', Q (.int (a + b) t') ρ σ) : W w A h₀ env ρ σ (inplaceOp .Add (.int a t) (.int b u)) Q := by with_reducible exact W.leafT (f := fun t' => .int (a + b) t') (fun s R q => PyProof.Rows.iadd_int (q _ _)) h
theorem W.isubI (h : ∀ t', Q (.int (a - b) t') ρ σ) : W w A h₀ env ρ σ (inplaceOp .Sub (.int a t) (.int b u)) Q := by with_reducible exact W.leafT (f := fun t' => .int (a - b) t') (fun s R q => PyProof.Rows.isub_int (q _ _)) h
theorem W.negI (h : ∀ t', Q (.int (-a) t') ρ σ) : W w A h₀ env ρ σ (unaryOp .USub (.int a t)) Q := by with_reducible exact W.leafT (f := fun t' => .int (-a) t') (fun s R q => PySem.P.neg_int (q _ _)) h
theorem W.ltI (h : Q (.bool (decide (a < b))) ρ σ) : W w A h₀ env ρ σ (compareOp .Lt (.int a t) (.int b u)) Q := by with_reducible exact W.leaf0 (fun s R q => PyProof.Rows.lt_int q) h
theorem W.geI (h : Q (.bool (decide (b ≤ a))) ρ σ) : W w A h₀ env ρ σ (compareOp .GtE (.int a t) (.int b u)) Q := by with_reducible exact W.leaf0 (fun s R q => PyProof.Rows.ge_int q) h
theorem W.eqI (h : Q (.bool (a == b)) ρ σ) : W w A h₀ env ρ σ (compareOp .Eq (.int a t) (.int b u)) Q := by with_reducible exact W.leaf0 (fun s R q => PyProof.Rows.eq_int q) h
theorem W.neI (h : Q (.bool (a != b)) ρ σ) : W w A h₀ env ρ σ (compareOp .NotEq (.int a t) (.int b u)) Q := by with_reducible exact W.leaf0 (fun s R q => PyProof.Rows.ne_int q) h

theorem W.addS (hsz : x.length + y.length ≤ 16777216) (h : ∀ t', Q (.str (x ++ y) t') ρ σ) : W w A h₀ env ρ σ (binaryOp .Add (.str x t) (.str y u)) Q := by with_reducible exact W.leafT (f := fun t' => .str (x ++ y) t') (fun s R q => SBL.add (fun t k _ => q t k) (by rw [sizeLine_eq]; exact hsz)) h
theorem W.iaddS (hsz : x.length + y.length ≤ 16777216) (h : ∀ t', Q (.str (x ++ y) t') ρ σ) : W w A h₀ env ρ σ (inplaceOp .Add (.str x t) (.str y u)) Q := by with_reducible exact W.leafT (f := fun t' => .str (x ++ y) t') (fun s R q => SBL.iadd (fun t k _ => q t k) (by rw [sizeLine_eq]; exact hsz)) h
theorem cps_beq {x y : Str} : (x.cps.toList == y.cps.toList) = (x == y) := by
  rw [Bool.eq_iff_iff]
  simp only [beq_iff_eq]
  constructor
  · intro h; exact Str.ext' (Array.ext' h)
  · intro h; rw [h]
theorem W.eqS (h : Q (.bool (x == y)) ρ σ) : W w A h₀ env ρ σ (compareOp .Eq (.str x t) (.str y u)) Q := by with_reducible exact W.leaf0 (fun s R q => PySem.P.eq_str (by rw [cps_beq]; exact q)) h
theorem W.notInS (h : Q (.bool (!Txt.contains x y)) ρ σ) : W w A h₀ env ρ σ (compareOp .NotIn (.str y u) (.str x t)) Q := W.leaf0 (fun s R q => PySem.P.notIn_str q) h
theorem W.lenS (hx : x.length < 2 ^ 62) (h : ∀ t', Q (.int x.length t') ρ σ) : W w A h₀ env ρ σ (PySem.call (.builtin "len") [.str x t]) Q := by with_reducible exact W.leafT (f := fun t' => .int x.length t') (fun s R q => PySem.P.len_str (by lia) (q _ _)) h
theorem W.itemS {i : Int} {c : Nat} (hr : -(2 ^ 62) ≤ i ∧ i < 2 ^ 62) (hc : (seqIndex? i x.length).bind (x.cps[·]?) = some c) (h : ∀ t', Q (.str ⟨#[c]⟩ t') ρ σ) : W w A h₀ env ρ σ (getItem (.str x t) (.int i u)) Q :=
  W.leafT (f := fun t' => .str ⟨#[c]⟩ t') (fun s R q => PySem.P.getItem_str (by simp; lia) hc (q _ _)) h

theorem W.starts (h : Q (.bool (Txt.startswith x y)) ρ σ) : W w A h₀ env ρ σ (PySem.call (.builtin "str.startswith") [.str x t, .str y u]) Q := by with_reducible exact W.leaf0 (fun s R q => SC.startswith q) h
theorem W.ends (h : Q (.bool (Txt.endswith x y)) ρ σ) : W w A h₀ env ρ σ (PySem.call (.builtin "str.endswith") [.str x t, .str y u]) Q := by with_reducible exact W.leaf0 (fun s R q => SC.endswith q) h
theorem W.find3 {i : Int} (h : ∀ t', Q (.int (Txt.find3 x y i) t') ρ σ) : W w A h₀ env ρ σ (PySem.call (.builtin "str.find") [.str x t, .str y u, .int i v]) Q := by with_reducible exact W.leafT (f := fun t' => .int (Txt.find3 x y i) t') (fun s R q => SC.find3 (q _ _)) h

theorem replace_le (x y z : Str) : (Txt.replace x y z).length ≤ x.length + (x.length + 1) * z.length := by
  unfold Txt.replace
  split
  · exact Nat.le_add_right _ _
  · by_cases hb : True
    · have h1 := StrLaws.occ_length_le x y 0 x.length (x.length + 1)
      rw [size_glued, length_partsBetween]
      have h2 : (Builtin.Str.occurrences x y 0 x.length (x.length + 1)).length * z.length ≤ (x.length + 1) * z.length := Nat.mul_le_mul_right _ h1
      have h3 : ((Builtin.Str.partsBetween x (Builtin.Str.occurrences x y 0 x.length (x.length + 1)) y.length).map (·.length)).sum ≤ x.length := by
        have h4 := size_glued y (Builtin.Str.partsBetween x (Builtin.Str.occurrences x y 0 x.length (x.length + 1)) y.length)
        rw [StrLaws.glued_between_self] at h4
        lia
      rw [Nat.add_sub_cancel]
      lia
    · exact absurd trivial hb

/-- `o.replace("..", "..")` with written texts -/
theorem W.replace {o : Expr} {apos pos p1 p2 : Pos} {k1 k2 : Nat} {pl : Sem Bool} (hyz : (y == z) = false) (hz : z.length ≤ 14)
    (h : W w A h₀ env ρ σ (eval o env) fun ov ρ' σ' => ∃ x t, ov = .str x t ∧ x.length ≤ 2000 ∧ ∀ t', Q (.str (Txt.replace x y z) t') ρ' σ')
    (he : PySem.eval (.Call (.Attribute o "replace" apos) [.Constant (.str y) k1 p1, .Constant (.str z) k2 p2] [] pos) env = (do
      let ov ← PySem.eval o env
      standAt apos.atName
      let (f, first) ← holding [ov] (getMethod ov "replace" pl)
      callWith pos f first (backTo pos (starEach [.Constant (.str y) k1 p1, .Constant (.str z) k2 p2] env)) []) := by with_unfolding_all rfl) :
    W w A h₀ env ρ σ (eval (.Call (.Attribute o "replace" apos) [.Constant (.str y) k1 p1, .Constant (.str z) k2 p2] [] pos) env) Q := fun s ht F => by
  refine MethodCall_ (W.step h ht F ?_) he
  rintro _ ρ' σ' h' tk htk _ F' ⟨x, t, rfl, hx, q⟩
  refine GM.replace (callWith_method1 (args_cons (wpAny_Constant_str (args_cons (wpAny_Constant_str (args_nil ?_))))))
  refine SC.replaceW (Nat.ne_of_gt htk) (Nat.succ_ne_zero _) (Nat.ne_of_lt (Nat.lt_succ_self _)) hyz (by exact Nat.le_trans (by assumption) (by decide)) hz fun t' k => ?_
  exact ⟨ρ', σ', h', k, rfl, F', q t'⟩
end

/-! methods -/
/-! truth -/
theorem W.trB {b : Bool} {Q : Bool → Rho → Led → Prop} (h : Q b ρ σ) : W w A h₀ env ρ σ (truthy (.bool b)) Q := by with_reducible exact W.leaf0 (fun s R q => wpAny_truthy_bool q) h

/-! lists -/
section
variable {a : Addr} {o : Obj} {vs : List Value} {Q : Value → Rho → Led → Prop}
theorem W.itemL {i : Nat} {k : Int} {t : Tok} {x : Value} (hk : Kn h₀ σ a o) (hl : LObj o vs) (e : k = i) (hx : vs[i]? = some x) (hf : i < 2 ^ 62) (h : Q x ρ σ) : W w A h₀ env ρ σ (getItem (.ref a) (.int k t)) Q := fun s ht F => by
  subst e
  exact wpAny_getItem_list (hl.isList (F.kn hk)) (by exact Int.natCast_nonneg _) (by lia) (by simpa using hx) ⟨ρ, σ, s.heap, s.toks, rfl, F, h⟩
theorem W.lenL (hk : Kn h₀ σ a o) (hl : LObj o vs) (hf : vs.length < 2 ^ 62) (h : ∀ t', Q (.int vs.length t') ρ σ) : W w A h₀ env ρ σ (PySem.call (.builtin "len") [.ref a]) Q := fun s ht F => by
  refine Calls.call_len_list (hl.isList (F.kn hk)) ?_ ?_
  · simp; lia
  · refine ⟨ρ, σ, s.heap, _, rfl, F, ?_⟩
    have := h
    simpa using this _
end

/-! a subscript's last step -/
theorem sub_tail {M : Program} {w : World} {A : Around} {E : Value → Shared → Prop} {s : Shared} {value slice : Expr} {o i : Value} {T id : String} {ops : List Value} {Q : Value → Shared → Prop} (hT : s.TypeIs o T)
    (hl : typeLookup (.type T) "__getitem__" = pure (some (.builtin id))) (h : wpAny (model M w) A (getItem o i) Q E s)
    (hs : subscripted slice false o i = operate ops (getItem o i)) : wpAny (model M w) A (subscriptTail value slice o i) Q E s := by
  unfold subscriptTail
  refine wpAny_bind ?_
  rw [getitemInPython_of_ne hT.not_modules]
  refine wpAny_bind (wpAny_specialOf hT hl ?_)
  have fin : wpAny (model M w) A (subscripted slice false o i) (fun r s₃ => wpAny (model M w) A (letTemporaryGo value o r >>= fun _ => pure r) Q E s₃) E s := by
    rw [hs]
    exact wpAny_operating (wpAny_mono h (fun r s₃ h₃ => wpAny_bind (wpAny_letTemp (wpAny_pure h₃))) fun _ _ x => x)
  first
    | exact wpAny_pure (wpAny_bind fin)
    | exact wpAny_bind (wpAny_pure (wpAny_bind fin))
    | exact wpAny_bind fin
theorem W.tail {value slice : Expr} {o i : Value} {Q : Value → Rho → Led → Prop} {T id : String} {ops : List Value} (hT : ∀ s : Shared, FS h₀ env ρ σ s.heap → s.TypeIs o T) (sl : Slot T "__getitem__" id)
    (h : W w A h₀ env ρ σ (getItem o i) Q) (hs : subscripted slice false o i = operate ops (getItem o i) := by with_unfolding_all rfl) :
    W w A h₀ env ρ σ (subscriptTail value slice o i) Q := fun s ht F => sub_tail (hT s F) sl.lookup (h s ht F) hs
end
end Mine
end

section
open PySem PySem.W PyProof.Rows PySem.Calls PySem.Builtin PySem.Builtin.Str
set_option maxRecDepth 100000
set_option maxHeartbeats 4000000
set_option linter.unusedVariables false
namespace Mine
section
variable {w : World} {A : Around} {h₀ h h' : Heap} {env : Env} {ρ : Rho} {σ : Led} {x y : Str} {t u : Tok} {Q : Value → Rho → Led → Prop}

/-- one new object -/
theorem FS.mk1 {s : Shared} {k : Nat} {o : Obj} {Q : Value → Rho → Led → Prop} (F : FS h₀ env ρ σ s.heap) (hf : o.isFreed = false) (h : Q (.ref s.heap.objs.size) ρ ((s.heap.objs.size, o) :: σ)) :
    Post h₀ env s Q (.ref s.heap.objs.size) { s with heap := s.heap.push o, toks := k } := ⟨ρ, _, _, k, rfl, F.push o hf, h⟩

theorem parts_le (x y : Str) : (partsBetween x (occurrences x y 0 x.length (x.length + 1)) y.length).length ≤ x.length + 2 := by
  rw [length_partsBetween]
  have := StrLaws.occ_length_le x y 0 x.length (x.length + 1)
  exact Nat.lt_succ_of_le (by assumption)

theorem w_split {u : Tok} (hy : (y.length == 0) = false) (hx : x.length ≤ 1000000)
    (h : ∀ D o l, LObj o (strValues l) → l.map (·.1) = Txt.split x y → Q (.ref D) ρ ((D, o) :: σ)) : W w A h₀ env ρ σ (PySem.call (.builtin "str.split") [.str x t, .str y u]) Q := fun s ht F => by
  have hp := parts_le x y
  have hz : x.length ≤ sizeLine := by rw [sizeLine_eq]; lia
  have hz2 : (partsBetween x (occurrences x y 0 x.length (x.length + 1)) y.length).length ≤ sizeLine := by rw [sizeLine_eq]; lia
  cases h1 : (decide (x.length < y.length) || decide (strKind x < strKind y))
  · cases hf : (occurrences x y 0 x.length (x.length + 1)).isEmpty
    · refine call_meets PySem.F.slot_str_split (typeIs_str _ _ _) PySem.F.entry_str_split (PySem.F.args_str_split_2 _ _) (meets_str_split_sep x y t u h1 hy hf hz hz2) ?_
      refine F.mk1 rfl (h _ _ (numbered s.toks (partsBetween x (occurrences x y 0 x.length (x.length + 1)) y.length)) ⟨0, ?_⟩ ((numbered_texts _ _).trans ((if_neg (ne_true_of_eq_false h1)).trans (if_neg (ne_true_of_eq_false hf))).symm))
      rw [strsFrom_eq]
    · exact call_meets PySem.F.slot_str_split (typeIs_str _ _ _) PySem.F.entry_str_split (PySem.F.args_str_split_2 _ _) (meets_str_split_not_found x y t u h1 hy hf)
        (F.mk1 rfl (h _ _ [(x, t)] ⟨0, rfl⟩ ((if_neg (ne_true_of_eq_false h1)).trans (if_pos hf)).symm))
  · exact call_meets PySem.F.slot_str_split (typeIs_str _ _ _) PySem.F.entry_str_split (PySem.F.args_str_split_2 _ _) (meets_str_split_cannot_occur x y t u h1)
      (F.mk1 rfl (h _ _ [(x, t)] ⟨0, rfl⟩ (if_pos h1).symm))

theorem w_partition {u : Tok} (hy : (y.length == 0) = false) (hx : x.length ≤ 1000000)
    (h : ∀ D o t1 t2 t3, TObj o [.str (Txt.partition x y).1 t1, .str (Txt.partition x y).2.1 t2, .str (Txt.partition x y).2.2 t3] → Q (.ref D) ρ ((D, o) :: σ)) :
    W w A h₀ env ρ σ (PySem.call (.builtin "str.partition") [.str x t, .str y u]) Q := fun s ht F => by
  have hz : x.length ≤ sizeLine := by rw [sizeLine_eq]; lia
  refine call_meets PySem.F.slot_str_partition (typeIs_str _ _ _) PySem.F.entry_str_partition (PySem.F.args_str_partition_2 _ _) (meets_str_partition x y t u hy hz) ?_
  unfold Txt.partition at h
  cases e : occurrences x y 0 x.length 1 with
  | nil => rw [e] at h; exact F.mk1 rfl (h _ _ _ _ _ ⟨rfl, 0, rfl⟩)
  | cons i r => rw [e] at h; exact F.mk1 rfl (h _ _ _ _ _ ⟨rfl, 0, rfl⟩)

theorem w_join {D : Addr} {o : Obj} {l : List (Str × Tok)} {B : Nat} (hk : Kn h₀ σ D o) (hl : LObj o (strValues l)) (hB : ∀ y ∈ l.map (·.1), y.length ≤ B) (hn : (l.map (·.1)).length * B + (l.map (·.1)).length * x.length ≤ 16777216)
    (h : ∀ t', Q (.str (Txt.join x (l.map (·.1))) t') ρ σ) : W w A h₀ env ρ σ (PySem.call (.builtin "str.join") [.str x t, .ref D]) Q := fun s ht F =>
  SC.join (hl.isList (F.kn hk)) rfl (by unfold JoinOk; rw [StrLaws.joinFits hB hn]; rfl) fun t' k => ⟨ρ, σ, s.heap, k, rfl, F, h t'⟩
end

section
variable {w : World} {A : Around} {h₀ h h' : Heap} {env : Env} {ρ : Rho} {σ : Led}
theorem w_assignT {elts : List Expr} {k : Nat} {tpos : Pos} {value : Expr} {pos : Pos} {Q : Flow → Rho → Led → Prop}
    (h : W w A h₀ env ρ σ (eval value env) fun v ρ' σ' => W w A h₀ env ρ' σ' (PySem.assign (.Tuple elts k tpos) env v) fun _ => Q .next)
    (hs : swapsWithSole [.Tuple elts k tpos] value pos.line env = pure false := by with_unfolding_all rfl)
    (hw : swappedStores [.Tuple elts k tpos] value env = pure none := by with_unfolding_all rfl) : W w A h₀ env ρ σ (exec (.Assign [.Tuple elts k tpos] value pos) env) Q := fun s ht F =>
  Assign_Tuple (W.step h ht F fun _ _ _ _ _ htk _ F' q => q.at htk F') hs hw
theorem w_unpackT {elts : List Expr} {k : Nat} {pos : Pos} {a : Addr} {o : Obj} {vs : List Value} {Q : Unit → Rho → Led → Prop} (hh : A.handled = none) (hk : Kn h₀ σ a o) (hT : TObj o vs)
    (h : W w A h₀ env ρ σ (assignInOrder ((assignEach elts env).map (·.2)) vs) Q)
    (hn : (assignEach elts env).length = vs.length := by rfl) (hstar : (assignEach elts env).findIdx? (·.1) = none := by rfl) : W w A h₀ env ρ σ (PySem.assign (.Tuple elts k pos) env (.ref a)) Q := fun s ht F => by
  refine wpAny_assign_Tuple hh (items := vs.toArray) ⟨o, F.kn hk, hT.1, hT.2⟩ (by simpa using hn) hstar fun h' hx => ?_
  have st : s.heap.StaysIn h' := fun b o e => hx b o (Nat.ne_of_lt (Heap.lt_size e)) e
  simpa using h.at (s := s) (tk := s.toks) ht (F.stays st)
theorem w_inOrder {t : Value → Sem Unit} {ts : List (Value → Sem Unit)} {v : Value} {vs : List Value} {Q : Unit → Rho → Led → Prop}
    (h : W w A h₀ env ρ σ (t v) fun _ ρ' σ' => W w A h₀ env ρ' σ' (assignInOrder ts vs) Q) : W w A h₀ env ρ σ (assignInOrder (t :: ts) (v :: vs)) Q := fun s ht F =>
  wpAny_assignInOrder_more (W.step h ht F fun _ _ _ _ _ htk _ F' q => q.at htk F')
theorem w_inOrder0 {Q : Unit → Rho → Led → Prop} (h : Q () ρ σ) : W w A h₀ env ρ σ (assignInOrder [] []) Q := fun s ht F => wpAny_assignInOrder_none ⟨ρ, σ, s.heap, s.toks, rfl, F, h⟩

theorem w_inOrderE {e : Expr} {rest : List Expr} {v : Value} {vs : List Value} {Q : Unit → Rho → Led → Prop}
    (h : W w A h₀ env ρ σ (PySem.assign e env v) fun _ ρ' σ' => W w A h₀ env ρ' σ' (assignInOrder ((assignEach rest env).map (·.2)) vs) Q)
    (he : assignEach (e :: rest) env = (false, PySem.assign e env) :: assignEach rest env := by with_unfolding_all rfl) : W w A h₀ env ρ σ (assignInOrder ((assignEach (e :: rest) env).map (·.2)) (v :: vs)) Q := by
  rw [he]; exact w_inOrder h
theorem w_inOrderE0 {Q : Unit → Rho → Led → Prop} (h : Q () ρ σ) : W w A h₀ env ρ σ (assignInOrder ((assignEach [] env).map (·.2)) []) Q := w_inOrder0 h
theorem w_item {value slice : Expr} {a : Addr} {o : Obj} {vs : List Value} {i : Nat} {k : Int} {t : Tok} {x : Value} {Q : Value → Rho → Led → Prop} (hk : Kn h₀ σ a o) (hl : LObj o vs) (e : k = i) (hx : vs[i]? = some x) (hf : i < 2 ^ 62) (h : Q x ρ σ)
    (hs : subscripted slice false (.ref a) (.int k t) = operate [.ref a, .int k t] (getItem (.ref a) (.int k t)) := by with_unfolding_all rfl) :
    W w A h₀ env ρ σ (subscriptTail value slice (.ref a) (.int k t)) Q :=
  W.tail (fun s F => (hl.isList (F.kn hk)).typeIs) slot_list_getitem (W.itemL hk hl e hx hf h) hs
end
section
variable {w : World} {A : Around} {h₀ h h' : Heap} {env : Env} {ρ : Rho} {σ : Led} {x : Str} {t : Tok} {pl : Sem Bool} {Q : Value × List Value → Rho → Led → Prop}
theorem w_gm_startswith (h : Q (.builtin "str.startswith", [.str x t]) ρ σ) : W w A h₀ env ρ σ (getMethod (.str x t) "startswith" pl) Q := by
  intro s ht F
  with_reducible refine GM.startswith ?_
  exact ⟨ρ, σ, s.heap, s.toks, rfl, F, h⟩
theorem w_gm_endswith (h : Q (.builtin "str.endswith", [.str x t]) ρ σ) : W w A h₀ env ρ σ (getMethod (.str x t) "endswith" pl) Q := by
  intro s ht F
  with_reducible refine GM.endswith ?_
  exact ⟨ρ, σ, s.heap, s.toks, rfl, F, h⟩
theorem w_gm_find (h : Q (.builtin "str.find", [.str x t]) ρ σ) : W w A h₀ env ρ σ (getMethod (.str x t) "find" pl) Q := by
  intro s ht F
  with_reducible refine GM.find ?_
  exact ⟨ρ, σ, s.heap, s.toks, rfl, F, h⟩
theorem w_gm_split (h : Q (.builtin "str.split", [.str x t]) ρ σ) : W w A h₀ env ρ σ (getMethod (.str x t) "split" pl) Q := by
  intro s ht F
  with_reducible refine GM.split ?_
  exact ⟨ρ, σ, s.heap, s.toks, rfl, F, h⟩
theorem w_gm_partition (h : Q (.builtin "str.partition", [.str x t]) ρ σ) : W w A h₀ env ρ σ (getMethod (.str x t) "partition" pl) Q := by
  intro s ht F
  with_reducible refine GM.partition ?_
  exact ⟨ρ, σ, s.heap, s.toks, rfl, F, h⟩
theorem w_gm_join (h : Q (.builtin "str.join", [.str x t]) ρ σ) : W w A h₀ env ρ σ (getMethod (.str x t) "join" pl) Q := by
  intro s ht F
  with_reducible refine GM.join ?_
  exact ⟨ρ, σ, s.heap, s.toks, rfl, F, h⟩
end
end Mine
end

section
open PySem PySem.W PyProof.Rows PySem.Calls
set_option maxRecDepth 100000
set_option maxHeartbeats 4000000
set_option linter.unusedVariables false
namespace Mine
section
variable {w : World} {A : Around} {h₀ h h' : Heap} {env : Env} {ρ : Rho} {σ : Led} {loose : List Str} {mean : ExcName → Option Value} {mg mb : Str → Option Value} {need : Nat}

theorem FS.adopt {a : Addr} {o : Obj} (F : FS h₀ env ρ σ h) (F' : FS h₀ env ρ σ h') (hg : h'.get? a = some o) (hn : h.get? a = none) : FS h₀ env ρ ((a, o) :: σ) h' :=
  { F' with
    led := fun p hp => by
      rcases List.mem_cons.mp hp with rfl | hp
      · refine ⟨hg, ?_, ?_, ?_⟩
        · cases e : h₀.get? a with
          | none => rfl
          | some o' => have := F.keep _ _ e; rw [hn] at this; cases this
        · intro e
          obtain ⟨m, ⟨o', _, _, ho, _⟩, _⟩ := F.ns
          rw [← e, hn] at ho; cases ho
        · intro x c hc e
          obtain ⟨o', ho, _⟩ := F.cell x c hc
          rw [← e, hn] at ho; cases ho
      · exact F'.led p hp
    nd := by
      rw [List.map_cons]
      refine List.nodup_cons.mpr ⟨fun hm => ?_, F'.nd⟩
      obtain ⟨q, hq, e⟩ := List.mem_map.mp hm
      have h1 := (F.led q hq).1
      dsimp only at e
      rw [e, hn] at h1; cases h1 }

noncomputable def tests (ifs : List Expr) (env : Env) : Sem Bool := forIn ifs true fun c r => if r = true then do let ok ← isTrue c env (eval c env); pure (ForInStep.yield ok) else pure (ForInStep.yield r)
theorem w_tests0 {Q : Bool → Rho → Led → Prop} (h : Q true ρ σ) : W w A h₀ env ρ σ (tests [] env) Q := fun s ht F => wpAny_tests_nil ⟨ρ, σ, s.heap, s.toks, rfl, F, h⟩
theorem w_tests1 {c : Expr} {Q : Bool → Rho → Led → Prop} (h : W w A h₀ env ρ σ (isTrue c env (eval c env)) Q) : W w A h₀ env ρ σ (tests [c] env) Q := fun s ht F => wpAny_tests_one (h s ht F)

/-- a heap that keeps the frame's own -/
noncomputable def Sees (h₀ : Heap) (σ : Led) (h₁ : Heap) : Prop := h₀.StaysIn h₁ ∧ ∀ p ∈ σ, h₁.get? p.1 = some p.2

inductive CompAt (w : World) (loose : List Str) (mean : ExcName → Option Value) (mg mb : Str → Option Value) (need : Nat) (A : Around) (h₀ : Heap) (env : Env) (scope : Scope) (cl : List (Str × Addr)) (target elt : Expr) (ifs : List Expr) (Q : Value → Rho → Led → Prop) (it : Value) (ρ : Rho) (σ : Led) : Prop
  | mk (n : Nat) (It : Nat → Obj → Prop) (P : Nat → Value → Prop) (R : Nat → List Value → Prop) (I : Addr) (oi : Obj) (σ₃ : Led) (e : it = .ref I) (sub : ((I, oi) :: σ₃).Sublist σ) (it0 : It 0 oi) (r0 : R 0 []) (sz : n ≤ 1000000)
    (pr : ∀ base env', Sees h₀ σ₃ base → Proto w A base env' (fun _ => True) n It P)
    (turn : ∀ h₁ C ρc i v rs, Sees h₀ σ₃ h₁ → Ok w loose mean mg mb need A (compEnvC scope cl C env) h₁ → (∀ x c u, cl.lookup x = some c → ρ x = some u → ρc x = some u) → i < n → P i v → R i rs →
      W w A h₁ (compEnvC scope cl C env) ρc [] (assign target (compEnvC scope cl C env) v) fun _ ρ1 σ1 => W w A h₁ (compEnvC scope cl C env) ρ1 σ1 (tests ifs (compEnvC scope cl C env)) fun ok ρ2 σ2 =>
        if ok then W w A h₁ (compEnvC scope cl C env) ρ2 σ2 (eval elt (compEnvC scope cl C env)) fun x _ _ => R (i + 1) (rs ++ [x]) else R (i + 1) rs)
    (fin : ∀ D o rs, LObj o rs → R n rs → Q (.ref D) ρ ((D, o) :: σ₃)) : CompAt w loose mean mg mb need A h₀ env scope cl target elt ifs Q it ρ σ
end
end Mine
end

section
open PySem PySem.W PyProof.Rows PySem.Calls PySem.Builtin PySem.Builtin.Str PySem.MeetsSeq PySem.SeqAt
set_option maxRecDepth 100000
set_option maxHeartbeats 4000000
set_option linter.unusedVariables false
namespace Mine
/-- a list of texts -/
noncomputable def SL (o : Obj) (ss : List Str) : Prop := ∃ l : List (Str × Tok), LObj o (strValues l) ∧ l.map (·.1) = ss
theorem strValues_app (l l' : List (Str × Tok)) : strValues (l ++ l') = strValues l ++ strValues l' := by simp [strValues]
theorem SL.nil {o : Obj} (h : LObj o []) : SL o [] := ⟨[], h, rfl⟩
section
variable {w : World} {A : Around} {h₀ h h' : Heap} {env : Env} {ρ : Rho} {σ : Led} {loose : List Str} {mean : ExcName → Option Value} {mg mb : Str → Option Value} {need : Nat}

theorem w_list {elts : List Expr} {pos : Pos} {Q : Value → Rho → Led → Prop}
    (h : W w A h₀ env ρ σ (spliced (backTo pos (starEach elts env))) fun vs ρ' σ' => vs.length ≤ 1000000 ∧ ∀ D o, LObj o vs → Q (.ref D) ρ' ((D, o) :: σ')) : W w A h₀ env ρ σ (eval (.List elts pos) env) Q := fun s ht F => by
  rw [arm_eval_List]
  refine wpAny_bind (wpAny_standAt (wpAny_bind (W.step h ht F fun vs ρ' σ' h' tk htk _ F' q => wpAny_newList ?_ (by rw [sizeLine_eq]; lia))))
  exact ⟨ρ', _, _, tk, rfl, F'.push _ rfl, q.2 _ _ ⟨0, rfl⟩⟩

theorem seq_all {l l' : List (Str × Tok)} (h : l.length = l'.length) :
    (List.range (strValues l).toArray.size).all (fun j => ((l.map (·.1)).getD j ⟨#[]⟩) == ((l'.map (·.1)).getD j ⟨#[]⟩)) = (l.map (·.1) == l'.map (·.1)) := by
  rw [Bool.eq_iff_iff]
  simp only [List.all_eq_true, List.mem_range, beq_iff_eq, List.size_toArray, strValues_len]
  constructor
  · intro h1
    refine List.ext_getElem (by simp [h]) fun j h2 h3 => ?_
    have := h1 j (by simpa using h2)
    simp only [List.getD, List.getElem?_eq_getElem h2, List.getElem?_eq_getElem h3, Option.getD_some] at this
    exact this
  · intro h1 j _
    rw [h1]

theorem w_eqSL (O : Ok w loose mean mg mb need A env h₀) {a b : Addr} {o o' : Obj} {ss ss' : List Str} {Q : Value → Rho → Led → Prop} (ha : Kn h₀ σ a o) (hb : Kn h₀ σ b o') (sa : SL o ss) (sb : SL o' ss')
    (h : Q (.bool (ss == ss')) ρ σ) : W w A h₀ env ρ σ (compareOp .Eq (.ref a) (.ref b)) Q := fun s ht F => by
  obtain ⟨l, l1, rfl⟩ := sa
  obtain ⟨l', l2, rfl⟩ := sb
  have hu : A.units < cLine := by have := O.un; lia
  by_cases hl : l.length = l'.length
  · refine eq_listAt (e := fun j => ((l.map (·.1)).getD j ⟨#[]⟩) == ((l'.map (·.1)).getD j ⟨#[]⟩)) (l1.isList (F.kn ha)) (l2.isList (F.kn hb)) (by simp [strValues_len, hl]) hu (fun j h1 h2 => ?_) ?_
    · have k1 : j < l.length := by simpa [strValues_len] using h1
      have k2 : j < l'.length := by simpa [strValues_len] using h2
      have := EqAt.str_str (A := A.in1) (s := s) l[j].1 l[j].2 l'[j].1 l'[j].2
      simpa [strValues, List.getD, List.getElem?_map, List.getElem?_eq_getElem k1, List.getElem?_eq_getElem k2] using this
    · rw [seq_all hl]; exact Post.now F h
  · refine eq_list_lengthsAt (l1.isList (F.kn ha)) (l2.isList (F.kn hb)) (by simp [strValues_len, hl]) hu ?_
    have e : (l.map (·.1) == l'.map (·.1)) = false := by
      rw [beq_eq_false_iff_ne]
      intro e
      exact hl (by simpa using congrArg List.length e)
    rw [e] at h
    exact Post.now F h
theorem w_neSL (O : Ok w loose mean mg mb need A env h₀) {a b : Addr} {o o' : Obj} {ss ss' : List Str} {Q : Value → Rho → Led → Prop} (ha : Kn h₀ σ a o) (hb : Kn h₀ σ b o') (sa : SL o ss) (sb : SL o' ss')
    (h : Q (.bool (ss != ss')) ρ σ) : W w A h₀ env ρ σ (compareOp .NotEq (.ref a) (.ref b)) Q := fun s ht F => by
  obtain ⟨l, l1, rfl⟩ := sa
  obtain ⟨l', l2, rfl⟩ := sb
  have hu : A.units < cLine := by have := O.un; lia
  by_cases hl : l.length = l'.length
  · refine RcNeAt.lists (e := fun j => ((l.map (·.1)).getD j ⟨#[]⟩) == ((l'.map (·.1)).getD j ⟨#[]⟩)) (l1.isList (F.kn ha)) (l2.isList (F.kn hb)) (by simp [strValues_len, hl]) hu (fun j h1 h2 => ?_) _ _ _ _ ?_
    · have k1 : j < l.length := by simpa [strValues_len] using h1
      have k2 : j < l'.length := by simpa [strValues_len] using h2
      have := EqAt.str_str (A := A.in1) (s := s) l[j].1 l[j].2 l'[j].1 l'[j].2
      simpa [strValues, List.getD, List.getElem?_map, List.getElem?_eq_getElem k1, List.getElem?_eq_getElem k2] using this
    · rw [seq_all hl]; exact Post.now F h
  · refine RcNeAt.lists_lengths (l1.isList (F.kn ha)) (l2.isList (F.kn hb)) (by simp [strValues_len, hl]) hu _ _ _ _ ?_
    have e : (l.map (·.1) != l'.map (·.1)) = true := by
      rw [bne_iff_ne]
      intro e
      exact hl (by simpa using congrArg List.length e)
    rw [e] at h
    exact Post.now F h

theorem w_addL {a b : Addr} {o o' : Obj} {vs vs' : List Value} {Q : Value → Rho → Led → Prop} (ha : Kn h₀ σ a o) (hb : Kn h₀ σ b o') (sa : LObj o vs) (sb : LObj o' vs') (hz : vs.length + vs'.length ≤ 1000000)
    (h : ∀ D o₂, LObj o₂ (vs ++ vs') → Q (.ref D) ρ ((D, o₂) :: σ)) : W w A h₀ env ρ σ (binaryOp .Add (.ref a) (.ref b)) Q := fun s ht F => by
  obtain ⟨n, rfl⟩ := sa
  obtain ⟨n', rfl⟩ := sb
  refine PySem.P.add_list (F.kn ha) (F.kn hb) ?_ (by rw [sizeLine_eq]; simp; exact Nat.le_trans (by assumption) (by decide))
  exact ⟨ρ, _, _, s.toks, rfl, F.push _ rfl, h _ _ ⟨0, by simp⟩⟩

/-! turned in place -/
theorem w_turnL {α : Type} {t : Sem α} {D : Addr} {o : Obj} {vs vs' : List Value} {f : Obj → Led} {g : Array Value → Array Value} {v : α} {Q : α → Rho → Led → Prop} (hL : LObj o vs) (U : ∀ o', Upd D o o' σ (f o')) (hg : g vs.toArray = vs'.toArray)
    (L : ∀ (s : Shared) (R : α → Shared → Prop) n, s.heap.get? D = some { cls := .type "list", data := .seq vs.toArray n } → R v { s with heap := s.heap.update D (Obj.mapSeq g) } → wpAny (model PP w) A t R (fun _ _ => False) s)
    (h : ∀ o', LObj o' vs' → Q v ρ (f o')) : W w A h₀ env ρ σ t Q := fun s ht F => by
  obtain ⟨n, rfl⟩ := hL
  have e : Obj.mapSeq g { cls := .type "list", data := .seq vs.toArray n } = { cls := .type "list", data := .seq vs'.toArray (if vs'.toArray.size == vs.toArray.size then n else n + 1) } := by
    rw [← hg]; rfl
  refine L s _ n (F.get (U { cls := .none, data := .freed }).mem) ⟨ρ, f (Obj.mapSeq g { cls := .type "list", data := .seq vs.toArray n }), _, s.toks, rfl, F.upd (U _) (by rw [e]; rfl), h _ ⟨_, e⟩⟩
theorem w_append {D : Addr} {o : Obj} {vs : List Value} {f : Obj → Led} {v : Value} {Q : Value → Rho → Led → Prop} (hL : LObj o vs) (hz : vs.length ≤ 1000000) (U : ∀ o', Upd D o o' σ (f o'))
    (h : ∀ o', LObj o' (vs ++ [v]) → Q .none ρ (f o')) : W w A h₀ env ρ σ (PySem.call (.builtin "list.append") [.ref D, v]) Q :=
  w_turnL (g := fun xs => xs.push v) hL U (by simp) (fun s R n ho q => by
    refine call_meets PySem.F.slot_list_append ⟨_, ho, rfl⟩ PySem.F.entry_list_append (PySem.F.args_list_append_2 _ _) (PySem.list_append D vs.toArray n v (by rw [sizeLine_eq]; simp; exact Nat.le_trans (by assumption) (by decide))) ⟨ho, q⟩) h
theorem w_extend {D b : Addr} {o o₂ : Obj} {vs vs₂ : List Value} {f : Obj → Led} {Q : Value → Rho → Led → Prop} (hL : LObj o vs) (hk : Kn h₀ σ b o₂) (hL₂ : LObj o₂ vs₂) (hz : vs.length + vs₂.length ≤ 1000000) (U : ∀ o', Upd D o o' σ (f o'))
    (h : ∀ o', LObj o' (vs ++ vs₂) → Q .none ρ (f o')) : W w A h₀ env ρ σ (PySem.call (.builtin "list.extend") [.ref D, .ref b]) Q := fun s ht F => by
  obtain ⟨n, rfl⟩ := hL
  obtain ⟨n₂, rfl⟩ := hL₂
  have ho := F.get (U { cls := .none, data := .freed }).mem
  have hb := F.kn hk
  have e : Obj.mapSeq (fun x => x ++ vs₂.toArray) { cls := .type "list", data := .seq vs.toArray n } = { cls := .type "list", data := .seq (vs ++ vs₂).toArray (if (vs ++ vs₂).toArray.size == vs.toArray.size then n else n + 1) } := by
    rw [mapSeq_app]; simp
  have hsz : vs.toArray.size + vs₂.toArray.size ≤ sizeLine := by rw [sizeLine_eq]; simp; lia
  refine call_meets PySem.F.slot_list_extend ⟨_, ho, rfl⟩ PySem.F.entry_list_extend (PySem.F.args_list_extend_2 _ _) (AutoSeq1.list_extend_list_list_0 D vs.toArray n b vs₂.toArray n₂ (extend_door hsz) (Nat.le_trans (Nat.le_add_right _ _) hsz)) ⟨ho, hb, ?_⟩
  exact ⟨ρ, _, _, s.toks, rfl, F.upd (U _) (by rw [e]; rfl), h _ ⟨_, e⟩⟩
theorem w_pop {D : Addr} {o : Obj} {vs : List Value} {v : Value} {f : Obj → Led} {Q : Value → Rho → Led → Prop} (hL : LObj o (vs ++ [v])) (hz : vs.length ≤ 1000000) (U : ∀ o', Upd D o o' σ (f o'))
    (h : ∀ o', LObj o' vs → Q v ρ (f o')) : W w A h₀ env ρ σ (PySem.call (.builtin "list.pop") [.ref D]) Q :=
  w_turnL (g := fun xs => xs.eraseIdxIfInBounds ((vs ++ [v]).toArray.size - 1)) hL U (by
    rw [show (vs ++ [v]).toArray.size - 1 = vs.length by simp, kl_erase, List.append_nil]) (fun s R n ho q => by
    refine call_meets PySem.F.slot_list_pop ⟨_, ho, rfl⟩ PySem.F.entry_list_pop (PySem.F.args_list_pop_1 _) (PySem.MeetsSeq.list_pop_last D _ n v (by simp) (by rw [sizeLine_eq]; simp; exact Nat.le_trans (by assumption) (by decide))) ⟨ho, q⟩) h
theorem w_clear {D : Addr} {o : Obj} {vs : List Value} {f : Obj → Led} {Q : Value → Rho → Led → Prop} (hL : LObj o vs) (hz : vs.length ≤ 1000000) (U : ∀ o', Upd D o o' σ (f o'))
    (h : ∀ o', LObj o' [] → Q .none ρ (f o')) : W w A h₀ env ρ σ (PySem.call (.builtin "list.clear") [.ref D]) Q :=
  w_turnL (g := fun _ => #[]) hL U rfl (fun s R n ho q => by
    refine call_meets PySem.F.slot_list_clear ⟨_, ho, rfl⟩ PySem.F.entry_list_clear (PySem.F.args_list_clear_1 _) (AutoSeq1.list_clear_list_0 D vs.toArray n (by rw [sizeLine_eq]; simp; lia)) ⟨ho, q⟩) h
/-- a list, its count not told -/
noncomputable def LW (o : Obj) (vs : List Value) : Prop := o.cls = .type "list" ∧ ∃ n, o.data = .seq vs.toArray n
theorem LObj.lw {o : Obj} {vs : List Value} (h : LObj o vs) : LW o vs := let ⟨n, e⟩ := h; ⟨by rw [e], n, by rw [e]⟩
theorem LW.isList {h : Heap} {a : Addr} {o : Obj} {vs : List Value} (x : LW o vs) (e : h.get? a = some o) : h.IsList a vs.toArray := ⟨o, e, x.1, x.2⟩
theorem FS.put {D : Addr} {o : Obj} {f : Obj → Led} (F : FS h₀ env ρ σ h) (U : ∀ o', Upd D o o' σ (f o')) {o' : Obj} (hs : Heap.SameBut D h h') (ho : h'.get? D = some o') : FS h₀ env ρ (f o') h' := by
  have D0 := F.led _ (U o').mem
  refine ⟨fun b x e => (hs.2 b fun z => ?_).trans (F.keep b x e), ?_, fun x c hc => (F.cell x c hc).sameBut hs fun z => D0.2.2.2 x c hc z.symm, F.off, F.coff, F.cne, F.cnd, fun p hp => ?_, (U o').map ▸ F.nd⟩
  · rw [z, D0.2.1] at e; cases e
  · obtain ⟨m, n, r⟩ := F.ns
    exact ⟨m, n.sameBut hs (Ne.symm D0.2.2.1), r⟩
  · rcases (U o').mem' F.nd p hp with rfl | ⟨h1, ne⟩
    · exact ⟨ho, D0.2⟩
    · exact ⟨(hs.2 _ ne).trans (F.led p h1).1, (F.led p h1).2⟩
theorem w_setItem {D : Addr} {o : Obj} {vs : List Value} {f : Obj → Led} {v : Value} {i : Nat} {k : Int} {t : Tok} {Q : Unit → Rho → Led → Prop} (hL : LW o vs) (e : k = i) (hi : i < vs.length) (hz : vs.length ≤ 1000000) (U : ∀ o', Upd D o o' σ (f o'))
    (h : ∀ o', LW o' (vs.set i v) → Q () ρ (f o')) : W w A h₀ env ρ σ (setItem (.ref D) (.int k t) v) Q := fun s ht F => by
  subst e
  have ho := F.get (U { cls := .none, data := .freed }).mem
  refine wpAny_setItem_list (hL.isList ho) (by exact Int.natCast_nonneg _) (by lia) (by simpa using hi) fun h' hl' hs => ?_
  obtain ⟨o', d1, d2, d3, d4⟩ := hl'
  exact ⟨ρ, _, h', s.toks, rfl, F.put U hs d1, h o' ⟨d2, d3, by simpa using d4⟩⟩
theorem w_itemLN {a : Addr} {o : Obj} {vs : List Value} {k : Int} {t : Tok} {x : Value} {Q : Value → Rho → Led → Prop} (hk : Kn h₀ σ a o) (hl : LW o vs) (h0 : k < 0) (h1 : -(vs.length : Int) ≤ k) (hz : vs.length ≤ 1000000) (hx : vs[(k + vs.length).toNat]? = some x)
    (h : Q x ρ σ) : W w A h₀ env ρ σ (getItem (.ref a) (.int k t)) Q := fun s ht F =>
  wpAny_getItem_list_neg (hl.isList (F.kn hk)) h0 (by simpa using h1) (by lia) (by simpa using hx) ⟨ρ, σ, s.heap, s.toks, rfl, F, h⟩
theorem w_trL {a : Addr} {o : Obj} {vs : List Value} {Q : Bool → Rho → Led → Prop} (hk : Kn h₀ σ a o) (hl : LObj o vs) (hz : vs.length ≤ 1000000) (h : Q (!vs.isEmpty) ρ σ) : W w A h₀ env ρ σ (truthy (.ref a)) Q := fun s ht F => by
  refine wpAny_truthy_list (hl.isList (F.kn hk)) (by simp; lia) ⟨ρ, σ, s.heap, _, rfl, F, ?_⟩
  have e : vs.toArray.isEmpty = vs.isEmpty := by simp
  rw [e]; exact h
theorem w_gm_list {a : Addr} {o : Obj} {vs : List Value} {name : Str} {id : String} {pl : Sem Bool} {Q : Value × List Value → Rho → Led → Prop} (hk : Kn h₀ σ a o) (hl : LObj o vs) (slot : Slot "list" name id) (hty : typeOf (.builtin id) = pure (.type "method_descriptor"))
    (h : Q (.builtin id, [.ref a]) ρ σ) : W w A h₀ env ρ σ (getMethod (.ref a) name pl) Q := fun s ht F => by
  have hT := (hl.isList (F.kn hk)).typeIs
  exact getMethod_builtin hT PySem.F.plainAttrs_list slot hty (fun b e => by cases e; obtain ⟨n, rfl⟩ := hl; exact ⟨_, F.kn hk, rfl⟩) (Post.now F h)
theorem w_tupOfL {a : Addr} {o : Obj} {vs : List Value} {Q : Value → Rho → Led → Prop} (hk : Kn h₀ σ a o) (hl : LObj o vs) (hz : vs.length ≤ 1000000) (h : ∀ D o', TObj o' vs → Q (.ref D) ρ ((D, o') :: σ)) : W w A h₀ env ρ σ (PySem.call (.type "tuple") [.ref a]) Q := fun s ht F => by
  refine call_tuple_list (hl.isList (F.kn hk)) (fun h' st => ?_) (by rw [sizeLine_eq]; simp; lia)
  exact ⟨ρ, _, _, s.toks, rfl, (F.stays st).push _ rfl, h _ _ ⟨rfl, 0, rfl⟩⟩
end
end Mine
end

section
open PySem PySem.W PyProof.Rows PySem.Calls
set_option maxRecDepth 100000
set_option maxHeartbeats 4000000
set_option linter.unusedVariables false
namespace Mine
/-- values that stand for things -/
inductive Al {α : Type} (V : α → Value → Prop) : List α → List Value → Prop
  | nil : Al V [] []
  | cons {x : α} {v : Value} {xs : List α} {vs : List Value} : V x v → Al V xs vs → Al V (x :: xs) (v :: vs)
namespace Al
variable {α : Type} {V : α → Value → Prop} {xs : List α} {vs : List Value}
theorem append {ys : List α} {us : List Value} (h : Al V xs vs) (k : Al V ys us) : Al V (xs ++ ys) (vs ++ us) := by
  induction h with
  | nil => exact k
  | cons a _ ih => exact .cons a ih
theorem snoc {x : α} {v : Value} (h : Al V xs vs) (k : V x v) : Al V (xs ++ [x]) (vs ++ [v]) := h.append (.cons k .nil)
theorem len (h : Al V xs vs) : vs.length = xs.length := by
  induction h with
  | nil => rfl
  | cons _ _ ih => exact congrArg Nat.succ ih
theorem get {i : Nat} {v : Value} (h : Al V xs vs) (k : vs[i]? = some v) : ∃ x, xs[i]? = some x ∧ V x v := by
  induction h generalizing i with
  | nil => cases k
  | cons a _ ih =>
    cases i with
    | zero => cases k; exact ⟨_, rfl, a⟩
    | succ i => exact ih k
theorem get' {i : Nat} {x : α} (h : Al V xs vs) (k : xs[i]? = some x) : ∃ v, vs[i]? = some v ∧ V x v := by
  induction h generalizing i with
  | nil => cases k
  | cons a _ ih =>
    cases i with
    | zero => cases k; exact ⟨_, rfl, a⟩
    | succ i => exact ih k
theorem mono {V' : α → Value → Prop} (h : ∀ x v, x ∈ xs → V x v → V' x v) (a : Al V xs vs) : Al V' xs vs := by
  induction a with
  | nil => exact .nil
  | cons b r ih => exact .cons (h _ _ (.head _) b) (ih fun x v hx => h x v (.tail _ hx))
theorem of_map {β : Type} {f : α → β} {V' : β → Value → Prop} (h : ∀ x v, V x v → V' (f x) v) (r : Al V xs vs) : Al V' (xs.map f) vs := by
  induction r with
  | nil => exact .nil
  | cons a _ ih => exact .cons (h _ _ a) ih
end Al
/-- a value that is a text -/
noncomputable def IsS (x : Str) (v : Value) : Prop := ∃ t, v = .str x t
noncomputable def IsI (x : Int) (v : Value) : Prop := ∃ t, v = .int x t
theorem al_strs : ∀ l : List (Str × Tok), Al IsS (l.map (·.1)) (strValues l)
  | [] => .nil
  | (x, t) :: r => .cons ⟨t, rfl⟩ (al_strs r)
theorem strs_al {ss : List Str} {vs : List Value} (h : Al IsS ss vs) : ∃ l : List (Str × Tok), vs = strValues l ∧ l.map (·.1) = ss := by
  induction h with
  | nil => exact ⟨[], rfl, rfl⟩
  | cons a _ ih =>
    obtain ⟨t, rfl⟩ := a
    obtain ⟨l, rfl, rfl⟩ := ih
    exact ⟨(_, t) :: l, rfl, rfl⟩
theorem SL.al {o : Obj} {ss : List Str} (h : SL o ss) : ∃ vs, LObj o vs ∧ Al IsS ss vs := by
  obtain ⟨l, h1, rfl⟩ := h
  exact ⟨_, h1, al_strs l⟩
theorem SL.of {o : Obj} {ss : List Str} {vs : List Value} (h : LObj o vs) (a : Al IsS ss vs) : SL o ss := by
  obtain ⟨l, rfl, e⟩ := strs_al a
  exact ⟨l, h, e⟩

section
variable {w : World} {A : Around} {h₀ h h' : Heap} {env : Env} {ρ : Rho} {σ : Led} {loose : List Str} {mean : ExcName → Option Value} {mg mb : Str → Option Value} {need : Nat}

theorem Proto.mono {ok ok' : Led → Prop} {n : Nat} {It : Nat → Obj → Prop} {P P' : Nat → Value → Prop} (p : Proto w A h₀ env ok n It P) (h : ∀ σ, ok' σ → ok σ) (hP : ∀ i v, i < n → P i v → P' i v) : Proto w A h₀ env ok' n It P' :=
  ⟨fun i I o ρ σ Q hi hI hk hQ => p.item i I o ρ σ Q hi hI (h _ hk) fun v o' pv hI' => hQ v o' (hP i v hi pv) hI', fun I o ρ σ Q hI hk hQ => p.done I o ρ σ Q hI (h _ hk) hQ, p.self⟩

/-- a comprehension over things, `p` its test, `V` what it makes of one -/
theorem compAt_of {α : Type} {xs : List α} {U V : α → Value → Prop} {p : α → Bool} {scope : Scope} {cl : List (Str × Addr)} {target elt : Expr} {ifs : List Expr} {Q : Value → Rho → Led → Prop} {n : Nat} {It : Nat → Obj → Prop} {P : Nat → Value → Prop} {I : Addr} {oi : Obj}
    (Pr : ∀ base env', Sees h₀ σ base → Proto w A base env' (fun _ => True) n It P) (hn : n = xs.length) (hsz : n ≤ 1000000) (hP : ∀ i v, P i v → ∃ x, xs[i]? = some x ∧ U x v) (hI : It 0 oi)
    (turn : ∀ h₁ C ρc x v, Sees h₀ σ h₁ → Ok w loose mean mg mb need A (compEnvC scope cl C env) h₁ → (∀ x c u, cl.lookup x = some c → ρ x = some u → ρc x = some u) → x ∈ xs → U x v →
      W w A h₁ (compEnvC scope cl C env) ρc [] (PySem.assign target (compEnvC scope cl C env) v) fun _ ρ1 σ1 => W w A h₁ (compEnvC scope cl C env) ρ1 σ1 (tests ifs (compEnvC scope cl C env)) fun k ρ2 σ2 =>
        k = p x ∧ (p x = true → W w A h₁ (compEnvC scope cl C env) ρ2 σ2 (eval elt (compEnvC scope cl C env)) fun y _ _ => V x y))
    (fin : ∀ D o' rs, LObj o' rs → Al V (xs.filter p) rs → Q (.ref D) ρ ((D, o') :: σ)) :
    CompAt w loose mean mg mb need A h₀ env scope cl target elt ifs Q (.ref I) ρ ((I, oi) :: σ) := by
  refine ⟨n, It, P, fun i rs => Al V ((xs.take i).filter p) rs, I, oi, σ, rfl, List.Sublist.refl _, hI, by simpa using Al.nil, hsz, Pr, ?_, fun D o rs hl hr => fin D o rs hl (by rw [hn, List.take_length] at hr; exact hr)⟩
  intro h₁ C ρc i v rs hs O hc hi pv hr
  obtain ⟨x, hx, ux⟩ := hP i v pv
  have hx' := List.mem_of_getElem? hx
  have e : (xs.take (i + 1)).filter p = (xs.take i).filter p ++ (if p x then [x] else []) := by
    rw [List.take_add_one, hx, List.filter_append]
    cases hp : p x <;> simp [hp]
  refine (turn h₁ C ρc x v hs O hc hx' ux).mono fun _ ρ1 σ1 q => q.mono fun k ρ2 σ2 q => ?_
  obtain ⟨rfl, q⟩ := q
  cases hp : p x with
  | false =>
    refine ite_f (by decide) ?_
    rw [e, hp]; simpa using hr
  | true =>
    refine ite_t rfl ((q hp).mono fun y _ _ vy => ?_)
    rw [e, hp]
    exact hr.snoc vy

theorem w_compL {α : Type} {xs : List α} {U V : α → Value → Prop} {vs : List Value} {a : Addr} {o : Obj} (p : α → Bool) {scope : Scope} {cl : List (Str × Addr)} {target elt : Expr} {ifs : List Expr} {Q : Value → Rho → Led → Prop}
    (hh : A.handled = none) (hk : Kn h₀ σ a o) (hl : LObj o vs) (hx : Al U xs vs) (hsz : xs.length ≤ 1000000)
    (turn : ∀ h₁ C ρc x v, Sees h₀ σ h₁ → Ok w loose mean mg mb need A (compEnvC scope cl C env) h₁ → (∀ x c u, cl.lookup x = some c → ρ x = some u → ρc x = some u) → x ∈ xs → U x v →
      W w A h₁ (compEnvC scope cl C env) ρc [] (PySem.assign target (compEnvC scope cl C env) v) fun _ ρ1 σ1 => W w A h₁ (compEnvC scope cl C env) ρ1 σ1 (tests ifs (compEnvC scope cl C env)) fun k ρ2 σ2 =>
        k = p x ∧ (p x = true → W w A h₁ (compEnvC scope cl C env) ρ2 σ2 (eval elt (compEnvC scope cl C env)) fun y _ _ => V x y))
    (fin : ∀ D o' rs, LObj o' rs → Al V (xs.filter p) rs → Q (.ref D) ρ ((D, o') :: σ)) :
    W w A h₀ env ρ σ (pyIter (.ref a)) fun it ρ'' σ'' => CompAt w loose mean mg mb need A h₀ env scope cl target elt ifs Q it ρ'' σ'' :=
  W.iterList hk hl fun I oi hi => compAt_of (fun base env' hs => (proto_list hh hl).mono (fun _ _ => .inr (hk.elim (fun h => hs.2 _ h) (fun h => hs.1 _ _ h))) fun _ _ _ h => h) hx.len (by rw [hx.len]; exact hsz) (fun i v hv => hx.get hv) hi turn fin

theorem clk_of {names : List (Str × NameKind)} {cl : List (Str × Addr)} (h : ((cl.map (·.1)).all fun x => names.lookup x != some .local) = true) : ∀ x c, cl.lookup x = some c → names.lookup x ≠ some .local := fun x c e => by
  have := List.all_eq_true.mp h x (List.mem_map.mpr ⟨(x, c), mem_of_lookup e, rfl⟩)
  simpa using this
end
end Mine
end

section
open PySem PySem.W PyProof.Rows PySem.Calls
set_option maxRecDepth 100000
set_option maxHeartbeats 4000000
set_option linter.unusedVariables false
namespace Mine
noncomputable def ROk (o : Obj) (a b : Int) : Prop := ∃ t u v, o = { cls := .type "range", data := .fields #[.int a t, .int b u, .int 1 v] }
section
variable {w : World} {A : Around} {h₀ h h' : Heap} {env : Env} {ρ : Rho} {σ : Led} {loose : List Str} {mean : ExcName → Option Value} {mg mb : Str → Option Value} {need : Nat}
theorem w_range1 {n : Int} {t : Tok} {Q : Value → Rho → Led → Prop} (h : ∀ D o, ROk o 0 n → Q (.ref D) ρ ((D, o) :: σ)) : W w A h₀ env ρ σ (PySem.call (.type "range") [.int n t]) Q := fun s ht F =>
  call_range_1 ⟨ρ, _, _, _, rfl, F.push _ rfl, h _ _ ⟨_, _, _, rfl⟩⟩
theorem w_range2 {a b : Int} {t u : Tok} {Q : Value → Rho → Led → Prop} (h : ∀ D o, ROk o a b → Q (.ref D) ρ ((D, o) :: σ)) : W w A h₀ env ρ σ (PySem.call (.type "range") [.int a t, .int b u]) Q := fun s ht F =>
  call_range_2 ⟨ρ, _, _, _, rfl, F.push _ rfl, h _ _ ⟨_, _, _, rfl⟩⟩
theorem rsize {a b : Int} {n : Nat} (e : n = (b - a).toNat) : Builtin.Range.rangeSize a b 1 = n := by
  unfold Builtin.Range.rangeSize
  subst e
  simp
  grind
theorem W.iterRange {a : Addr} {o : Obj} {x y : Int} {n : Nat} {Q : Value → Rho → Led → Prop} (hk : Kn h₀ σ a o) (hr : ROk o x y) (e : n = (y - x).toNat) (hsm : Builtin.Range.small x y 1 = true)
    (h : ∀ I oi, ItR (x + (0 : Nat)) (n - (0 : Nat)) oi → Q (.ref I) ρ ((I, oi) :: σ)) : W w A h₀ env ρ σ (pyIter (.ref a)) Q := fun s ht F => by
  obtain ⟨t, u, v, rfl⟩ := hr
  refine wpAny_pyIter_range (F.kn hk) hsm ?_
  rw [rsize e]
  exact ⟨ρ, _, _, s.toks, rfl, F.push _ rfl, h _ _ (by simp [ItR])⟩
theorem w_forRange {a : Addr} {o : Obj} {x y : Int} {n : Nat} {target : Expr} {body orelse : List Stmt} {Q : Flow → Rho → Led → Prop} (hh : A.handled = none) (hk : Kn h₀ σ a o) (hr : ROk o x y) (e : n = (y - x).toNat) (hsm : Builtin.Range.small x y 1 = true) {σ₃ : Led} (hsub : σ₃.Sublist σ) (J : Nat → Rho → Led → Prop) (j0 : J 0 ρ σ₃)
    (turn : ∀ i t I oi ρ σ, i < n → J i ρ σ → W w A h₀ env ρ ((I, oi) :: σ) (PySem.assign target env (.int (x + (i : Nat)) t)) fun _ ρ' σ' => W w A h₀ env ρ' σ' (execs body env) (FlI I oi (J (i + 1)) Q))
    (done : ∀ ρ σ, J n ρ σ → W w A h₀ env ρ σ (execs orelse env) Q) :
    W w A h₀ env ρ σ (pyIter (.ref a)) fun it ρ'' σ'' => LoopAt w A h₀ env target body orelse Q it ρ'' σ'' :=
  W.iterRange hk hr e hsm fun I oi hi => ⟨_, _, _, _, J, I, oi, σ₃, proto_range (n := n) (a := x) hh, rfl, List.Sublist.cons₂ _ hsub, hi, j0, fun _ _ _ _ => trivial, fun i v I o ρ σ hi ⟨t, e⟩ _ hJ => e ▸ turn i t I o ρ σ hi hJ, done⟩
theorem w_compR {V : Int → Value → Prop} {a : Addr} {o : Obj} {x y : Int} {n : Nat} (p : Int → Bool) {scope : Scope} {cl : List (Str × Addr)} {target elt : Expr} {ifs : List Expr} {Q : Value → Rho → Led → Prop}
    (hh : A.handled = none) (hk : Kn h₀ σ a o) (hr : ROk o x y) (e : n = (y - x).toNat) (hsm : Builtin.Range.small x y 1 = true) (hsz : n ≤ 1000000)
    (turn : ∀ h₁ C ρc i t, Sees h₀ σ h₁ → Ok w loose mean mg mb need A (compEnvC scope cl C env) h₁ → (∀ x c u, cl.lookup x = some c → ρ x = some u → ρc x = some u) → i < n →
      W w A h₁ (compEnvC scope cl C env) ρc [] (PySem.assign target (compEnvC scope cl C env) (.int (x + (i : Nat)) t)) fun _ ρ1 σ1 => W w A h₁ (compEnvC scope cl C env) ρ1 σ1 (tests ifs (compEnvC scope cl C env)) fun k ρ2 σ2 =>
        k = p (x + (i : Nat)) ∧ (p (x + (i : Nat)) = true → W w A h₁ (compEnvC scope cl C env) ρ2 σ2 (eval elt (compEnvC scope cl C env)) fun y _ _ => V (x + (i : Nat)) y))
    (fin : ∀ D o' rs, LObj o' rs → Al V (((List.range n).map fun i => x + (i : Nat)).filter p) rs → Q (.ref D) ρ ((D, o') :: σ)) :
    W w A h₀ env ρ σ (pyIter (.ref a)) fun it ρ'' σ'' => CompAt w loose mean mg mb need A h₀ env scope cl target elt ifs Q it ρ'' σ'' :=
  W.iterRange hk hr e hsm fun I oi hi => compAt_of (xs := (List.range n).map fun i => x + (i : Nat)) (U := IsI) (fun base env' hs => (proto_range (n := n) (a := x) hh).mono (P' := fun i v => i < n ∧ ∃ t, v = .int (x + i) t) (fun _ h => h) fun i v hi h => ⟨hi, h⟩) (by simp) hsz (fun i v ⟨hi, t, e⟩ => ⟨x + i, by simp [hi], t, e⟩) hi
    (fun h₁ C ρc z v hs O hc hz ⟨t, e⟩ => by
      obtain ⟨i, hi, rfl⟩ := List.mem_map.mp hz
      subst e
      exact turn h₁ C ρc i t hs O hc (List.mem_range.mp hi)) fin
end
end Mine
end

section
open PySem PySem.W PyProof.Rows PySem.Calls
set_option maxRecDepth 100000
set_option maxHeartbeats 4000000
set_option linter.unusedVariables false
namespace Mine
section
variable {w : World} {A : Around} {h₀ h h' : Heap} {env : Env} {ρ : Rho} {σ : Led} {loose : List Str} {mean : ExcName → Option Value} {mg mb : Str → Option Value} {need : Nat}

/-- a code walked in a frame -/
inductive CPost (h₀ : Heap) (env : Env) (g : Array GenState) (d : Drawn) (os : OsState) (R : Rho → Led → Prop) : Result → Shared → Prop
  | mk {ρ : Rho} {σ : Led} {h' : Heap} {tk : Nat} : 0 < tk → FS h₀ env ρ σ h' → R ρ σ → CPost h₀ env g d os R (.ok .next) ⟨h', g, d, tk, os⟩
noncomputable def WC (w : World) (A : Around) (h₀ : Heap) (env : Env) (ρ : Rho) (σ : Led) (c : Code) (R : Rho → Led → Prop) : Prop :=
  ∀ s : Shared, 0 < s.toks → FS h₀ env ρ σ s.heap → codeAny (model PP w) A c (CPost h₀ env s.gens s.drawn s.os R) s
theorem WC.mono {c : Code} {R R' : Rho → Led → Prop} (h : WC w A h₀ env ρ σ c R) (hr : ∀ ρ σ, R ρ σ → R' ρ σ) : WC w A h₀ env ρ σ c R' := fun s ht F => codeAny_mono (h s ht F) fun r s' q => by
  cases q with | mk a b q => exact .mk a b (hr _ _ q)

/-- one clause's turn, by reading -/
noncomputable def turnOfK (target : Expr) (ifs : List Expr) (p : Pos) (rest : Sem Fin) (it : Value) (env : Env) (c : Code) : Sem Fin := do
  standAt p
  match ← pyNext it with
  | none => pure (.done .next)
  | some v =>
    letOwnedTupleGo target it v
    PySem.assign target env v
    let mut ok := true
    for c in ifs do
      if ok then ok ← isTrue c env (eval c env)
    if ok then rest else again c
noncomputable def turnOf (target : Expr) (ifs : List Expr) (p : Pos) (rest : Sem Unit) (it : Value) (env : Env) (c : Code) : Sem Fin := turnOfK target ifs p (do rest; again c) it env c

inductive CSt (h₀ : Heap) (env : Env) (s : Shared) (J : Nat → Rho → Led → Prop) (k : Nat) : Shared → Prop
  | mk {ρ : Rho} {σ : Led} {h' : Heap} {tk : Nat} : 0 < tk → FS h₀ env ρ σ h' → J k ρ σ → CSt h₀ env s J k { s with heap := h', toks := tk }
section
variable {J : Nat → Rho → Led → Prop} {k : Nat} {R : Rho → Led → Prop} {target : Expr} {ifs : List Expr} {p : Pos} {it : Value} {rest : Sem Fin} {c : Code} {s : Shared}
noncomputable abbrev AgW (J : Nat → Rho → Led → Prop) (k : Nat) (c : Code) (f : Fin) (ρ : Rho) (σ : Led) : Prop := f = .again c ∧ ∃ m, m < k ∧ J m ρ σ
noncomputable def AgS (h₀ : Heap) (env : Env) (s : Shared) (J : Nat → Rho → Led → Prop) (k : Nat) (c : Code) (f : Fin) (s' : Shared) : Prop := f = .again c ∧ ∃ m, m < k ∧ CSt h₀ env s J m s'
/-- a clause's turn -/
noncomputable def NxC (w : World) (A : Around) (h₀ : Heap) (env : Env) (J : Nat → Rho → Led → Prop) (k : Nat) (R : Rho → Led → Prop) (target : Expr) (it : Value) (ifs : List Expr) (rest : Sem Fin) (c : Code) (r : Option Value) (ρ : Rho) (σ : Led) : Prop := match r with
  | none => R ρ σ
  | some v => W w A h₀ env ρ σ (letOwnedTupleGo target it v) fun _ ρ σ => W w A h₀ env ρ σ (PySem.assign target env v) fun _ ρ σ => W w A h₀ env ρ σ (tests ifs env) fun b ρ σ =>
      if b then W w A h₀ env ρ σ rest (AgW J k c) else ∃ m, m < k ∧ J m ρ σ
noncomputable def NyC (w : World) (A : Around) (h₀ : Heap) (env : Env) (s : Shared) (J : Nat → Rho → Led → Prop) (k : Nat) (R : Rho → Led → Prop) (target : Expr) (it : Value) (ifs : List Expr) (rest : Sem Fin) (c : Code) (r : Option Value) (s' : Shared) : Prop := match r with
  | none => CPost h₀ env s.gens s.drawn s.os R (.ok .next) s'
  | some v => wpAny (model PP w) A (letOwnedTupleGo target it v) (fun _ s' => wpAny (model PP w) A (PySem.assign target env v) (fun _ s' => wpAny (model PP w) A (tests ifs env) (fun b s' =>
      wpAny (model PP w) A (if b = true then rest else again c) (AgS h₀ env s J k c) (fun _ _ => False) s') (fun _ _ => False) s') (fun _ _ => False) s') (fun _ _ => False) s'
theorem AgS.done {f : Fin} {s' : Shared} {R : Result → Shared → Prop} : AgS h₀ env s J k c f s' → match f with | .done f => R (.ok f) s' | .again c' => c' = c ∧ ∃ m, m < k ∧ CSt h₀ env s J m s' := by
  intro q
  cases q with | intro e q =>
  subst e
  exact ⟨rfl, q⟩
theorem wc_core {elt : Expr} {gens : List Comprehension} {scope : Scope} {pos : Pos} {d : Nat} {acc : Value} (J : Nat → Rho → Led → Prop)
    (ht : compTurn (.ListComp elt gens scope pos) d it acc env = turnOfK target ifs p rest it env (.compLoop (.ListComp elt gens scope pos) d it acc env))
    (turn : ∀ k ρ σ, J k ρ σ → W w A h₀ env ρ σ (pyNext it) (NxC w A h₀ env J k R target it ifs rest (.compLoop (.ListComp elt gens scope pos) d it acc env)))
    (k : Nat) (h : J k ρ σ) : WC w A h₀ env ρ σ (.compLoop (.ListComp elt gens scope pos) d it acc env) R := fun s hts F => by
  refine codeAny_loop rfl (CSt h₀ env s J) ?_ k (.mk (tk := s.toks) hts F h)
  intro k s' H
  cases H with | mk ht₁ F₁ hI =>
  show wpAny _ A ((compTurn (.ListComp elt gens scope pos) d it acc env).onRaise (fun x => do noteFrame x env; theTreesLotGoes x)) _ _ _
  refine wpAny_noted ?_
  rw [ht]
  unfold turnOfK
  refine wpAny_bind (wpAny_standAt (wpAny_bind ?_))
  generalize hc : Code.compLoop (.ListComp elt gens scope pos) d it acc env = c at turn ⊢
  refine wpF (Q := NyC w A h₀ env s J k R target it ifs rest c) (W.step (turn _ _ _ hI) ht₁ F₁ fun r ρ' σ' h' tk htk _ F' q => ?_) fun r s' q => ?_
  · cases r with
    | none => exact .mk htk F' q
    | some v =>
      refine W.step q htk F' fun _ _ _ _ _ htk _ F' q => W.step q htk F' fun _ _ _ _ _ htk _ F' q => W.step q htk F' fun b _ _ _ _ htk _ F' q => ?_
      cases b with
      | false => exact q.elim fun m x => wpAny_pure ⟨rfl, m, x.1, .mk htk F' x.2⟩
      | true => exact W.step q htk F' fun f _ _ _ _ htk _ F' q => ⟨q.1, q.2.elim fun m x => ⟨m, x.1, .mk htk F' x.2⟩⟩
  · cases r with
    | none => exact wpAny_pure q
    | some v =>
      refine wpAny_bind (wpF q fun _ _ q => wpAny_bind (wpF q fun _ _ q => wpAny_bind (wpF q fun b _ q => ?_)))
      cases b with
      | false => exact wpF q fun f s' x => by exact x.done
      | true => exact wpF q fun f s' x => by exact x.done
end
inductive CJ (n : Nat) (I : Addr) (It : Nat → Obj → Prop) (J : Nat → Rho → Led → Prop) : Nat → Rho → Led → Prop
  | mk {i : Nat} {ρ : Rho} {σ σ' : Led} {o : Obj} : i ≤ n → ((I, o) :: σ).Sublist σ' → It i o → J i ρ σ → CJ n I It J (n - i) ρ σ'
theorem CJ.go {n i : Nat} {I : Addr} {It : Nat → Obj → Prop} {J : Nat → Rho → Led → Prop} {o : Obj} {σ' : Led} (hin : i < n) (hI : It (i + 1) o) (q : ∃ σ₃, ((I, o) :: σ₃).Sublist σ' ∧ J (i + 1) ρ σ₃) : ∃ m, m < n - i ∧ CJ n I It J m ρ σ' :=
  q.elim fun _ x => ⟨n - (i + 1), Nat.sub_lt_sub_left hin (Nat.lt_succ_self i), .mk hin x.1 hI x.2⟩
theorem wc_loopK {elt : Expr} {gens : List Comprehension} {scope : Scope} {pos : Pos} {d : Nat} {acc : Value} {target : Expr} {ifs : List Expr} {p : Pos} {rest : Sem Fin} {I : Addr} {o : Obj} {ok : Led → Prop} {n : Nat} {It : Nat → Obj → Prop} {P : Nat → Value → Prop} {J : Nat → Rho → Led → Prop} {R : Rho → Led → Prop}
    (ht : compTurn (.ListComp elt gens scope pos) d (.ref I) acc env = turnOfK target ifs p rest (.ref I) env (.compLoop (.ListComp elt gens scope pos) d (.ref I) acc env))
    (Pr : Proto w A h₀ env ok n It P) (hI0 : It 0 o) (hJ0 : J 0 ρ σ) (hok : ∀ i ρ σ, J i ρ σ → ok σ)
    (turn : ∀ i v o ρ σ, i < n → P i v → It (i + 1) o → J i ρ σ → W w A h₀ env ρ ((I, o) :: σ) (letOwnedTupleGo target (.ref I) v) fun _ ρ0 σ0 => W w A h₀ env ρ0 σ0 (PySem.assign target env v) fun _ ρ1 σ1 => W w A h₀ env ρ1 σ1 (tests ifs env) fun k ρ2 σ2 =>
      if k then W w A h₀ env ρ2 σ2 rest fun fin ρ3 σ3 => fin = .again (.compLoop (.ListComp elt gens scope pos) d (.ref I) acc env) ∧ ∃ σ', ((I, o) :: σ').Sublist σ3 ∧ J (i + 1) ρ3 σ' else ∃ σ', ((I, o) :: σ').Sublist σ2 ∧ J (i + 1) ρ2 σ')
    (done : ∀ ρ σ, J n ρ σ → R ρ σ) : WC w A h₀ env ρ ((I, o) :: σ) (.compLoop (.ListComp elt gens scope pos) d (.ref I) acc env) R := by
  refine wc_core (CJ n I It J) ht ?_ n (.mk (i := 0) (Nat.zero_le _) (.refl _) hI0 hJ0)
  intro k ρ₃ σ₃ H
  cases H with | mk hi hs₃ hI hJ =>
  rename_i i σ₄ o₄
  refine W.sub ?_ hs₃
  by_cases hin : i < n
  · refine Pr.item i I _ _ _ _ hin hI (hok i _ _ hJ) fun v o' pv hI' => ?_
    refine (turn i v o' _ _ hin pv hI' hJ).mono fun _ _ _ q => q.mono fun _ _ _ q => q.mono fun b _ _ q => ?_
    cases b with
    | false => exact CJ.go hin hI' q
    | true => exact W.mono q fun _ _ _ q => ⟨q.1, CJ.go hin hI' q.2⟩
  · have e := Nat.le_antisymm hi (Nat.le_of_not_lt hin)
    subst e
    exact Pr.done I _ _ _ _ hI (hok _ _ _ hJ) (done _ _ hJ)
theorem wc_loop {elt : Expr} {gens : List Comprehension} {scope : Scope} {pos : Pos} {d : Nat} {acc : Value} {target : Expr} {ifs : List Expr} {p : Pos} {rest : Sem Unit} {I : Addr} {o : Obj} {ok : Led → Prop} {n : Nat} {It : Nat → Obj → Prop} {P : Nat → Value → Prop} {J : Nat → Rho → Led → Prop} {R : Rho → Led → Prop}
    (ht : compTurn (.ListComp elt gens scope pos) d (.ref I) acc env = turnOf target ifs p rest (.ref I) env (.compLoop (.ListComp elt gens scope pos) d (.ref I) acc env))
    (Pr : Proto w A h₀ env ok n It P) (hI0 : It 0 o) (hJ0 : J 0 ρ σ) (hok : ∀ i ρ σ, J i ρ σ → ok σ)
    (turn : ∀ i v o ρ σ, i < n → P i v → It (i + 1) o → J i ρ σ → W w A h₀ env ρ ((I, o) :: σ) (letOwnedTupleGo target (.ref I) v) fun _ ρ0 σ0 => W w A h₀ env ρ0 σ0 (PySem.assign target env v) fun _ ρ1 σ1 => W w A h₀ env ρ1 σ1 (tests ifs env) fun k ρ2 σ2 =>
      if k then W w A h₀ env ρ2 σ2 rest fun _ ρ3 σ3 => ∃ σ', ((I, o) :: σ').Sublist σ3 ∧ J (i + 1) ρ3 σ' else ∃ σ', ((I, o) :: σ').Sublist σ2 ∧ J (i + 1) ρ2 σ')
    (done : ∀ ρ σ, J n ρ σ → R ρ σ) : WC w A h₀ env ρ ((I, o) :: σ) (.compLoop (.ListComp elt gens scope pos) d (.ref I) acc env) R :=
  wc_loopK ht Pr hI0 hJ0 hok (fun i v o ρ σ hi pv hI hJ => (turn i v o ρ σ hi pv hI hJ).mono fun _ _ _ q => q.mono fun _ _ _ q => q.mono fun b _ _ q => by
    cases b with
    | false => exact q
    | true => exact W.bind (W.mono q fun _ _ _ q => W.done ⟨rfl, q⟩)) done
end
end Mine
end

section
open PySem PySem.W PyProof.Rows PySem.Calls
set_option maxRecDepth 100000
set_option maxHeartbeats 4000000
set_option linter.unusedVariables false
namespace Mine
section
variable {w : World} {A : Around} {h₀ h h' : Heap} {env : Env} {ρ : Rho} {σ : Led} {loose : List Str} {mean : ExcName → Option Value} {mg mb : Str → Option Value} {need : Nat}

noncomputable def ownCells (own : Option Str) (n : Nat) (cl : List (Str × Addr)) : List (Str × Addr) := match own with
  | none => cl
  | some x => (x, n) :: cl
noncomputable def ownPush (own : Option Str) (h : Heap) : Heap := match own with
  | none => h
  | some _ => h.push { cls := .type "cell", data := .cell none }
noncomputable def compEnvO (own : Option Str) (scope : Scope) (cl : List (Str × Addr)) (C : Addr) (env : Env) : Env := { compEnvC scope cl C env with cells := ownCells own (C + 1) cl }

noncomputable def inRho (own : Option Str) (scope : Scope) (env : Env) (ρ : Rho) : Rho := fun x => if (relabel scope env).names.lookup x = some .local ∨ own = some x then none else ρ x
theorem inRho_none {own : Option Str} {scope : Scope} {x : Str} (h : (relabel scope env).names.lookup x = some .local ∨ own = some x) : inRho own scope env ρ x = none := if_pos h
theorem inRho_old {own : Option Str} {scope : Scope} {x : Str} (h1 : (relabel scope env).names.lookup x ≠ some .local) (h2 : own ≠ some x) : inRho own scope env ρ x = ρ x := if_neg fun h => h.elim h1 h2
/-! a comprehension over an iterator of several objects -/
theorem comp_inL {s : Shared} {elt target iter : Expr} {ifs : List Expr} {gs : List Comprehension} {scope : Scope} {cl : List (Str × Addr)} {pos : Pos} {own : Option Str} {I : Addr} {ls : Led} {RF : List Value → Prop}
    (O : Ok w loose mean mg mb need A env h₀) (ht : 0 < s.toks) (F : FS h₀ env ρ (ls ++ σ) s.heap)
    (hcl : ∀ x c, cl.lookup x = some c → env.cells.lookup x = some c) (hclk : ∀ x c, cl.lookup x = some c → (relabel scope env).names.lookup x ≠ some .local)
    (hown : ∀ n, cellsFrom n scope.names cl = ownCells own n cl) (hpush : ∀ h, pushCells h scope.names = ownPush own h) (hownk : ∀ x, own = some x → (relabel scope env).names.lookup x ≠ some .local ∧ cl.lookup x = none) (hkind : scope.kind = .function)
    (inner : ∀ base C D oD ρc, Sees h₀ σ base → Ok w loose mean mg mb need A (compEnvO own scope cl C env) base → (∀ x c u, cl.lookup x = some c → ρ x = some u → ρc x = some u) → base.get? (C + 1) = none → LObj oD [] →
      (∀ Q : Value → Rho → Led → Prop, Q (.ref I) ρc (ls ++ [(D, oD)]) → W w A base (compEnvO own scope cl C env) ρc (ls ++ [(D, oD)]) (pyIter (.ref I)) Q) ∧
      WC w A base (compEnvO own scope cl C env) ρc (ls ++ [(D, oD)]) (.compLoop (.ListComp elt (⟨target, iter, ifs, 0⟩ :: gs) scope pos) 0 (.ref I) (.ref D) (compEnvO own scope cl C env)) (fun ρ' σ' => ∃ o rs, (D, o) ∈ σ' ∧ LObj o rs ∧ RF rs))
    {RR : Value → Addr → Result → Shared → Prop}
    (hRR : ∀ D C o oC rs h' tk, LObj o rs → RF rs → 0 < tk → FS h₀ env ρ ((C, oC) :: (D, o) :: σ) h' → (∃ m, h'.Ns C m) → RR (.ref D) C (.ok .next) { s with heap := h', toks := tk }) :
    wpAny (model PP w) A (newList []) (fun acc s₃ => wpAny (model PP w) A (newFunctionEnv scope env.globals cl [] env.qual none .none (some env)) (fun cenv s₄ =>
      codeAny (model PP w) A (.compStart (.ListComp elt (⟨target, iter, ifs, 0⟩ :: gs) scope pos) 0 (.ref I) acc { cenv with scope := relabel scope env }) (RR acc cenv.locals) s₄) (fun _ _ => False) s₃) (fun _ _ => False) s := by
  have fresh : ∀ (h : Heap) n, h.objs.size ≤ n → h.get? n = none := fun h n hn => by
    cases e : h.get? n with
    | none => rfl
    | some o => exact absurd (Heap.lt_size e) (Nat.not_lt.mpr hn)
  refine wpAny_newObj_type ?_
  simp only [newFunctionEnv, Option.isSome_some, if_true]
  refine wpAny_bind (wpAny_alloc ?_)
  refine wpAny_bind (wpAny_layCells _ (fun name kind cells => by cases hkc : kind == NameKind.cell <;> simp [hkc]) _ _ _ _ ?_)
  refine wpAny_bind (wpAny_pure (wpAny_pure ?_))
  dsimp only
  rw [hpush, hown]
  have szC : (s.heap.push { cls := .type "list", dict := none, data := .seq ([] : List Value).toArray }).objs.size = s.heap.objs.size + 1 := Heap.size_push ..
  generalize hH2 : s.heap.push { cls := .type "list", dict := none, data := .seq ([] : List Value).toArray } = H2 at szC ⊢
  have szX : (H2.push { cls := .type "dict", data := .dict #[] }).objs.size = H2.objs.size + 1 := Heap.size_push ..
  rw [szX]
  have gD : H2.get? s.heap.objs.size = some { cls := .type "list", dict := none, data := .seq ([] : List Value).toArray } := by rw [← hH2]; exact Heap.get?_push_size _ rfl
  have k2 : ∀ b o, s.heap.get? b = some o → H2.get? b = some o := fun b o e => by rw [← hH2]; exact Heap.get?_push_of_some _ e
  have nsC := Heap.Ns.new H2 (.type "dict")
  have k3 : ∀ b o, H2.get? b = some o → (H2.push { cls := .type "dict", data := .dict #[] }).get? b = some o := fun b o e => Heap.get?_push_of_some _ e
  generalize H2.push { cls := .type "dict", data := .dict #[] } = H3 at szX nsC k3 ⊢
  have k4 : ∀ b o, H3.get? b = some o → (ownPush own H3).get? b = some o := fun b o e => by
    unfold ownPush
    split
    · exact e
    · exact Heap.get?_push_of_some _ e
  have gX : ∀ x, own = some x → (ownPush own H3).IsCell (H2.objs.size + 1) none := fun x hx => by
    subst hx
    rw [← szX]
    exact ⟨_, Heap.get?_push_size _ rfl, rfl⟩
  generalize ownPush own H3 = G at k4 gX ⊢
  have kG : ∀ b o, s.heap.get? b = some o → G.get? b = some o := fun b o e => k4 b o (k3 b o (k2 b o e))
  have nd := F.nd
  rw [List.map_append] at nd
  obtain ⟨nd1, nd2, nd3⟩ := List.nodup_append.mp nd
  have fI : ∀ p ∈ ls, s.heap.get? p.1 = some p.2 ∧ h₀.get? p.1 = none ∧ p.1 ≠ env.locals ∧ ∀ x c, env.cells.lookup x = some c → p.1 ≠ c := fun p hp => F.led p (List.mem_append_left _ hp)
  have fA : ∀ a, a ∈ ls.map (·.1) → h₀.get? a = none ∧ a ≠ env.locals ∧ ∀ x c, env.cells.lookup x = some c → a ≠ c := fun a ha => by
    obtain ⟨p, hp, e⟩ := List.mem_map.mp ha
    subst e
    exact (fI p hp).2
  have bI : ∀ a, a ∈ ls.map (·.1) → (hides s.heap (ls.map (·.1))).get? a = none := fun a ha => hides_mem _ ha
  have bne : ∀ b, b ∉ ls.map (·.1) → (hides s.heap (ls.map (·.1))).get? b = s.heap.get? b := fun b hb => hides_ne _ hb
  have bfr : ∀ n, s.heap.objs.size ≤ n → (hides s.heap (ls.map (·.1))).get? n = none := fun n hn => fresh _ _ (by rw [hides_size]; exact hn)
  have bto : ∀ b o, (hides s.heap (ls.map (·.1))).get? b = some o → s.heap.get? b = some o := fun b o e => of_hides _ e
  generalize hides s.heap (ls.map (·.1)) = base at bI bne bfr bto
  have hsee : Sees h₀ σ base := by
    refine ⟨fun b o e => ?_, fun p hp => ?_⟩
    · rw [bne b fun z => by rw [(fA b z).1] at e; cases e]; exact F.keep b o e
    · rw [bne p.1 fun z => nd3 _ z _ (List.mem_map.mpr ⟨p, hp, rfl⟩) rfl]; exact F.get (List.mem_append_right _ hp)
  have hLs : ∃ o, s.heap.get? env.locals = some o := by obtain ⟨m, ⟨o, _, _, e, _⟩, _⟩ := F.ns; exact ⟨o, e⟩
  obtain ⟨oL, hoL⟩ := hLs
  have nsb : ∃ m, base.Ns env.locals m ∧ ∀ x, env.kindOf x = some .local → m x = ρ x := by
    obtain ⟨m, ⟨o, es, ep, e1, e2⟩, r⟩ := F.ns
    exact ⟨m, ⟨o, es, ep, by rw [bne _ fun z => (fA _ z).2.1 rfl]; exact e1, e2⟩, r⟩
  have cellb : ∀ x c, env.cells.lookup x = some c → base.IsCell c (ρ x) := fun x c hc => by
    obtain ⟨o, e1, e2⟩ := F.cell x c hc
    exact ⟨o, by rw [bne _ fun z => (fA _ z).2.2 x c hc rfl]; exact e1, e2⟩
  have z1 : s.heap.objs.size ≤ H2.objs.size := by lia
  have z2 : s.heap.objs.size < H2.objs.size := by lia
  have cold : ∀ x c, env.cells.lookup x = some c → c < s.heap.objs.size := fun x c hc => by
    obtain ⟨o, e1, e2⟩ := F.cell x c hc
    exact Heap.lt_size e1
  have Oin : Ok w loose mean mg mb need A (compEnvO own scope cl H2.objs.size env) base := by
    refine ⟨O.x.keeps hsee.1, O.t.keeps hsee.1, O.hh, fun g stg _ => O.bel g (fun b o e => stg b o (hsee.1 b o e)) ?_, O.dp, O.un, hkind, O.eg, O.eb⟩
    obtain ⟨m, n, _⟩ := nsb
    exact ⟨m, n.keeps stg⟩
  have ownlk : ∀ x c, (ownCells own (H2.objs.size + 1) cl).lookup x = some c → (own = some x ∧ c = H2.objs.size + 1) ∨ cl.lookup x = some c := fun x c hc => by
    unfold ownCells at hc
    split at hc
    · exact .inr hc
    · rename_i y
      by_cases e : x = y
      · subst e; left; simp at hc; exact ⟨rfl, hc.symm⟩
      · right; have : (x == y) = false := by simpa using e
        rw [List.lookup_cons, this] at hc; exact hc
  have Fin : FS base (compEnvO own scope cl H2.objs.size env) (inRho own scope env ρ) (ls ++ [(s.heap.objs.size, { cls := .type "list", dict := none, data := .seq ([] : List Value).toArray })]) G := by
    refine ⟨fun b o e => kG b o (bto b o e), ⟨_, nsC.keeps k4, fun x hx => ?_⟩, fun x c hc => ?_, bfr H2.objs.size z1, fun hf => absurd rfl hf, fun x c hc => ?_, fun x y c h1 h2 => ?_, fun p hp => ?_, ?_⟩
    · exact (inRho_none (Or.inl hx)).symm
    · rcases ownlk x c hc with ⟨ho, rfl⟩ | hc'
      · rw [inRho_none (Or.inr ho)]; exact gX x ho
      · have hno : own ≠ some x := fun ho => by rw [(hownk x ho).2] at hc'; cases hc'
        rw [inRho_old (hclk x c hc') hno]
        exact (F.cell x c (hcl x c hc')).keeps kG
    · show c ≠ H2.objs.size
      rcases ownlk x c hc with ⟨ho, rfl⟩ | hc'
      · exact Nat.succ_ne_self _
      · exact Nat.ne_of_lt (Nat.lt_of_lt_of_le (cold x c (hcl x c hc')) z1)
    · rcases ownlk x c h1 with ⟨ho, e⟩ | h1'
      · rcases ownlk y c h2 with ⟨ho', e'⟩ | h2'
        · rw [ho] at ho'; cases ho'; rfl
        · exact absurd e (Nat.ne_of_lt (Nat.lt_succ_of_lt (Nat.lt_of_lt_of_le (cold y c (hcl y c h2')) z1)))
      · rcases ownlk y c h2 with ⟨ho', e'⟩ | h2'
        · exact absurd e' (Nat.ne_of_lt (Nat.lt_succ_of_lt (Nat.lt_of_lt_of_le (cold x c (hcl x c h1')) z1)))
        · exact F.cnd x y c (hcl _ _ h1') (hcl _ _ h2')
    · rcases List.mem_append.mp hp with hp | hp
      · have hlt : p.1 < s.heap.objs.size := Heap.lt_size (fI p hp).1
        refine ⟨kG _ _ (fI p hp).1, bI _ (List.mem_map.mpr ⟨p, hp, rfl⟩), ?_, fun x c hc e => ?_⟩
        · exact Nat.ne_of_lt (Nat.lt_trans hlt z2)
        · rcases ownlk x c hc with ⟨ho, rfl⟩ | hc'
          · exact absurd e (Nat.ne_of_lt (Nat.lt_succ_of_lt (Nat.lt_trans hlt z2)))
          · exact (fI p hp).2.2.2 x c (hcl x c hc') e
      · rw [List.mem_singleton.mp hp]
        refine ⟨k4 _ _ (k3 _ _ gD), bfr _ (Nat.le_refl _), ?_, fun x c hc e => ?_⟩
        · exact Nat.ne_of_lt z2
        · have e : s.heap.objs.size = c := e
          rcases ownlk x c hc with ⟨ho, rfl⟩ | hc'
          · exact absurd e (Nat.ne_of_lt (Nat.lt_succ_of_lt z2))
          · exact absurd e.symm (Nat.ne_of_lt (cold x c (hcl x c hc')))
    · rw [List.map_append]
      refine List.nodup_append.mpr ⟨nd1, by simp, fun a ha b hb e => ?_⟩
      obtain ⟨p, hp, e'⟩ := List.mem_map.mp ha
      have hlt : p.1 < s.heap.objs.size := Heap.lt_size (fI p hp).1
      simp only [List.map_cons, List.map_nil, List.mem_singleton] at hb
      rw [e', e, hb] at hlt
      exact absurd hlt (Nat.lt_irrefl _)
  obtain ⟨hself, hloop⟩ := inner base H2.objs.size s.heap.objs.size _ _ hsee Oin (fun x c u hc hu => by
    have hno : own ≠ some x := fun ho => by rw [(hownk x ho).2] at hc; cases hc
    exact (inRho_old (hclk x c hc) hno).trans hu) (bfr _ (Nat.le_succ_of_le z1)) ⟨0, rfl⟩
  have fin : ∀ g tk, 0 < tk → FS base (compEnvO own scope cl H2.objs.size env) (inRho own scope env ρ) (ls ++ [(s.heap.objs.size, { cls := .type "list", dict := none, data := .seq ([] : List Value).toArray })]) g →
      codeAny (model PP w) A (.compLoop (.ListComp elt (⟨target, iter, ifs, 0⟩ :: gs) scope pos) 0 (.ref I) (.ref s.heap.objs.size) (compEnvO own scope cl H2.objs.size env)) (RR (.ref s.heap.objs.size) H2.objs.size) { s with heap := g, toks := tk } := by
    intro g tk htk Fg
    refine codeAny_mono (hloop { s with heap := g, toks := tk } htk Fg) fun r s' q => ?_
    cases q with | mk htk' G' q =>
    rename_i ρ' σ' h' tk'
    obtain ⟨o, rs, hm, hl, hr⟩ := q
    have LD := G'.led _ hm
    obtain ⟨mC, ⟨oC, es, ep, c1, c2⟩, _⟩ := G'.ns
    have c1 : h'.get? H2.objs.size = some oC := c1
    have bC := G'.off
    have bC : base.get? H2.objs.size = none := bC
    refine hRR _ _ o oC rs h' tk' hl hr htk' ?_ ⟨mC, oC, es, ep, c1, c2⟩
    have apart : ∀ a, base.get? a = none → h₀.get? a = none ∧ a ≠ env.locals ∧ (∀ x c, env.cells.lookup x = some c → a ≠ c) ∧ a ∉ σ.map (·.1) := fun a ha => by
      refine ⟨?_, fun e => ?_, fun x c hc e => ?_, fun hm' => ?_⟩
      · cases e : h₀.get? a with
        | none => rfl
        | some o => have := hsee.1 _ _ e; rw [ha] at this; cases this
      · obtain ⟨m, ⟨o', _, _, e1, _⟩, _⟩ := nsb
        rw [← e, ha] at e1; cases e1
      · obtain ⟨o', e1, _⟩ := cellb x c hc
        rw [← e, ha] at e1; cases e1
      · obtain ⟨p, hp, e⟩ := List.mem_map.mp hm'
        have := hsee.2 p hp
        rw [show p.1 = a from e, ha] at this; cases this
    have aC := apart _ bC
    have aD := apart _ LD.2.1
    refine ⟨fun b o e => G'.keep b o (hsee.1 b o e), ?_, fun x c hc => (cellb x c hc).keeps G'.keep, F.off, F.coff, F.cne, F.cnd, fun p hp => ?_, ?_⟩
    · obtain ⟨m, n, r⟩ := nsb
      exact ⟨m, n.keeps G'.keep, r⟩
    · rcases List.mem_cons.mp hp with rfl | hp
      · exact ⟨c1, aC.1, aC.2.1, aC.2.2.1⟩
      · rcases List.mem_cons.mp hp with rfl | hp
        · exact ⟨LD.1, aD.1, aD.2.1, aD.2.2.1⟩
        · exact ⟨G'.keep _ _ (hsee.2 p hp), (F.led p (List.mem_append_right _ hp)).2⟩
    · simp only [List.map_cons, List.nodup_cons, List.mem_cons, not_or]
      exact ⟨⟨Ne.symm LD.2.2.1, aC.2.2.2⟩, aD.2.2.2, nd2⟩
  refine codeAny_compStart_list (fin G s.toks ht Fin) ?_
  refine wpAny_mono (W.step (s := { s with heap := G, toks := s.toks }) (R := fun it' s' => codeAny (model PP w) A (.compLoop (.ListComp elt (⟨target, iter, ifs, 0⟩ :: gs) scope pos) 0 it' (.ref s.heap.objs.size) (compEnvO own scope cl H2.objs.size env)) (RR (.ref s.heap.objs.size) H2.objs.size) s')
    (hself (fun v ρ' σ' => v = .ref I ∧ ρ' = _ ∧ σ' = ls ++ [(s.heap.objs.size, _)]) ⟨rfl, rfl, rfl⟩) ht Fin ?_) (fun _ _ x => x) fun _ _ x => x.elim
  rintro _ _ _ h' tk htk _ F' ⟨rfl, rfl, rfl⟩
  exact fin h' tk htk F'
end
end Mine
end

section
open PySem PySem.W PyProof.Rows PySem.Calls
set_option maxRecDepth 100000
set_option maxHeartbeats 4000000
set_option linter.unusedVariables false
namespace Mine
section
variable {w : World} {A : Around} {h₀ h h' : Heap} {env : Env} {ρ : Rho} {σ : Led} {loose : List Str} {mean : ExcName → Option Value} {mg mb : Str → Option Value} {need : Nat}

/-! a frame frozen, all but its names -/
theorem FS.froz (F : FS h₀ env ρ σ h) (hf : env.func = none) : FS (h.hide env.locals) env ρ [] h :=
  ⟨fun b o e => Heap.of_hide e, F.ns, F.cell, Heap.hide_self _ _, fun h => absurd hf h, F.cne, F.cnd, fun p hp => (nomatch hp), List.nodup_nil⟩
theorem FS.thaw {ρ' : Rho} {σ' : Led} {g : Heap} (F : FS h₀ env ρ σ h) (G : FS (h.hide env.locals) env ρ' σ' g) : FS h₀ env ρ' σ g ∧ ∀ x c, env.cells.lookup x = some c → ρ' x = ρ x := by
  have st : ∀ b o, b ≠ env.locals → h.get? b = some o → g.get? b = some o := fun b o hb e => G.keep b o (by rw [Heap.hide_ne _ hb]; exact e)
  refine ⟨⟨fun b o e => st b o (fun z => ?_) (F.keep b o e), G.ns, G.cell, F.off, F.coff, F.cne, F.cnd, fun p hp => ⟨st _ _ (F.led p hp).2.2.1 (F.led p hp).1, (F.led p hp).2⟩, F.nd⟩, fun x c hc => ?_⟩
  · rw [z, F.off] at e; cases e
  · refine (F.cell x c hc).elim fun o e1 => (G.cell x c hc).elim fun o' e2 => ?_
    have e3 := st c o (F.cne x c hc) e1.1
    rw [e2.1] at e3
    cases e3
    have e4 := e1.2
    rw [e2.2] at e4
    injection e4
theorem Ok.keeps {h₁ : Heap} (O : Ok w loose mean mg mb need A env h₀) (st : h₀.StaysIn h₁) : Ok w loose mean mg mb need A env h₁ :=
  ⟨O.x.keeps st, O.t.keeps st, O.hh, fun g sg n => O.bel g (fun b o e => sg b o (st b o e)) n, O.dp, O.un, O.ek, O.eg, O.eb⟩
inductive CAt (base : Heap) (cenv : Env) (s : Shared) (I D : Addr) (n : Nat) (It : Nat → Obj → Prop) (R : Nat → List Value → Prop) (ρ₀ : Rho) : Nat → Shared → Prop
  | mk {i : Nat} {rs : List Value} {ρ : Rho} {o oD : Obj} {h' : Heap} {tk : Nat} : i ≤ n → 0 < tk → FS base cenv ρ [(I, o), (D, oD)] h' → (∀ x c, cenv.cells.lookup x = some c → ρ x = ρ₀ x) → It i o → LObj oD rs → rs.length ≤ i → R i rs → CAt base cenv s I D n It R ρ₀ (n - i) { s with heap := h', toks := tk }
inductive ItmR (P : Value → Prop) (It : Obj → Prop) (I : Addr) (ρ : Rho) (σ : Led) : Option Value → Rho → Led → Prop
  | mk {v : Value} {o : Obj} : P v → It o → ItmR P It I ρ σ (some v) ρ ((I, o) :: σ)
inductive IsR (I : Addr) (ρ : Rho) (σ : Led) : Option Value → Rho → Led → Prop
  | mk : IsR I ρ σ none ρ σ
noncomputable def CAq (w : World) (A : Around) (base : Heap) (cenv : Env) (s : Shared) (S : Nat → Shared → Prop) (k : Nat) (RR : Rho → Led → Prop) (target elt : Expr) (ifs : List Expr) (D : Addr) (r : Option Value) (s' : Shared) : Prop := match r with
  | none => CPost base cenv s.gens s.drawn s.os RR (.ok .next) s'
  | some v => wpAny (model PP w) A (assign target cenv v) (fun _ s' => wpAny (model PP w) A (tests ifs cenv) (fun ok s' =>
      if ok = true then wpAny (model PP w) A (eval elt cenv) (fun x s' => wpAny (model PP w) A (call (.builtin "list.append") [.ref D, x]) (fun _ s' => ∃ m, m < k ∧ S m s') (fun _ _ => False) s') (fun _ _ => False) s'
      else ∃ m, m < k ∧ S m s') (fun _ _ => False) s') (fun _ _ => False) s'
theorem comp_loop {n : Nat} {It : Nat → Obj → Prop} {P : Nat → Value → Prop} {R : Nat → List Value → Prop} {I D : Addr} {oi oD : Obj} {elt target iter : Expr} {ifs : List Expr} {scope : Scope} {pos : Pos} (hf : env.func = none) (Pr : Proto w A h₀ env (fun _ => True) n It P) (hI0 : It 0 oi) (hR0 : R 0 []) (hsz : n ≤ 1000000) (hD0 : LObj oD [])
    (hgo : ∀ I v, letOwnedTupleGo target (.ref I) v = pure ())
    (turn : ∀ h₁ ρc i v rs, h₀.StaysIn h₁ → (∀ x c, env.cells.lookup x = some c → ρc x = ρ x) → i < n → P i v → R i rs →
      W w A h₁ env ρc [] (assign target env v) fun _ ρ1 σ1 => W w A h₁ env ρ1 σ1 (tests ifs env) fun ok ρ2 σ2 => if ok then W w A h₁ env ρ2 σ2 (eval elt env) fun x _ _ => R (i + 1) (rs ++ [x]) else R (i + 1) rs) :
    WC w A h₀ env ρ [(I, oi), (D, oD)] (.compLoop (.ListComp elt [⟨target, iter, ifs, 0⟩] scope pos) 0 (.ref I) (.ref D) env) (fun ρ' σ' => ∃ o rs, (D, o) ∈ σ' ∧ LObj o rs ∧ R n rs) := fun s hts F => by
  refine codeAny_compLoop_tests (CAt h₀ env s I D n It R ρ) ?_ n (.mk (i := 0) (tk := s.toks) (Nat.zero_le _) hts F (fun _ _ _ => rfl) hI0 hD0 (Nat.le_refl _) hR0) (hgo I)
  intro k s' H
  cases H with | mk hi ht₁ F₁ hc hI hD hlen hR =>
  rename_i i rs ρ₁ o₁ oD₁ h₁ tk₁
  refine wpF (Q := CAq w A h₀ env s (CAt h₀ env s I D n It R ρ) (n - i) (fun ρ' σ' => ∃ o rs, (D, o) ∈ σ' ∧ LObj o rs ∧ R n rs) target elt ifs D) ?_ fun r s' q => ?_
  · by_cases hin : i < n
    · refine W.step (s := { s with heap := h₁, toks := tk₁ }) (Pr.item i I o₁ ρ₁ [(D, oD₁)] (ItmR (P i) (It (i + 1)) I ρ₁ [(D, oD₁)]) hin hI trivial fun _ _ pv hI' => .mk pv hI') ht₁ F₁ fun r ρ₂ σ₂ h₂ tk₂ ht₂ _ F₂ q => ?_
      cases q with | mk pv hI' =>
      rename_i v o₂
      have lt : n - (i + 1) < n - i := Nat.sub_lt_sub_left hin (Nat.lt_succ_self i)
      refine W.step (s := { s with heap := h₂, toks := tk₂ }) (turn (h₂.hide env.locals) ρ₁ i v rs (fun b o e => ?_) hc hin pv hR) ht₂ (F₂.froz hf) fun _ ρ₃ σ₃ h₃ tk₃ ht₃ _ F₃ q => W.step q ht₃ F₃ fun b ρ₄ σ₄ h₄ tk₄ ht₄ _ F₄ q => ?_
      · rw [Heap.hide_ne _ fun z => ?_]
        · exact F₂.keep b o e
        · rw [z, F₂.off] at e; cases e
      cases b with
      | false =>
        have Z := F₂.thaw F₄
        exact ⟨n - (i + 1), lt, .mk hin ht₄ Z.1 (fun x c e => (Z.2 x c e).trans (hc x c e)) hI' hD (Nat.le_succ_of_le hlen) q⟩
      | true =>
        refine W.step q ht₄ F₄ fun x ρ₅ σ₅ h₅ tk₅ ht₅ _ F₅ q => ?_
        have Z := F₂.thaw F₅
        refine W.step (s := { s with heap := h₅, toks := tk₅ }) (w_append (v := x) (f := fun o'' => [(I, o₂), (D, o'')]) (Q := fun _ ρ' σ' => ρ' = ρ₅ ∧ ∃ o'', σ' = [(I, o₂), (D, o'')] ∧ LObj o'' (rs ++ [x])) hD (Nat.le_trans hlen (Nat.le_trans hi hsz)) (fun o'' => .tail _ (.head _)) fun o'' hD'' => ⟨rfl, o'', rfl, hD''⟩) ht₅ Z.1 fun _ ρ₆ σ₆ h₆ tk₆ ht₆ _ F₆ q₆ => ?_
        refine q₆.2.elim fun o'' z => ?_
        have F₇ : FS h₀ env ρ₅ [(I, o₂), (D, o'')] h₆ := q₆.1 ▸ z.1 ▸ F₆
        exact ⟨n - (i + 1), lt, .mk hin ht₆ F₇ (fun x c e => (Z.2 x c e).trans (hc x c e)) hI' z.2 (by rw [List.length_append]; exact Nat.succ_le_succ hlen) q⟩
    · have e := Nat.le_antisymm hi (Nat.le_of_not_lt hin)
      subst e
      exact W.step (s := { s with heap := h₁, toks := tk₁ }) (Pr.done I o₁ ρ₁ [(D, oD₁)] (fun r ρ' σ' => r = none ∧ (D, oD₁) ∈ σ') hI trivial ⟨rfl, .head _⟩) ht₁ F₁ fun r ρ₂ σ₂ h₂ tk₂ ht₂ _ F₂ q => q.1 ▸ .mk ht₂ F₂ ⟨oD₁, rs, q.2, hD, hR⟩
  · cases r with
    | none => exact q
    | some v =>
      refine wpF q fun _ _ q => wpF q fun b _ q => ?_
      cases b with
      | false => exact q
      | true => exact wpF q fun _ _ q => wpF q fun _ _ q => q
theorem cf_none {cl : List (Str × Addr)} : ∀ (names : List (Str × NameKind)) (n : Nat), (∀ x ∈ names, x.2 ≠ .cell) → cellsFrom n names cl = cl := by
  intro names n h
  induction names with
  | nil => rfl
  | cons a r ih => exact (if_neg (fun e => h a (.head _) (eq_of_beq e))).trans (ih fun x hx => h x (.tail _ hx))
theorem pc_none : ∀ (names : List (Str × NameKind)) (h : Heap), (∀ x ∈ names, x.2 ≠ .cell) → pushCells h names = h := by
  intro names g h
  induction names with
  | nil => rfl
  | cons a r ih => exact (if_neg (fun e => h a (.head _) (eq_of_beq e))).trans (ih fun x hx => h x (.tail _ hx))
theorem compStart_of {s : Shared} {elt target iter : Expr} {ifs : List Expr} {scope : Scope} {cl : List (Str × Addr)} {pos : Pos} {Q : Value → Rho → Led → Prop} {it : Value}
    (O : Ok w loose mean mg mb need A env h₀) (ht : 0 < s.toks) (F : FS h₀ env ρ σ s.heap) (T : CompAt w loose mean mg mb need A h₀ env scope cl target elt ifs Q it ρ σ)
    (hcl : ∀ x c, cl.lookup x = some c → env.cells.lookup x = some c) (hclk : ∀ x c, cl.lookup x = some c → (relabel scope env).names.lookup x ≠ some .local)
    (hcell : ∀ x ∈ scope.names, x.2 ≠ .cell) (hkind : scope.kind = .function)
    {RR : Value → Addr → Result → Shared → Prop}
    (hRR : ∀ D C o oC h' tk σ₃, Q (.ref D) ρ ((D, o) :: σ₃) → 0 < tk → FS h₀ env ρ ((C, oC) :: (D, o) :: σ₃) h' → (∃ m, h'.Ns C m) → RR (.ref D) C (.ok .next) { s with heap := h', toks := tk })
    (hgo : ∀ I v, letOwnedTupleGo target (.ref I) v = pure ()) :
    wpAny (model PP w) A (newList []) (fun acc s₃ => wpAny (model PP w) A (newFunctionEnv scope env.globals cl [] env.qual none .none (some env)) (fun cenv s₄ =>
      codeAny (model PP w) A (.compStart (.ListComp elt [⟨target, iter, ifs, 0⟩] scope pos) 0 it acc { cenv with scope := relabel scope env }) (RR acc cenv.locals) s₄) (fun _ _ => False) s₃) (fun _ _ => False) s := by
  cases T with | mk n It P R I oi σ₃ e hsub hI0 hR0 hsz Pr turn fin =>
  subst e
  refine comp_inL (ls := [(I, oi)]) (own := none) (RF := R n) O ht (F.sublist hsub) hcl hclk (fun n => cf_none _ n hcell) (fun h => pc_none _ h hcell) (fun _ h => nomatch h) hkind (fun base C D oD ρc hs O' hc _ hD => ?_) fun D C o oC rs h' tk hl hr ht' F' hn => hRR D C o oC h' tk σ₃ (fin D o rs hl hr) ht' F' hn
  have Pr' := Pr base (compEnvO none scope cl C env) hs
  exact ⟨fun Q q => Pr'.self 0 I oi ρc _ Q hI0 q, comp_loop rfl Pr' hI0 hR0 hsz hD hgo fun h₁ ρ₁ i v rs st ag hin pv hR => turn h₁ C ρ₁ i v rs ⟨fun b o e => st b o (hs.1 b o e), fun p hp => st _ _ (hs.2 p hp)⟩ (O'.keeps st) (fun x c u hx hu => (ag x c hx).trans (hc x c u hx hu)) hin pv hR⟩

theorem w_listComp {elt target iter : Expr} {ifs : List Expr} {scope : Scope} {cl : List (Str × Addr)} {pos : Pos} {Q : Value → Rho → Led → Prop}
    (O : Ok w loose mean mg mb need A env h₀) (hclos : closureFor scope env = pure cl)
    (hcl : ∀ x c, cl.lookup x = some c → env.cells.lookup x = some c) (hclk : ∀ x c, cl.lookup x = some c → (relabel scope env).names.lookup x ≠ some .local)
    (hcell : ∀ x ∈ scope.names, x.2 ≠ .cell) (hkind : scope.kind = .function) (hnames : ∀ x ∈ scope.names, x.2 = .local → scope.names.lookup x.1 = some .local)
    (hs : ∀ x, foldedSetIterable iter env x = pure x) (hgo : ∀ I v, letOwnedTupleGo target (.ref I) v = pure ())
    (h : W w A h₀ env ρ σ (eval iter env) fun v ρ' σ' => W w A h₀ env ρ' σ' (pyIter v) fun it ρ'' σ'' => CompAt w loose mean mg mb need A h₀ env scope cl target elt ifs Q it ρ'' σ'') :
    W w A h₀ env ρ σ (eval (.ListComp elt [⟨target, iter, ifs, 0⟩] scope pos) env) Q := fun s ht F => by
  rw [eval_ListComp]
  refine wpAny_comprehension_free (use := none) rfl hs hclos hkind hnames (W.step h ht F fun v ρ' σ' h' tk htk _ F' q => W.step q htk F' fun it ρ₂ σ₂ h₂ tk₂ htk₂ _ F₂ T => ?_)
  refine wpAny_mono (compStart_of (s := { s with heap := h₂, toks := tk₂ }) (RR := fun acc C => compPost (model PP w) A (fun _ _ => False) none (Post h₀ env s Q) acc C) O htk₂ F₂ T hcl hclk hcell hkind ?_ hgo) (fun cenv s' q => wpAny_mono q (fun _ _ q => q) fun _ _ x => x.elim) fun _ _ x => x.elim
  intro D C o oC h₅ tk₅ σ₃ hQ ht₅ F₅ ⟨m, hm⟩
  refine ⟨m, hm, fun h₆ hs₆ => ?_⟩
  exact ⟨ρ₂, _, h₆, tk₅, rfl, F₅.gone hs₆.extBut, hQ⟩

theorem w_assignComp {elt target iter : Expr} {ifs : List Expr} {scope : Scope} {cl : List (Str × Addr)} {pos spos : Pos} {y : Str} {py : Pos} {Q : Flow → Rho → Led → Prop}
    (O : Ok w loose mean mg mb need A env h₀) (hsw : swapsWith (.ListComp elt [⟨target, iter, ifs, 0⟩] scope pos) (some (.Name y py)) spos.line env = pure true)
    (hclos : closureFor scope env = pure cl)
    (hcl : ∀ x c, cl.lookup x = some c → env.cells.lookup x = some c) (hclk : ∀ x c, cl.lookup x = some c → (relabel scope env).names.lookup x ≠ some .local)
    (hcell : ∀ x ∈ scope.names, x.2 ≠ .cell) (hkind : scope.kind = .function) (hnames : ∀ x ∈ scope.names, x.2 = .local → scope.names.lookup x.1 = some .local)
    (hs : ∀ x, foldedSetIterable iter env x = pure x) (hgo : ∀ I v, letOwnedTupleGo target (.ref I) v = pure ())
    (hy : env.kindOf y = some .local) (hyc : env.cells.lookup y = none) (hk : env.scope.kind = .function)
    (h : W w A h₀ env ρ σ (eval iter env) fun v ρ' σ' => W w A h₀ env ρ' σ' (pyIter v) fun it ρ'' σ'' => CompAt w loose mean mg mb need A h₀ env scope cl target elt ifs (fun v ρ σ => Q .next (upd ρ y v) σ) it ρ'' σ'') :
    W w A h₀ env ρ σ (exec (.Assign [.Name y py] (.ListComp elt [⟨target, iter, ifs, 0⟩] scope pos) spos) env) Q := fun s ht F => by
  rw [exec_Assign_Name_used _ _ _ _ hsw]
  refine wpAny_bind (wpAny_standAt (wpAny_bind ?_))
  show wpAny _ A (do let _ ← comprehension (.ListComp elt [⟨target, iter, ifs, 0⟩] scope pos) scope env _ (newList []) false (eval iter env) (some (PySem.assign (.Name y py) env))) _ _ s
  refine wpAny_bind (wpAny_mono (wpAny_comprehension_free (use := some (PySem.assign (.Name y py) env)) (Q := fun _ s' => Post h₀ env s Q .next s') rfl hs hclos hkind hnames
    (W.step h ht F fun v ρ' σ' h' tk htk _ F' q => W.step q htk F' fun it ρ₂ σ₂ h₂ tk₂ htk₂ _ F₂ T => ?_)) (fun _ s' hq => wpAny_pure (wpAny_pure hq)) fun _ _ e => e)
  refine wpAny_mono (compStart_of (s := { s with heap := h₂, toks := tk₂ }) (RR := fun acc C => compPost (model PP w) A (fun _ _ => False) (some (PySem.assign (.Name y py) env)) (fun _ s' => Post h₀ env s Q .next s') acc C) O htk₂ F₂ T hcl hclk hcell hkind ?_ hgo) (fun cenv s' q => wpAny_mono q (fun _ _ q => q) fun _ _ x => x.elim) fun _ _ x => x.elim
  intro D C o oC h₅ tk₅ σ₃ hQ ht₅ F₅ ⟨m, hm⟩
  refine W.step (s := { s with heap := h₅, toks := tk₅ }) (Q₁ := fun _ ρ' σ' => ρ' = upd ρ₂ y (.ref D) ∧ σ' = (C, oC) :: (D, o) :: σ₃) (fun s' ht' F' => wpAny_assign_Name (W.store (A := A) (Q := fun _ ρ' σ' => ρ' = upd ρ₂ y (.ref D) ∧ σ' = (C, oC) :: (D, o) :: σ₃) ⟨rfl, rfl⟩ hy hyc hk s' ht' F')) ht₅ F₅ ?_
  rintro _ _ _ h₆ tk₆ ht₆ _ F₆ ⟨rfl, rfl⟩
  refine ⟨m, ?_, fun h₇ hs₇ => ?_⟩
  · obtain ⟨ob, es, ep, e1, e2⟩ := hm
    have e5 := F₅.get (.head _)
    rw [e5] at e1; cases e1
    exact ⟨oC, es, ep, F₆.get (.head _), e2⟩
  · exact ⟨_, _, h₇, tk₆, rfl, F₆.gone hs₇.extBut, hQ⟩
end
end Mine
end

section
open PySem PySem.W PyProof.Rows PySem.Calls
set_option maxRecDepth 100000
set_option maxHeartbeats 4000000
set_option linter.unusedVariables false
namespace Mine
section
variable {w : World} {A : Around} {h₀ h h' : Heap} {env : Env} {ρ : Rho} {σ : Led} {loose : List Str} {mean : ExcName → Option Value} {mg mb : Str → Option Value} {need : Nat}

noncomputable def restOf (elt : Expr) (acc : Value) (env : Env) : Sem Unit := do let _ ← PySem.call (.builtin "list.append") [acc, ← PySem.eval elt env]

/-- what one comprehension's inner walk must bring -/
noncomputable def InnerAt (w : World) (loose : List Str) (mean : ExcName → Option Value) (mg mb : Str → Option Value) (need : Nat) (A : Around) (h₀ : Heap) (env : Env) (own : Option Str) (scope : Scope) (cl : List (Str × Addr)) (elt target iter : Expr) (ifs : List Expr) (gs : List Comprehension) (pos : Pos) (ρ : Rho) (σ : Led) (I : Addr) (oi : Obj) (RF : List Value → Prop) : Prop :=
  ∀ base C D oD ρc, Sees h₀ σ base → Ok w loose mean mg mb need A (compEnvO own scope cl C env) base → (∀ x c u, cl.lookup x = some c → ρ x = some u → ρc x = some u) → base.get? (C + 1) = none → LObj oD [] →
      (∀ Q : Value → Rho → Led → Prop, Q (.ref I) ρc [(I, oi), (D, oD)] → W w A base (compEnvO own scope cl C env) ρc [(I, oi), (D, oD)] (pyIter (.ref I)) Q) ∧
      WC w A base (compEnvO own scope cl C env) ρc [(I, oi), (D, oD)] (.compLoop (.ListComp elt (⟨target, iter, ifs, 0⟩ :: gs) scope pos) 0 (.ref I) (.ref D) (compEnvO own scope cl C env)) (fun ρ' σ' => ∃ o rs, (D, o) ∈ σ' ∧ LObj o rs ∧ RF rs)

inductive CompXAt (w : World) (loose : List Str) (mean : ExcName → Option Value) (mg mb : Str → Option Value) (need : Nat) (A : Around) (h₀ : Heap) (env : Env) (own : Option Str) (scope : Scope) (cl : List (Str × Addr)) (elt target iter : Expr) (ifs : List Expr) (gs : List Comprehension) (pos : Pos) (Q : Value → Rho → Led → Prop) (it : Value) (ρ : Rho) (σ : Led) : Prop
  | mk (I : _) (oi : _) (σ₃ : _) (RF : _) (y1 : it = .ref I) (y2 : ((I, oi) :: σ₃).Sublist σ) (y3 : InnerAt w loose mean mg mb need A h₀ env own scope cl elt target iter ifs gs pos ρ σ₃ I oi RF) (y4 : ∀ D o rs, LObj o rs → RF rs → Q (.ref D) ρ ((D, o) :: σ₃)) : CompXAt w loose mean mg mb need A h₀ env own scope cl elt target iter ifs gs pos Q it ρ σ

theorem w_listCompX {own : Option Str} {elt target iter : Expr} {ifs : List Expr} {gs : List Comprehension} {scope : Scope} {cl : List (Str × Addr)} {pos : Pos} {Q : Value → Rho → Led → Prop}
    (O : Ok w loose mean mg mb need A env h₀) (hclos : closureFor scope env = pure cl)
    (hcl : ∀ x c, cl.lookup x = some c → env.cells.lookup x = some c) (hclk : ∀ x c, cl.lookup x = some c → (relabel scope env).names.lookup x ≠ some .local)
    (hown : ∀ n, cellsFrom n scope.names cl = ownCells own n cl) (hpush : ∀ h, pushCells h scope.names = ownPush own h) (hownk : ∀ x, own = some x → (relabel scope env).names.lookup x ≠ some .local ∧ cl.lookup x = none)
    (hkind : scope.kind = .function) (hnames : ∀ x ∈ scope.names, x.2 = .local → scope.names.lookup x.1 = some .local)
    (hs : ∀ x, foldedSetIterable iter env x = pure x)
    (h : W w A h₀ env ρ σ (eval iter env) fun v ρ' σ' => W w A h₀ env ρ' σ' (pyIter v) fun it ρ'' σ'' => CompXAt w loose mean mg mb need A h₀ env own scope cl elt target iter ifs gs pos Q it ρ'' σ'') :
    W w A h₀ env ρ σ (eval (.ListComp elt (⟨target, iter, ifs, 0⟩ :: gs) scope pos) env) Q := fun s ht F => by
  rw [eval_ListComp]
  refine wpAny_comprehension_free (use := none) rfl hs hclos hkind hnames (W.step h ht F fun v ρ' σ' h' tk htk _ F' q => W.step q htk F' fun it ρ₂ σ₂ h₂ tk₂ htk₂ _ F₂ qq8 => ?_)
  obtain ⟨I, oi, σ₃, RF, e, hsub, hin, hfin⟩ := qq8
  subst e
  refine wpAny_mono (comp_inL (ls := [(I, oi)]) (s := { s with heap := h₂, toks := tk₂ }) (RR := fun acc C => compPost (model PP w) A (fun _ _ => False) none (Post h₀ env s Q) acc C) O htk₂ (F₂.sublist hsub) hcl hclk hown hpush hownk hkind hin ?_) (fun cenv s' q => wpAny_mono q (fun _ _ q => q) fun _ _ x => x.elim) fun _ _ x => x.elim
  intro D C o oC rs h₅ tk₅ hD hR ht₅ F₅ ⟨m, hm⟩
  refine ⟨m, hm, fun h₆ hs₆ => ?_⟩
  exact ⟨ρ₂, _, h₆, tk₅, rfl, F₅.gone hs₆.extBut, hfin D o rs hD hR⟩

theorem w_assignCompX {own : Option Str} {elt target iter : Expr} {ifs : List Expr} {gs : List Comprehension} {scope : Scope} {cl : List (Str × Addr)} {pos spos : Pos} {y : Str} {py : Pos} {Q : Flow → Rho → Led → Prop}
    (O : Ok w loose mean mg mb need A env h₀) (hsw : swapsWith (.ListComp elt (⟨target, iter, ifs, 0⟩ :: gs) scope pos) (some (.Name y py)) spos.line env = pure true) (hclos : closureFor scope env = pure cl)
    (hcl : ∀ x c, cl.lookup x = some c → env.cells.lookup x = some c) (hclk : ∀ x c, cl.lookup x = some c → (relabel scope env).names.lookup x ≠ some .local)
    (hown : ∀ n, cellsFrom n scope.names cl = ownCells own n cl) (hpush : ∀ h, pushCells h scope.names = ownPush own h) (hownk : ∀ x, own = some x → (relabel scope env).names.lookup x ≠ some .local ∧ cl.lookup x = none)
    (hkind : scope.kind = .function) (hnames : ∀ x ∈ scope.names, x.2 = .local → scope.names.lookup x.1 = some .local)
    (hs : ∀ x, foldedSetIterable iter env x = pure x)
    (hy : env.kindOf y = some .local) (hyc : env.cells.lookup y = none) (hk : env.scope.kind = .function)
    (h : W w A h₀ env ρ σ (eval iter env) fun v ρ' σ' => W w A h₀ env ρ' σ' (pyIter v) fun it ρ'' σ'' => CompXAt w loose mean mg mb need A h₀ env own scope cl elt target iter ifs gs pos (fun v ρ σ => Q .next (upd ρ y v) σ) it ρ'' σ'') :
    W w A h₀ env ρ σ (exec (.Assign [.Name y py] (.ListComp elt (⟨target, iter, ifs, 0⟩ :: gs) scope pos) spos) env) Q := fun s ht F => by
  rw [exec_Assign_Name_used _ _ _ _ hsw]
  refine wpAny_bind (wpAny_standAt (wpAny_bind ?_))
  show wpAny _ A (do let _ ← comprehension (.ListComp elt (⟨target, iter, ifs, 0⟩ :: gs) scope pos) scope env _ (newList []) false (eval iter env) (some (PySem.assign (.Name y py) env))) _ _ s
  refine wpAny_bind (wpAny_mono (wpAny_comprehension_free (use := some (PySem.assign (.Name y py) env)) (Q := fun _ s' => Post h₀ env s Q .next s') rfl hs hclos hkind hnames
    (W.step h ht F fun v ρ' σ' h' tk htk _ F' q => W.step q htk F' fun it ρ₂ σ₂ h₂ tk₂ htk₂ _ F₂ qq => ?_)) (fun _ s' hq => wpAny_pure (wpAny_pure hq)) fun _ _ e => e)
  obtain ⟨I, oi, σ₃, RF, e, hsub, hin, hfin⟩ := qq
  subst e
  refine wpAny_mono (comp_inL (ls := [(I, oi)]) (s := { s with heap := h₂, toks := tk₂ }) (RR := fun acc C => compPost (model PP w) A (fun _ _ => False) (some (PySem.assign (.Name y py) env)) (fun _ s' => Post h₀ env s Q .next s') acc C) O htk₂ (F₂.sublist hsub) hcl hclk hown hpush hownk hkind hin ?_) (fun cenv s' q => wpAny_mono q (fun _ _ q => q) fun _ _ x => x.elim) fun _ _ x => x.elim
  intro D C o oC rs h₅ tk₅ hD hR ht₅ F₅ ⟨m, hm⟩
  refine W.step (s := { s with heap := h₅, toks := tk₅ }) (Q₁ := fun _ ρ' σ' => ρ' = upd ρ₂ y (.ref D) ∧ σ' = (C, oC) :: (D, o) :: σ₃) (fun s' ht' F' => wpAny_assign_Name (W.store (A := A) (Q := fun _ ρ' σ' => ρ' = upd ρ₂ y (.ref D) ∧ σ' = (C, oC) :: (D, o) :: σ₃) ⟨rfl, rfl⟩ hy hyc hk s' ht' F')) ht₅ F₅ ?_
  rintro _ _ _ h₆ tk₆ ht₆ _ F₆ ⟨rfl, rfl⟩
  refine ⟨m, ?_, fun h₇ hs₇ => ?_⟩
  · obtain ⟨ob, es, ep, e1, e2⟩ := hm
    have e5 := F₅.get (.head _)
    rw [e5] at e1; cases e1
    exact ⟨oC, es, ep, F₆.get (.head _), e2⟩
  · exact ⟨_, _, h₇, tk₆, rfl, F₆.gone hs₇.extBut, hfin D o rs hD hR⟩

/-- the innermost clause -/
theorem wc_one {α : Type} {xs : List α} {U V : α → Value → Prop} {pt : α → Bool} {elt : Expr} {gens : List Comprehension} {scope : Scope} {pos : Pos} {d : Nat} {D : Addr} {oD : Obj} {rs₀ : List Value} {target : Expr} {ifs : List Expr} {p : Pos} {I : Addr} {o : Obj} {ok : Led → Prop} {n : Nat} {It : Nat → Obj → Prop} {P : Nat → Value → Prop} (N : Rho → Prop)
    (ht : compTurn (.ListComp elt gens scope pos) d (.ref I) (.ref D) env = turnOf target ifs p (restOf elt (.ref D) env) (.ref I) env (.compLoop (.ListComp elt gens scope pos) d (.ref I) (.ref D) env))
    (hgo : ∀ v, letOwnedTupleGo target (.ref I) v = pure ())
    (Pr : Proto w A h₀ env ok n It P) (hn : n = xs.length) (hsz : rs₀.length + n ≤ 1000000) (hI0 : It 0 o) (hok : ∀ σ', (∀ p ∈ σ, p ∈ σ') → ok σ') (hP : ∀ i v, P i v → ∃ x, xs[i]? = some x ∧ U x v) (hN : N ρ) (hD : LObj oD rs₀)
    (turn : ∀ x v σ' ρ', (∀ p ∈ σ, p ∈ σ') → x ∈ xs → U x v → N ρ' → W w A h₀ env ρ' σ' (PySem.assign target env v) fun _ ρ1 σ1 => W w A h₀ env ρ1 σ1 (tests ifs env) fun k ρ2 σ2 =>
      k = pt x ∧ (pt x = false → N ρ2 ∧ σ'.Sublist σ2) ∧ (pt x = true → W w A h₀ env ρ2 σ2 (PySem.eval elt env) fun y ρ3 σ3 => V x y ∧ N ρ3 ∧ σ'.Sublist σ3)) :
    WC w A h₀ env ρ ((I, o) :: (D, oD) :: σ) (.compLoop (.ListComp elt gens scope pos) d (.ref I) (.ref D) env) (fun ρ' σ' => N ρ' ∧ ∃ oD' rs, σ' = (D, oD') :: σ ∧ LObj oD' (rs₀ ++ rs) ∧ Al V (xs.filter pt) rs) := by
  refine wc_loop (J := fun i ρ' σ' => N ρ' ∧ ∃ oD' rs, σ' = (D, oD') :: σ ∧ LObj oD' (rs₀ ++ rs) ∧ rs.length ≤ i ∧ Al V ((xs.take i).filter pt) rs) ht Pr hI0 ⟨hN, oD, [], rfl, by simpa using hD, Nat.le_refl _, by simpa using Al.nil⟩ (fun i ρ' σ' q => by
    obtain ⟨_, oD', rs, e, _⟩ := q
    subst e; exact hok _ fun p hp => .tail _ hp) ?_ ?_
  · rintro i v o' ρ' σ' hi pv hI' ⟨hN', oD', rs, rfl, hD', hlen, hr⟩
    obtain ⟨x, hx, ux⟩ := hP i v pv
    have e : (xs.take (i + 1)).filter pt = (xs.take i).filter pt ++ (if pt x then [x] else []) := by
      rw [List.take_add_one, hx, List.filter_append]
      cases hp : pt x <;> simp [hp]
    rw [hgo]
    refine W.done ((turn x v _ ρ' (fun p hp => .tail _ (.tail _ hp)) (List.mem_of_getElem? hx) ux hN').mono fun _ ρ1 σ1 q => q.mono fun k ρ2 σ2 qq3 => ?_)
    obtain ⟨hk, qf, qt⟩ := qq3
    subst hk
    cases hp : pt x with
    | false =>
      obtain ⟨hN2, hs2⟩ := qf hp
      exact ite_f (by decide) ⟨_, hs2, hN2, oD', rs, rfl, hD', Nat.le_succ_of_le hlen, by rw [e, hp]; simpa using hr⟩
    | true =>
      refine ite_t rfl (W.bind ((qt hp).mono fun y ρ3 σ3 qq => W.bind (W.sub (w_append (vs := rs₀ ++ rs) (f := fun o'' => (I, o') :: (D, o'') :: σ) hD' (by simp; lia) (fun o'' => .tail _ (.head _)) fun o'' hD'' => W.done ?_) qq.2.2)))
      exact ⟨_, List.Sublist.refl _, qq.2.1, o'', rs ++ [y], rfl, by rw [← List.append_assoc]; exact hD'', by simp; omega, by rw [e, hp]; exact hr.snoc qq.1⟩
  · rintro ρ' σ' ⟨hN', oD', rs, rfl, hD', hlen, hr⟩
    rw [hn, List.take_length] at hr
    exact ⟨hN', oD', rs, rfl, hD', hr⟩
theorem ownk_of {names : List (Str × NameKind)} {cl : List (Str × Addr)} {y : Str} (h : (names.lookup y != some .local) = true) (h' : cl.lookup y = none) : ∀ x, some y = some x → names.lookup x ≠ some .local ∧ cl.lookup x = none := fun x e => by
  cases e
  exact ⟨by simpa using h, h'⟩
theorem hcl1 {cs : List (Str × Addr)} {y : Str} {d : Addr} (h : cs.lookup y = some d) : ∀ x c, [(y, d)].lookup x = some c → cs.lookup x = some c := fun x c e => by
  by_cases q : x = y
  · subst q; simp at e; rw [← e]; exact h
  · have : (x == y) = false := by simpa using q
    rw [List.lookup_cons, this] at e; cases e
theorem hcl_cons {cs cl : List (Str × Addr)} {y : Str} {d : Addr} (h : cs.lookup y = some d) (r : ∀ x c, cl.lookup x = some c → cs.lookup x = some c) : ∀ x c, ((y, d) :: cl).lookup x = some c → cs.lookup x = some c := fun x c e => by
  by_cases q : x = y
  · subst q; simp at e; rw [← e]; exact h
  · have : (x == y) = false := by simpa using q
    rw [List.lookup_cons, this] at e; exact r x c e
theorem hcl_nil {cs : List (Str × Addr)} : ∀ x c, ([] : List (Str × Addr)).lookup x = some c → cs.lookup x = some c := fun _ _ e => nomatch e
theorem own_none {names : List (Str × NameKind)} {cl : List (Str × Addr)} : ∀ x, (none : Option Str) = some x → names.lookup x ≠ some .local ∧ cl.lookup x = none := fun x e => nomatch e

theorem w_compXL {α : Type} {xs : List α} {U V : α → Value → Prop} {vs : List Value} {a : Addr} {o : Obj} (pt : α → Bool) (N : Rho → Prop) {own : Option Str} {scope : Scope} {cl : List (Str × Addr)} {target iter elt : Expr} {ifs : List Expr} {pos : Pos} {Q : Value → Rho → Led → Prop}
    (hh : A.handled = none) (hk : Kn h₀ σ a o) (hl : LObj o vs) (hx : Al U xs vs) (hsz : xs.length ≤ 1000000) (hgo : ∀ I v, letOwnedTupleGo target (.ref I) v = pure ())
    (hN : ∀ ρc : Rho, (∀ x c u, cl.lookup x = some c → ρ x = some u → ρc x = some u) → N ρc)
    (turn : ∀ base C x v σ' ρ', Sees h₀ σ base → Ok w loose mean mg mb need A (compEnvO own scope cl C env) base → base.get? (C + 1) = none → x ∈ xs → U x v → N ρ' →
      W w A base (compEnvO own scope cl C env) ρ' σ' (PySem.assign target (compEnvO own scope cl C env) v) fun _ ρ1 σ1 => W w A base (compEnvO own scope cl C env) ρ1 σ1 (tests ifs (compEnvO own scope cl C env)) fun k ρ2 σ2 =>
        k = pt x ∧ (pt x = false → N ρ2 ∧ σ'.Sublist σ2) ∧ (pt x = true → W w A base (compEnvO own scope cl C env) ρ2 σ2 (PySem.eval elt (compEnvO own scope cl C env)) fun y ρ3 σ3 => V x y ∧ N ρ3 ∧ σ'.Sublist σ3))
    (fin : ∀ D o' rs, LObj o' rs → Al V (xs.filter pt) rs → Q (.ref D) ρ ((D, o') :: σ)) :
    W w A h₀ env ρ σ (pyIter (.ref a)) fun it ρ'' σ'' => CompXAt w loose mean mg mb need A h₀ env own scope cl elt target iter ifs [] pos Q it ρ'' σ'' :=
  W.iterList hk hl fun I oi hi => ⟨I, oi, σ, fun rs => Al V (xs.filter pt) rs, rfl, List.Sublist.refl _, fun base C D oD ρc hs O hc hf hD => by
    have hkb : base.get? a = some o := hk.elim (fun h => hs.2 _ h) (fun h => hs.1 _ _ h)
    refine ⟨fun Q q => (proto_list (w := w) (A := A) (h₀ := base) (env := compEnvO own scope cl C env) (a := a) hh hl).self 0 I oi ρc _ Q hi q, ?_⟩
    have Pr := proto_list (w := w) (A := A) (h₀ := base) (env := compEnvO own scope cl C env) (a := a) hh hl
    have := wc_one (xs := xs) (U := U) (V := V) (pt := pt) (elt := elt) (gens := [⟨target, iter, ifs, 0⟩]) (scope := scope) (pos := pos) (d := 0) (D := D) (oD := oD) (rs₀ := []) (target := target) (ifs := ifs) (p := iter.pos) (I := I) (o := oi) (σ := []) N (by rfl) (hgo I) Pr hx.len (by rw [hx.len]; simpa using hsz) hi (fun _ _ => .inr hkb) (fun i v hv => hx.get hv) (hN ρc hc) hD
      (fun x v σ' ρ' _ hx' ux hN' => turn base C x v σ' ρ' hs O hf hx' ux hN')
    exact this.mono fun ρ' σ' q => q.2.elim fun oD' q => q.elim fun rs q => ⟨oD', rs, q.1 ▸ .head _, q.2.1, q.2.2⟩, fun D o rs hl hr => fin D o rs hl hr⟩
end
end Mine
end

section
open PySem PySem.W PyProof.Rows PySem.Calls PySem.Builtin PySem.Builtin.Str
set_option maxRecDepth 100000
set_option maxHeartbeats 4000000
set_option linter.unusedVariables false
namespace Mine
theorem sliceT_whole {x : Str} {l u : Option Int} (h : (strSliceIndices l u 1 x.length).length = x.length) : (if (strSliceIndices l u 1 x.length).length = x.length then x else (⟨((strSliceIndices l u 1 x.length).filterMap (x.cps[·]?)).toArray⟩ : Str)) = x := if_pos h
theorem sliceT_part {x : Str} {l u : Option Int} (h : ¬ (strSliceIndices l u 1 x.length).length = x.length) : (if (strSliceIndices l u 1 x.length).length = x.length then x else (⟨((strSliceIndices l u 1 x.length).filterMap (x.cps[·]?)).toArray⟩ : Str)) = ⟨((strSliceIndices l u 1 x.length).filterMap (x.cps[·]?)).toArray⟩ := if_neg h
noncomputable def sliceT (x : Str) (l u : Option Int) : Str := if (strSliceIndices l u 1 x.length).length = x.length then x else ⟨((strSliceIndices l u 1 x.length).filterMap (x.cps[·]?)).toArray⟩
noncomputable def itemT (x : Str) (k : Nat) : Str := match x.cps[k]? with
  | some c => ⟨#[c]⟩
  | none => ⟨#[]⟩
theorem sliceT_le (x : Str) (l u : Option Int) : (sliceT x l u).length ≤ x.length := by
  unfold sliceT
  split
  · exact Nat.le_refl _
  · show (((strSliceIndices l u 1 x.length).filterMap (x.cps[·]?)).toArray).size ≤ _
    rw [List.size_toArray]
    exact Nat.le_trans (List.length_filterMap_le ..) (sliceIndices_le l u x.length)
theorem SL.one {o : Obj} {x : Str} {t : Tok} (h : LObj o [.str x t]) : SL o [x] := ⟨[(x, t)], h, rfl⟩
theorem SL.two {o : Obj} {x y : Str} {t u : Tok} (h : LObj o [.str x t, .str y u]) : SL o [x, y] := ⟨[(x, t), (y, u)], h, rfl⟩
section
variable {w : World} {A : Around} {h₀ h h' : Heap} {env : Env} {ρ : Rho} {σ : Led}
theorem w_expr {e : Expr} {pos : Pos} {Q : Flow → Rho → Led → Prop} (h : W w A h₀ env ρ σ (eval e env) fun _ => Q .next) (hi : interactive env = false := by with_unfolding_all rfl) (hs : swapsWith e none pos.line env = pure false := by with_unfolding_all rfl) :
    W w A h₀ env ρ σ (exec (.Expr e pos) env) Q := fun s ht F => wpAny_Expr_any (wpAny_mono (h s ht F) (fun _ _ p => p) fun _ _ x => x) hi hs
theorem w_gm_lappend {a : Addr} {o : Obj} {vs : List Value} {pl : Sem Bool} {Q : Value × List Value → Rho → Led → Prop} (hk : Kn h₀ σ a o) (hl : LObj o vs) (h : Q (.builtin "list.append", [.ref a]) ρ σ) : W w A h₀ env ρ σ (getMethod (.ref a) "append" pl) Q := w_gm_list hk hl PySem.F.slot_list_append PySem.F.type_list_append h
theorem w_appSL {D : Addr} {o : Obj} {ss : List Str} {f : Obj → Led} {x : Str} {t : Tok} {Q : Value → Rho → Led → Prop} (hL : SL o ss) (hz : ss.length ≤ 1000000) (U : ∀ o', Upd D o o' σ (f o'))
    (h : ∀ o', SL o' (ss ++ [x]) → Q .none ρ (f o')) : W w A h₀ env ρ σ (PySem.call (.builtin "list.append") [.ref D, .str x t]) Q := by
  obtain ⟨vs, h1, h2⟩ := hL.al
  exact w_append h1 (by rw [h2.len]; exact hz) U fun o' ho => h o' (SL.of ho (h2.snoc ⟨t, rfl⟩))
theorem w_extSL {D b : Addr} {o o₂ : Obj} {ss ss₂ : List Str} {f : Obj → Led} {Q : Value → Rho → Led → Prop} (hL : SL o ss) (hk : Kn h₀ σ b o₂) (hL₂ : SL o₂ ss₂) (hz : ss.length + ss₂.length ≤ 1000000) (U : ∀ o', Upd D o o' σ (f o'))
    (h : ∀ o', SL o' (ss ++ ss₂) → Q .none ρ (f o')) : W w A h₀ env ρ σ (PySem.call (.builtin "list.extend") [.ref D, .ref b]) Q := by
  obtain ⟨vs, h1, h2⟩ := hL.al
  obtain ⟨vs', h3, h4⟩ := hL₂.al
  exact w_extend h1 hk h3 (by rw [h2.len, h4.len]; exact hz) U fun o' ho => h o' (SL.of ho (h2.append h4))
theorem w_gm_sl {a : Addr} {o : Obj} {ss : List Str} {name : Str} {id : String} {pl : Sem Bool} {Q : Value × List Value → Rho → Led → Prop} (hk : Kn h₀ σ a o) (hl : SL o ss) (slot : Slot "list" name id) (hty : typeOf (.builtin id) = pure (.type "method_descriptor"))
    (h : Q (.builtin id, [.ref a]) ρ σ) : W w A h₀ env ρ σ (getMethod (.ref a) name pl) Q := by
  obtain ⟨vs, h1, h2⟩ := hl.al
  exact w_gm_list hk h1 slot hty h
theorem w_gm_sappend {a : Addr} {o : Obj} {ss : List Str} {pl : Sem Bool} {Q : Value × List Value → Rho → Led → Prop} (hk : Kn h₀ σ a o) (hl : SL o ss) (h : Q (.builtin "list.append", [.ref a]) ρ σ) : W w A h₀ env ρ σ (getMethod (.ref a) "append" pl) Q := w_gm_sl hk hl PySem.F.slot_list_append PySem.F.type_list_append h
theorem w_gm_sextend {a : Addr} {o : Obj} {ss : List Str} {pl : Sem Bool} {Q : Value × List Value → Rho → Led → Prop} (hk : Kn h₀ σ a o) (hl : SL o ss) (h : Q (.builtin "list.extend", [.ref a]) ρ σ) : W w A h₀ env ρ σ (getMethod (.ref a) "extend" pl) Q := w_gm_sl hk hl PySem.F.slot_list_extend PySem.F.type_list_extend h
theorem w_gm_sclear {a : Addr} {o : Obj} {ss : List Str} {pl : Sem Bool} {Q : Value × List Value → Rho → Led → Prop} (hk : Kn h₀ σ a o) (hl : SL o ss) (h : Q (.builtin "list.clear", [.ref a]) ρ σ) : W w A h₀ env ρ σ (getMethod (.ref a) "clear" pl) Q := w_gm_sl hk hl PySem.F.slot_list_clear PySem.F.type_list_clear h
theorem w_part0 {Q : Value → Rho → Led → Prop} (h : Q .none ρ σ) : W w A h₀ env ρ σ (evalPart none env) Q := W.done h
theorem w_part1 {e : Expr} {Q : Value → Rho → Led → Prop} (h : W w A h₀ env ρ σ (eval e env) Q) : W w A h₀ env ρ σ (evalPart (some e) env) Q := h
noncomputable def SlO (o : Obj) (vl vu vs : Value) : Prop := o = { cls := .type "slice", data := .fields #[vl, vu, vs] }
theorem w_slice {lower upper step : Option Expr} {p : Pos} {Q : Value → Rho → Led → Prop}
    (h : W w A h₀ env ρ σ (evalPart lower env) fun vl ρ₁ σ₁ => W w A h₀ env ρ₁ σ₁ (evalPart upper env) fun vu ρ₂ σ₂ => W w A h₀ env ρ₂ σ₂ (evalPart step env) fun vs ρ₃ σ₃ => ∀ I oi, SlO oi vl vu vs → Q (.ref I) ρ₃ ((I, oi) :: σ₃)) :
    W w A h₀ env ρ σ (eval (.Slice lower upper step p) env) Q := fun s ht F =>
  wpAny_Slice (W.step h ht F fun _ _ _ _ _ htk _ F' q => W.step q htk F' fun _ _ _ _ _ htk _ F' q => W.step q htk F' fun _ ρ₃ _ _ tk₃ _ _ F' q => ⟨ρ₃, _, _, tk₃, rfl, F'.push _ rfl, q _ _ rfl⟩)
theorem w_getSlS {x : Str} {t : Tok} {I : Addr} {oi : Obj} {l u : Option (Int × Tok)} {Q : Value → Rho → Led → Prop} (hs : SlO oi (partValue l) (partValue u) .none) (hx : x.length ≤ 1000000)
    (h : ∀ t', Q (.str (sliceT x (l.map (·.1)) (u.map (·.1))) t') ρ ((I, oi) :: σ)) : W w A h₀ env ρ ((I, oi) :: σ) (getItem (.str x t) (.ref I)) Q := fun s hts F => by
  refine wpAny_getItem_str_slice (l := l) (u := u) (st := none) ⟨_, F.get (.head _), by rw [hs], by rw [hs]; rfl⟩ rfl ?_
  have q := h
  unfold sliceMade
  unfold sliceT at q
  split
  · rename_i hc
    simp only [Bool.and_eq_true, beq_iff_eq] at hc
    rw [sliceT_whole hc.2] at q
    exact ⟨ρ, _, _, _, rfl, F, q t⟩
  · rename_i hc
    have hc' : ¬ (strSliceIndices (l.map (·.1)) (u.map (·.1)) 1 x.length).length = x.length := by
      intro h1
      apply hc
      simp [slicePicked, h1]
    rw [sliceT_part hc'] at q
    refine ⟨?_, ρ, _, _, _, rfl, F, q _⟩
    rw [sizeLine_eq]
    show (((strSliceIndices (l.map (·.1)) (u.map (·.1)) 1 x.length).filterMap (x.cps[·]?)).toArray).size ≤ _
    rw [List.size_toArray]
    have := List.length_filterMap_le (x.cps[·]?) (strSliceIndices (l.map (·.1)) (u.map (·.1)) 1 x.length)
    have := sliceIndices_le (l.map (·.1)) (u.map (·.1)) x.length
    lia
theorem w_subSlS {value slice : Expr} {x : Str} {t : Tok} {I : Addr} {oi : Obj} (l u : Option (Int × Tok)) {Q : Value → Rho → Led → Prop} {vl vu : Value} (hs : SlO oi vl vu .none) (el : vl = partValue l) (eu : vu = partValue u) (hx : x.length ≤ 1000000)
    (h : ∀ t', Q (.str (sliceT x (l.map (·.1)) (u.map (·.1))) t') ρ ((I, oi) :: σ)) {ops : List Value} (ho : subscripted slice false (.str x t) (.ref I) = operate ops (getItem (.str x t) (.ref I)) := by with_unfolding_all rfl) : W w A h₀ env ρ ((I, oi) :: σ) (subscriptTail value slice (.str x t) (.ref I)) Q := by
  subst el eu
  exact W.tail (fun s F => typeIs_str s x t) PySem.F.slot_str_getitem (w_getSlS hs hx h) ho
/-- a list's slice -/
theorem w_subSlL {value slice : Expr} {a : Addr} {o : Obj} {vs : List Value} {I : Addr} {oi : Obj} {lo hi st : Option Int} {Q : Value → Rho → Led → Prop} {vl vu vst : Value} (hs : SlO oi vl vu vst) (hk : Kn h₀ σ a o) (hl : LObj o vs) (pl : IsPart vl lo) (pu : IsPart vu hi) (ps : IsPart vst st) (h0 : st ≠ some 0) (hx : vs.length ≤ 1000000)
    (h : ∀ D o', LObj o' (slicePick vs.toArray lo hi st).toList → Q (.ref D) ρ ((D, o') :: (I, oi) :: σ)) {ops : List Value} (ho : subscripted slice false (.ref a) (.ref I) = operate ops (getItem (.ref a) (.ref I)) := by with_unfolding_all rfl) : W w A h₀ env ρ ((I, oi) :: σ) (subscriptTail value slice (.ref a) (.ref I)) Q := by
  have hk' : Kn h₀ ((I, oi) :: σ) a o := hk.imp (.tail _) id
  refine W.tail (fun s F => (hl.isList (F.kn hk')).typeIs) slot_list_getitem (fun s ht F => ?_) ho
  refine wpAny_getItem_list_slice (hl.isList (F.kn hk')) ⟨_, F.get (.head _), by rw [hs], by rw [hs]⟩ pl pu ps h0 ?_ (by rw [sizeLine_eq]; simp; exact Nat.le_trans (by assumption) (by decide))
  exact ⟨ρ, _, _, s.toks, rfl, F.push _ rfl, h _ _ ⟨0, by simp⟩⟩
/-- `xs[i:]` -/
theorem w_subFrom {value slice : Expr} {a : Addr} {o : Obj} {vs : List Value} {I : Addr} {oi : Obj} (i : Nat) {t : Tok} {Q : Value → Rho → Led → Prop} {vl : Value} (hs : SlO oi vl .none .none) (el : vl = .int i t) (hi : i ≤ vs.length) (hk : Kn h₀ σ a o) (hl : LObj o vs) (hx : vs.length ≤ 1000000)
    (h : ∀ D o', LObj o' (vs.drop i) → Q (.ref D) ρ ((D, o') :: (I, oi) :: σ)) {ops : List Value} (ho : subscripted slice false (.ref a) (.ref I) = operate ops (getItem (.ref a) (.ref I)) := by with_unfolding_all rfl) : W w A h₀ env ρ ((I, oi) :: σ) (subscriptTail value slice (.ref a) (.ref I)) Q := by
  subst el
  refine w_subSlL hs hk hl (.int _ _) .none .none (by simp) hx (fun D o' ho' => ?_) ho
  rw [slicePick_from vs.toArray i (by simpa using hi)] at ho'
  exact h D o' (by simpa using ho')
theorem w_itemS {x : Str} {t u : Tok} {i : Int} {k : Nat} {Q : Value → Rho → Led → Prop} (e : i = k) (hk : k < x.length) (hx : x.length ≤ 1000000) (h : ∀ t', Q (.str (itemT x k) t') ρ σ) : W w A h₀ env ρ σ (getItem (.str x t) (.int i u)) Q := by
  subst e
  have hk' : k < x.cps.size := hk
  refine W.itemS (c := x.cps[k]) ⟨by exact Int.natCast_nonneg _, by lia⟩ ?_ (fun t' => ?_)
  · rw [seq_at (n := x.length) hk]
    simp [hk']
  · have := h t'
    unfold itemT at this
    rw [Array.getElem?_eq_getElem hk'] at this
    exact this
/-- the last sign -/
theorem w_itemSL {x : Str} {t u : Tok} {Q : Value → Rho → Led → Prop} (hk : 0 < x.length) (hx : x.length ≤ 1000000) (h : ∀ t', Q (.str (itemT x (x.length - 1)) t') ρ σ) : W w A h₀ env ρ σ (getItem (.str x t) (.int (-1) u)) Q := by
  have hk' : x.length - 1 < x.cps.size := by show x.length - 1 < x.length; exact Nat.sub_lt_sub_left (by assumption) (Nat.lt_succ_self _)
  refine W.itemS (c := x.cps[x.length - 1]) ⟨by exact Int.natCast_nonneg _, by exact Int.natCast_nonneg _⟩ ?_ (fun t' => ?_)
  · rw [seq_last (n := x.length) hk]
    simp [hk']
  · have := h t'
    unfold itemT at this
    rw [Array.getElem?_eq_getElem hk'] at this
    exact this
theorem w_subS {value slice : Expr} {x : Str} {t : Tok} {i : Value} {Q : Value → Rho → Led → Prop} (h : W w A h₀ env ρ σ (getItem (.str x t) i) Q)
    (hs : subscripted slice false (.str x t) i = operate [.str x t, i] (getItem (.str x t) i) := by with_unfolding_all rfl) : W w A h₀ env ρ σ (subscriptTail value slice (.str x t) i) Q :=
  W.tail (fun s F => typeIs_str s x t) PySem.F.slot_str_getitem h hs
end
end Mine
end

section
open PySem PySem.W PyProof.Rows PySem.Calls PySem.Builtin PySem.Builtin.Str
set_option maxRecDepth 100000
set_option maxHeartbeats 4000000
set_option linter.unusedVariables false
namespace Mine
noncomputable abbrev DD (w : World) (o : Obj) (kvs : List (Str × Value)) : Prop := o.IsDictOf (PySem.strKind PP w) kvs
section
variable {w : World} {A : Around} {h₀ h h' : Heap} {env : Env} {ρ : Rho} {σ : Led} {d : Addr} {o : Obj} {kvs : List (Str × Value)} {k : Str} {t : Tok} {v : Value}
theorem DD.at (x : DD w o kvs) (e : h.get? d = some o) : h.DictOf (PySem.strKind PP w) d kvs := Heap.dictOf_iff.mpr ⟨o, e, x⟩
theorem w_getD {Q : Value → Rho → Led → Prop} (hk : Kn h₀ σ d o) (hd : DD w o kvs) (hv : valueAt kvs k = some v) (h : Q v ρ σ) : W w A h₀ env ρ σ (getItem (.ref d) (.str k t)) Q := fun s ht F =>
  wpAny_getItem_of (strKind_is PP w k t) (hd.at (F.kn hk)).mapOf hv ⟨ρ, σ, s.heap, _, rfl, F, h⟩
theorem w_subD {value slice : Expr} {i : Value} {Q : Value → Rho → Led → Prop} (hk : Kn h₀ σ d o) (hd : DD w o kvs) (h : W w A h₀ env ρ σ (getItem (.ref d) i) Q)
    (hs : subscripted slice false (.ref d) i = operate [.ref d, i] (getItem (.ref d) i) := by with_unfolding_all rfl) : W w A h₀ env ρ σ (subscriptTail value slice (.ref d) i) Q :=
  W.tail (fun s F => (hd.at (F.kn hk)).typeIs) slot_dict_getitem h hs
theorem w_inD {Q : Value → Rho → Led → Prop} (hds : (d == sysModules) = false) (hk : Kn h₀ σ d o) (hd : DD w o kvs) (h : Q (.bool (valueAt kvs k).isSome) ρ σ) : W w A h₀ env ρ σ (compareOp .In (.str k t) (.ref d)) Q := fun s ht F =>
  wpAny_in_of (strKind_is PP w k t) hds (hd.at (F.kn hk)).mapOf ⟨ρ, σ, s.heap, _, rfl, F, h⟩
theorem w_dget {Q : Value → Rho → Led → Prop} (hds : (d == sysModules) = false) (hk : Kn h₀ σ d o) (hd : DD w o kvs) (h : Q ((valueAt kvs k).getD .none) ρ σ) : W w A h₀ env ρ σ (PySem.call (.builtin "dict.get") [.ref d, .str k t]) Q := fun s ht F =>
  call_meetsIn PySem.F.slot_dict_get (hd.at (F.kn hk)).typeIs PySem.F.entry_dict_get (PySem.F.args_dict_get_2 _ _) (meets_dict_get (PySem.strKind PP w) d (strKind_is PP w k t) hds) ⟨_, (hd.at (F.kn hk)).mapOf, ⟨ρ, σ, s.heap, _, rfl, F, h⟩⟩
theorem w_setD {f : Obj → Led} {Q : Unit → Rho → Led → Prop} (hd : DD w o kvs) (hz : kvs.length ≤ 1000000) (U : ∀ o', Upd d o o' σ (f o')) (h : ∀ o', DD w o' (stored kvs k v) → Q () ρ (f o')) : W w A h₀ env ρ σ (setItem (.ref d) (.str k t) v) Q := fun s ht F => by
  have ho := F.get (U { cls := .none, data := .freed }).mem
  refine wpAny_setItem_pairs (strKind_is PP w k t) (hd.at ho) (fun h' hm hs => ?_) (by rw [sizeLine_eq]; exact Nat.le_trans (by assumption) (by decide))
  obtain ⟨o', e, x⟩ := Heap.dictOf_iff.mp hm
  exact ⟨ρ, _, h', _, rfl, F.put U hs e, h o' x⟩
theorem FS.big {loose : List Str} {mean : ExcName → Option Value} {mg mb : Str → Option Value} {need : Nat} (O : Ok w loose mean mg mb need A env h₀) (F : FS h₀ env ρ σ h) : (h.objs.size == sysModules) = false := by
  obtain ⟨o, _, _, e, _⟩ := O.t.g
  have := Heap.lt_size (F.keep _ _ e)
  have h3 : 3 < h.objs.size := this
  have : h.objs.size ≠ sysModules := by
    show h.objs.size ≠ 1
    lia
  simpa using this
theorem w_dict0 {loose : List Str} {mean : ExcName → Option Value} {mg mb : Str → Option Value} {need : Nat} (O : Ok w loose mean mg mb need A env h₀) {pos : Pos} {Q : Value → Rho → Led → Prop} (h : ∀ D o, (D == sysModules) = false → DD w o [] → Q (.ref D) ρ ((D, o) :: σ)) : W w A h₀ env ρ σ (eval (.Dict [] [] pos) env) Q := fun s ht F => by
  rw [eval_Dict_empty]
  refine wpAny_bind (wpAny_standAt (wpAny_newObj_type ?_))
  exact ⟨ρ, _, _, s.toks, rfl, F.push _ rfl, h _ _ (F.big O) ⟨#[], 0, ⟨rfl, rfl, rfl⟩, rfl, by intro e he; simp at he, .nil, List.nodup_nil⟩⟩
theorem w_dict1 {loose : List Str} {mean : ExcName → Option Value} {mg mb : Str → Option Value} {need : Nat} (O : Ok w loose mean mg mb need A env h₀) {ke ve : Expr} {pos : Pos} {Q : Value → Rho → Led → Prop}
    (h : ∀ D o₀, (D == sysModules) = false → W w A h₀ env ρ ((D, o₀) :: σ) (eval ke env) fun kv ρ₁ σ₁ => W w A h₀ env ρ₁ σ₁ (eval ve env) fun vv ρ₂ σ₂ => ∃ (k : Str) (t : Tok) (f : Obj → Led), kv = .str k t ∧ (∀ o', Upd D o₀ o' σ₂ (f o')) ∧ ∀ o, DD w o [(k, vv)] → Q (.ref D) ρ₂ (f o)) : W w A h₀ env ρ σ (eval (.Dict [some ke] [ve] pos) env) Q := fun s ht F => by
  have F1 := F.push { cls := .type "dict", data := .dict #[] } rfl
  refine wpAny_Dict_walk (knd := PySem.strKind PP w) rfl rfl (by simp) (by simp) ?_
  refine pairTrees_cons_walk ?_
  refine W.step (s := { s with heap := s.heap.push { cls := .type "dict", data := .dict #[] } }) (h s.heap.objs.size _ (F.big O)) ht F1 fun kv ρ₁ σ₁ h₁ tk₁ ht₁ _ F₁ q₁ => W.step q₁ ht₁ F₁ fun vv ρ₂ σ₂ h₂ tk₂ ht₂ _ F₂ qq => pairTrees_nil_walk ?_
  obtain ⟨k, t, f, e, U, q⟩ := qq
  subst e
  have g := F₂.get (U { cls := .none, data := .freed }).mem
  refine ⟨[(k, vv)], ⟨strKind_is PP w k t, rfl, trivial⟩, Heap.dictOf_iff.mpr ⟨_, g, ⟨#[], 0, ⟨rfl, rfl, rfl⟩, rfl, by intro e he; simp at he, .nil, List.nodup_nil⟩⟩, fun h' hm hs => ?_⟩
  obtain ⟨o', e, x⟩ := Heap.dictOf_iff.mp hm
  refine ⟨ρ₂, _, h', _, rfl, F₂.put U hs e, q o' ?_⟩
  exact x

noncomputable def ItK (d : Addr) (n ep : Nat) (i : Nat) (o : Obj) : Prop := o.cls = .type "dict_keyiterator" ∧ o.data = .fields #[.ref d, .int i 0, .int n 0, .int ep 0]
noncomputable def ItV (d : Addr) (n ep : Nat) (i : Nat) (o : Obj) : Prop := o.cls = .type "dict_valueiterator" ∧ o.data = .fields #[.ref d, .int i 0, .int n 0, .int ep 0]
noncomputable def DA (w : World) (o : Obj) (kvs : List (Str × Value)) (ep : Nat) : Prop := ∃ es, o.ExactDict ∧ o.data = .dict es ep ∧ KeysOf (PySem.strKind PP w) es ∧ Pairs (PySem.strKind PP w) es.toList kvs ∧ (kvs.map (·.1)).Nodup
theorem DD.da (x : DD w o kvs) : ∃ ep, DA w o kvs ep := let ⟨es, ep, r⟩ := x; ⟨ep, es, r⟩
theorem DA.at {ep : Nat} (x : DA w o kvs ep) (e : h.get? d = some o) : h.DictAt (PySem.strKind PP w) d kvs ep := let ⟨es, r⟩ := x; ⟨o, es, e, r⟩
theorem proto_keys {ep : Nat} (hh : A.handled = none) (x : DA w o kvs ep) : Proto w A h₀ env (fun σ => Kn h₀ σ d o) kvs.length (ItK d kvs.length ep) (fun i v => ∃ p t, kvs[i]? = some p ∧ v = .str p.1 t) where
  item := fun i I oi ρ σ Q hi hI hk hQ s ht F => by
    have hl := x.at (F.kn (hk.imp (.tail _) id))
    have e : kvs[i]? = some (kvs[i].1, kvs[i].2) := by simp [hi]
    refine wpAny_pyNext_dict_item (v := kvs[i].2) ⟨oi, F.get (.head _), hI⟩ hl e fun key h' hkey qq3 hs => ?_
    obtain ⟨o', ho', hi'⟩ := qq3
    obtain ⟨t, rfl⟩ := Value.isStrOf_shape hkey
    exact ⟨ρ, (I, o') :: σ, h', s.toks, rfl, F.same hs ho', hQ _ _ ⟨_, t, e, rfl⟩ hi'⟩
  done := fun I oi ρ σ Q hI hk hQ s ht F => by
    have hl := x.at (F.kn (hk.imp (.tail _) id))
    refine wpAny_pyNext_dict_end hh ⟨oi, F.get (.head _), hI⟩ hl (by simp) fun h' hs => ?_
    exact ⟨ρ, σ, h', s.toks, rfl, F.gone hs, hQ⟩
  self := fun i I oi ρ σ Q hI hQ s ht F => wpAny_pyIter_keyiter (d := d) (i := i) (n := kvs.length) (ep := ep) ⟨oi, F.get (.head _), hI⟩ (Post.now F hQ)
theorem proto_values {ep : Nat} (hh : A.handled = none) (x : DA w o kvs ep) : Proto w A h₀ env (fun σ => Kn h₀ σ d o) kvs.length (ItV d kvs.length ep) (fun i v => ∃ p, kvs[i]? = some p ∧ v = p.2) where
  item := fun i I oi ρ σ Q hi hI hk hQ s ht F => by
    have hl := x.at (F.kn (hk.imp (.tail _) id))
    have e : kvs[i]? = some (kvs[i].1, kvs[i].2) := by simp [hi]
    refine wpAny_pyNext_values_item (k := kvs[i].1) ⟨oi, F.get (.head _), hI⟩ hl e fun h' qq1 hs => ?_
    obtain ⟨o', ho', hi'⟩ := qq1
    exact ⟨ρ, (I, o') :: σ, h', s.toks, rfl, F.same hs ho', hQ _ _ ⟨_, e, rfl⟩ hi'⟩
  done := fun I oi ρ σ Q hI hk hQ s ht F => by
    have hl := x.at (F.kn (hk.imp (.tail _) id))
    refine wpAny_pyNext_values_end hh ⟨oi, F.get (.head _), hI⟩ hl (by simp) fun h' hs => ?_
    exact ⟨ρ, σ, h', s.toks, rfl, F.gone hs, hQ⟩
  self := fun i I oi ρ σ Q hI hQ s ht F => wpAny_pyIter_valiter (d := d) (i := i) (n := kvs.length) (ep := ep) ⟨oi, F.get (.head _), hI⟩ (Post.now F hQ)
end
end Mine
end

section
open PySem PySem.W PyProof.Rows PySem.Calls PySem.SeqAt
set_option maxRecDepth 100000
set_option maxHeartbeats 4000000
set_option linter.unusedVariables false
namespace Mine
section
variable {w : World} {A : Around} {h₀ h h' : Heap} {env : Env} {ρ : Rho} {σ : Led}
theorem W.of_sub {α : Type} {t : Sem α} {Q : α → Rho → Led → Prop} {σ' : Led} (h : W w A h₀ env ρ σ' t Q) (hs : ∀ p ∈ σ', p ∈ σ) (hn : (σ.map (·.1)).Nodup → (σ'.map (·.1)).Nodup) : W w A h₀ env ρ σ t Q := fun s ht F => h s ht (F.sub hs (hn F.nd))
theorem WC.of_sub {c : Code} {R : Rho → Led → Prop} {σ' : Led} (h : WC w A h₀ env ρ σ' c R) (hs : ∀ p ∈ σ', p ∈ σ) (hn : (σ.map (·.1)).Nodup → (σ'.map (·.1)).Nodup) : WC w A h₀ env ρ σ c R := fun s ht F => h s ht (F.sub hs (hn F.nd))
theorem swap_mem {a b : Addr × Obj} {r : Led} : ∀ p ∈ b :: a :: r, p ∈ a :: b :: r := fun p hp => by
  rcases List.mem_cons.mp hp with rfl | hp
  · exact .tail _ (.head _)
  · rcases List.mem_cons.mp hp with rfl | hp
    · exact .head _
    · exact .tail _ (.tail _ hp)
theorem swap_nd {a b : Addr × Obj} {r : Led} : ((a :: b :: r).map (·.1)).Nodup → ((b :: a :: r).map (·.1)).Nodup := fun h => by
  simp only [List.map_cons, List.nodup_cons, List.mem_cons, not_or] at h ⊢
  exact ⟨⟨Ne.symm h.1.1, h.2.1⟩, h.1.2, h.2.2⟩
theorem WC.conv {c : Code} {R R' : Rho → Led → Prop} (h : WC w A h₀ env ρ σ c R) (hr : ∀ ρ' σ', R ρ' σ' → ∃ σ'', (∀ p ∈ σ'', p ∈ σ') ∧ ((σ'.map (·.1)).Nodup → (σ''.map (·.1)).Nodup) ∧ R' ρ' σ'') : WC w A h₀ env ρ σ c R' := fun s ht F =>
  codeAny_mono (h s ht F) fun r s' q => by
    cases q with | mk a b q =>
    exact (hr _ _ q).elim fun _ x => .mk a (b.sub x.1 (x.2.1 b.nd)) x.2.2
theorem sub_nd {a b : Led} (h : a.Sublist b) : (b.map (·.1)).Nodup → (a.map (·.1)).Nodup := fun hn => (h.map _).nodup hn
/-- the inner clause's run, as the outer turn does it -/
noncomputable def nestOf (e : Expr) (d : Nat) (g' : Comprehension) (it acc : Value) (env : Env) : Sem Fin := do
  let x ← PySem.eval g'.iter env
  standAt g'.iter.pos
  let x ← if g'.is_async != 0 then foldedIterable g'.iter x else foldedSetIterable g'.iter env x
  let _ ← runOwn (.compStart e (d + 1) (← holding [x] (if g'.is_async != 0 then asyncIter x else pyIter x)) acc env) env
  again (.compLoop e d it acc env)

theorem compTurn_two (elt t0 i0 : Expr) (ifs0 : List Expr) (t1 i1 : Expr) (ifs1 : List Expr) (scope : Scope) (pos : Pos) (it acc : Value) (env : Env) :
    compTurn (.ListComp elt [⟨t0, i0, ifs0, 0⟩, ⟨t1, i1, ifs1, 0⟩] scope pos) 0 it acc env = turnOfK t0 ifs0 i0.pos (nestOf (.ListComp elt [⟨t0, i0, ifs0, 0⟩, ⟨t1, i1, ifs1, 0⟩] scope pos) 0 ⟨t1, i1, ifs1, 0⟩ it acc env) it env (.compLoop (.ListComp elt [⟨t0, i0, ifs0, 0⟩, ⟨t1, i1, ifs1, 0⟩] scope pos) 0 it acc env) := by rfl
theorem compTurn_two1 (elt t0 i0 : Expr) (ifs0 : List Expr) (t1 i1 : Expr) (ifs1 : List Expr) (scope : Scope) (pos : Pos) (it acc : Value) (env : Env) :
    compTurn (.ListComp elt [⟨t0, i0, ifs0, 0⟩, ⟨t1, i1, ifs1, 0⟩] scope pos) 1 it acc env = turnOf t1 ifs1 i1.pos (restOf elt acc env) it env (.compLoop (.ListComp elt [⟨t0, i0, ifs0, 0⟩, ⟨t1, i1, ifs1, 0⟩] scope pos) 1 it acc env) := by rfl
theorem w_nest {e : Expr} {d : Nat} {target iter : Expr} {ifs : List Expr} {it acc : Value} {Q : Fin → Rho → Led → Prop} (hs : ∀ x, foldedSetIterable iter env x = pure x)
    (h : W w A h₀ env ρ σ (PySem.eval iter env) fun v ρ₁ σ₁ => W w A h₀ env ρ₁ σ₁ (pyIter v) fun it' ρ₂ σ₂ => WC w A h₀ env ρ₂ σ₂ (.compStart e (d + 1) it' acc env) (Q (.again (.compLoop e d it acc env)))) :
    W w A h₀ env ρ σ (nestOf e d ⟨target, iter, ifs, 0⟩ it acc env) Q := fun s ht F => by
  unfold nestOf
  refine wpAny_bind (W.step h ht F fun v ρ₁ σ₁ h₁ tk₁ ht₁ _ F₁ q₁ => wpAny_bind (wpAny_standAt (wpAny_bind ?_)))
  show wpAny _ A (foldedSetIterable iter env v) _ _ _
  refine wpAny_of_eq (hs v) (wpAny_bind (wpAny_holding ?_))
  refine W.step q₁ ht₁ F₁ fun it ρ₂ σ₂ h₂ tk₂ ht₂ _ F₂ q₂ => wpAny_bind (wpAny_runOwn (codeAny_mono (q₂ { s with heap := h₂, toks := tk₂ } ht₂ F₂) fun r s' q => ?_))
  cases q with | mk a b q =>
  exact wpAny_pure ⟨_, _, _, _, rfl, b, q⟩

theorem wc_start {elt : Expr} {gens : List Comprehension} {scope : Scope} {pos : Pos} {d : Nat} {target iter : Expr} {ifs : List Expr} {I : Addr} {acc : Value} {R : Rho → Led → Prop} (hg : gens[d]? = some ⟨target, iter, ifs, 0⟩)
    (hself : ∀ Q : Value → Rho → Led → Prop, Q (.ref I) ρ σ → W w A h₀ env ρ σ (pyIter (.ref I)) Q)
    (h : WC w A h₀ env ρ σ (.compLoop (.ListComp elt gens scope pos) d (.ref I) acc env) R) : WC w A h₀ env ρ σ (.compStart (.ListComp elt gens scope pos) d (.ref I) acc env) R := fun s ht F => by
  refine codeAny_of_tree ?_
  show wpAny _ _ ((compStart (.ListComp elt gens scope pos) d (.ref I) acc env).onRaise (fun x => do noteFrame x env; standAt theWindowsPlace)) _ _ s
  refine wpAny_notedAt ?_
  unfold compStart
  have e : ((clausesOf (.ListComp elt gens scope pos))[d]?).elim false (·.is_async != 0) = false := by
    show (gens[d]?).elim false (·.is_async != 0) = false
    rw [hg]; rfl
  have e2 : (clausesOf (.ListComp elt gens scope pos))[d]? = some ⟨target, iter, ifs, 0⟩ := hg
  rw [e, e2]
  show wpAny _ _ (ask >>= _) _ _ s
  refine wpAny_bind (wpAny_askSetting (wpAny_ite ?_))
  split
  · exact wpAny_bind (wpAny_pure (wpAny_pure (And.intro rfl (h s ht F))))
  · refine wpAny_bind (wpAny_rule ?_)
    show wpAny _ _ (standAt iter.pos >>= _) _ _ s
    refine wpAny_bind (wpAny_standAt (wpAny_bind ?_))
    refine wpAny_mono (W.step (hself (fun v ρ' σ' => v = .ref I ∧ ρ' = ρ ∧ σ' = σ) ⟨rfl, rfl, rfl⟩) ht F (R := fun it s' => wpAny (model PP w) A (again (.compLoop (.ListComp elt gens scope pos) d it acc env)) _ _ s') ?_) (fun _ _ x => x) fun _ _ x => x.elim
    rintro _ _ _ h' tk htk _ F' ⟨rfl, rfl, rfl⟩
    exact wpAny_pure ⟨rfl, codeAny_mono (h { s with heap := h', toks := tk } htk F') fun r s' q => q⟩
theorem any_strs {x : Str} : ∀ l : List (Str × Tok), (strValues l).any (fun v => match v with | .str y _ => y == x | _ => false) = (l.map (·.1)).any (· == x)
  | [] => rfl
  | (y, t) :: r => by
    have ih := any_strs (x := x) r
    simp only [strValues, List.map_cons, List.any_cons] at ih ⊢
    rw [ih]
theorem w_inSL {a : Addr} {o : Obj} {ss : List Str} {x : Str} {t : Tok} {Q : Value → Rho → Led → Prop} (hk : Kn h₀ σ a o) (hl : SL o ss) (h : Q (.bool (ss.any (· == x))) ρ σ) : W w A h₀ env ρ σ (compareOp .In (.str x t) (.ref a)) Q := fun s ht F => by
  obtain ⟨l, h1, rfl⟩ := hl
  refine in_listAt (fun v => match v with | .str y _ => y == x | _ => false) (h1.isList (F.kn hk)) (fun y hy => ?_) ?_
  · have hy : y ∈ strValues l := by simpa using hy
    obtain ⟨p, hp, rfl⟩ := List.mem_map.mp hy
    exact EqAt.str_str p.1 p.2 x t
  · rw [List.any_toArray, any_strs]; exact Post.now F h
end
end Mine
end

section
open PySem PySem.W PyProof.Rows PySem.Calls
set_option maxRecDepth 100000
set_option maxHeartbeats 4000000
set_option linter.unusedVariables false
namespace Mine
theorem al_of_get {α : Type} {V : α → Value → Prop} (xs : List α) (vs : List Value) (h : vs.length = xs.length) (g : ∀ (i : Nat) (v : Value), vs[i]? = some v → ∃ x, xs[i]? = some x ∧ V x v) : Al V xs vs := by
  induction xs generalizing vs with
  | nil =>
    cases vs with
    | nil => exact .nil
    | cons _ _ => cases h
  | cons x xs ih =>
    cases vs with
    | nil => cases h
    | cons v vs =>
      obtain ⟨y, e, q⟩ := g 0 v rfl
      cases e
      exact .cons q (ih vs (Nat.succ.inj h) fun i v hv => g (i + 1) v hv)
theorem perm3 {α : Type} {a b c : α} {l : List α} : (b :: c :: a :: l).Perm (a :: b :: c :: l) := ((List.Perm.swap a c l).cons b).trans (List.Perm.swap a b (c :: l))
theorem valueAt_stored (kvs : List (Str × Value)) (k x : Str) (v : Value) : valueAt (stored kvs k v) x = if x = k then some v else valueAt kvs x := by
  unfold stored
  by_cases ha : (kvs.any fun kv => decide (kv.1 = k)) = true
  · rw [if_pos ha]
    induction kvs with
    | nil => simp at ha
    | cons p r ih =>
      obtain ⟨k', v'⟩ := p
      unfold valueAt at ih ⊢
      by_cases h1 : k' = k
      · subst h1
        by_cases h2 : x = k'
        · subst h2; simp [List.find?_cons]
        · rw [if_neg h2]
          have h2' : ¬ k' = x := fun e => h2 e.symm
          simp only [List.map_cons, if_true, List.find?_cons, h2', decide_false]
          by_cases h3 : (r.any fun kv => decide (kv.1 = k')) = true
          · have := ih h3; rw [if_neg h2] at this; exact this
          · have e : (r.map fun kv => if kv.1 = k' then (kv.1, v) else kv) = r := by
              rw [List.map_congr_left (g := fun kv => kv) (fun kv hkv => ?_), List.map_id']
              refine if_neg fun e => h3 ?_
              exact List.any_eq_true.mpr ⟨kv, hkv, by simpa using e⟩
            rw [e]
      · have h3 : (r.any fun kv => decide (kv.1 = k)) = true := by simpa [h1] using ha
        have := ih h3
        by_cases h2 : x = k'
        · subst h2; rw [if_neg h1]; simp [h1, List.find?_cons]
        · have h2' : ¬ k' = x := fun e => h2 e.symm
          simp only [List.map_cons, if_neg h1, List.find?_cons, h2', decide_false]
          exact this
  · rw [if_neg ha]
    unfold valueAt
    rw [List.find?_append]
    by_cases h2 : x = k
    · subst h2
      have : kvs.find? (fun kv => decide (kv.1 = x)) = none := by
        rw [List.find?_eq_none]
        intro p hp e
        exact ha (List.any_eq_true.mpr ⟨p, hp, e⟩)
      rw [this, if_pos rfl]
      simp
    · rw [if_neg h2]
      have h2' : ¬ k = x := fun e => h2 e.symm
      simp [List.find?_cons, h2']
section
variable {w : World} {A : Around} {h₀ h h' : Heap} {env : Env} {ρ : Rho} {σ : Led} {Q : Value → Rho → Led → Prop}
theorem W.fdivI {a b : Int} {t u : Tok} (hb : b ≠ 0) (hp : Builtin.divisionGoesByPylong a b = false) (h : ∀ t', Q (.int (a.fdiv b) t') ρ σ) : W w A h₀ env ρ σ (binaryOp .FloorDiv (.int a t) (.int b u)) Q := W.leafT (f := fun t' => .int (a.fdiv b) t') (fun s R q => PyProof.Rows.floordiv_int hb (q _ _) (.inl hp)) h
theorem W.powI {a n : Int} {t u : Tok} (hn : 0 ≤ n) (hn2 : n ≤ 1000000) (ha : a.natAbs < 2 ^ 64) (h : ∀ t', Q (.int (a ^ n.toNat) t') ρ σ) : W w A h₀ env ρ σ (binaryOp .Pow (.int a t) (.int n u)) Q := W.leafT (f := fun t' => .int (a ^ n.toNat) t') (fun s R q => PyProof.Rows.pow_int_small hn hn2 ha (q _ _)) h
theorem w_tuple {elts : List Expr} {k : Nat} {pos : Pos} (h : W w A h₀ env ρ σ (spliced (backTo pos (starEach elts env))) fun vs ρ' σ' => vs.length ≤ 1000000 ∧ ∀ D o, TObj o vs → Q (.ref D) ρ' ((D, o) :: σ')) : W w A h₀ env ρ σ (eval (.Tuple elts k pos) env) Q := fun s ht F => by
  rw [arm_eval_Tuple]
  refine wpAny_bind (wpAny_standAt (wpAny_bind (W.step h ht F fun vs ρ' σ' h' tk htk _ F' q => wpAny_newTuple ?_ (by rw [sizeLine_eq]; omega))))
  exact ⟨ρ', _, _, tk, rfl, F'.push _ rfl, q.2 _ _ ⟨rfl, 0, rfl⟩⟩
theorem w_assignSub {o i value : Expr} {pos' pos : Pos} {Q : Flow → Rho → Led → Prop}
    (h : W w A h₀ env ρ σ (eval value env) fun v ρ₁ σ₁ => W w A h₀ env ρ₁ σ₁ (eval o env) fun ov ρ₂ σ₂ => W w A h₀ env ρ₂ σ₂ (eval i env) fun iv ρ₃ σ₃ => W w A h₀ env ρ₃ σ₃ (setItem ov iv v) fun _ => Q .next)
    (hs : swapsWith value (some (.Subscript o i pos')) pos.line env = pure false := by with_unfolding_all rfl) : W w A h₀ env ρ σ (exec (.Assign [.Subscript o i pos'] value pos) env) Q := fun s ht F =>
  wpAny_Assign_Subscript (W.step h ht F fun _ _ _ _ _ htk _ F' q => W.step q htk F' fun _ _ _ _ _ htk _ F' q => W.step q htk F' fun _ _ _ _ _ htk _ F' q => wpAny_mono (q.at htk F') (fun _ _ p => p) fun _ _ x => x) hs
theorem w_listOfS {x : Str} {t : Tok} (hh : A.handled = none) (hx : x.length ≤ 1000000) (h : ∀ D o, SL o (signs x) → Q (.ref D) ρ ((D, o) :: σ)) : W w A h₀ env ρ σ (PySem.call (.type "list") [.str x t]) Q := fun s ht F => by
  refine call_list_str hh x t (fun h' tk acc' c' st hg hi => ?_) (by rw [sizeLine_eq]; show x.length ≤ _; omega)
  refine ⟨ρ, _, h', tk, rfl, F.add (tl := [(s.heap.objs.size, _)]) st (fun p hp => by
    rw [List.mem_singleton.mp hp]
    refine ⟨hg, ?_⟩
    cases e : s.heap.get? s.heap.objs.size with
    | none => rfl
    | some o' => exact absurd (Heap.lt_size e) (Nat.lt_irrefl _)) (by simp), h _ _ ?_⟩
  have hl : LObj { cls := .type "list", dict := none, data := .seq acc' c', slots := #[] } acc'.toList := ⟨c', by simp⟩
  refine SL.of hl (al_of_get _ _ ?_ fun i v hv => ?_)
  · rw [Array.length_toList, hi.1]; simp [signs]
  · obtain ⟨c, u, e, rfl⟩ := hi.2 i v (by simpa using hv)
    exact ⟨⟨#[c]⟩, by simp [signs, e], u, rfl⟩
theorem W.perm {α : Type} {t : Sem α} {Q : α → Rho → Led → Prop} {σ' : Led} (h : W w A h₀ env ρ σ' t Q) (hp : σ'.Perm σ) : W w A h₀ env ρ σ t Q := h.of_sub (fun _ hm => hp.subset hm) (fun hn => (hp.map _).nodup_iff.mpr hn)
end
/-! tests of a goal's shape, for the walk: each gives its goal back -/
section
variable {α : Type} {w : World} {A : Around} {h₀ : Heap} {env env' : Env} {ρ : Rho} {σ : Led}
theorem g_w {t : Sem α} {Q : α → Rho → Led → Prop} (h : W w A h₀ env ρ σ t Q) : W w A h₀ env ρ σ t Q := h
theorem g_eval {e : Expr} {Q : Value → Rho → Led → Prop} (h : W w A h₀ env ρ σ (eval e env') Q) : W w A h₀ env ρ σ (eval e env') Q := h
theorem g_name {x : Str} {p : Pos} {Q : Value → Rho → Led → Prop} (h : W w A h₀ env ρ σ (eval (.Name x p) env') Q) : W w A h₀ env ρ σ (eval (.Name x p) env') Q := h
theorem g_call {f : Expr} {l : List Expr} {k : List Keyword} {p : Pos} {Q : Value → Rho → Led → Prop} (h : W w A h₀ env ρ σ (eval (.Call f l k p) env') Q) : W w A h₀ env ρ σ (eval (.Call f l k p) env') Q := h
theorem g_attr {e : Expr} {x : Str} {p : Pos} {Q : Value → Rho → Led → Prop} (h : W w A h₀ env ρ σ (eval (.Attribute e x p) env') Q) : W w A h₀ env ρ σ (eval (.Attribute e x p) env') Q := h
theorem g_cmp {e : Expr} {o : List CmpOp} {l : List Expr} {p : Pos} {Q : Value → Rho → Led → Prop} (h : W w A h₀ env ρ σ (eval (.Compare e o l p) env') Q) : W w A h₀ env ρ σ (eval (.Compare e o l p) env') Q := h
theorem g_spliced {l : List (Bool × Sem Value)} {Q : List Value → Rho → Led → Prop} (h : W w A h₀ env ρ σ (spliced l) Q) : W w A h₀ env ρ σ (spliced l) Q := h
theorem g_callWith {p : Pos} {f : Value} {l : List Value} {a : List (Bool × Sem Value)} {k : List (Option Str × Sem Value)} {Q : Value → Rho → Led → Prop} (h : W w A h₀ env ρ σ (callWith p f l a k) Q) : W w A h₀ env ρ σ (callWith p f l a k) Q := h
theorem g_exec {s : Stmt} {Q : Flow → Rho → Led → Prop} (h : W w A h₀ env ρ σ (exec s env') Q) : W w A h₀ env ρ σ (exec s env') Q := h
theorem g_assign {l : List Expr} {e : Expr} {p : Pos} {Q : Flow → Rho → Led → Prop} (h : W w A h₀ env ρ σ (exec (.Assign l e p) env') Q) : W w A h₀ env ρ σ (exec (.Assign l e p) env') Q := h
theorem g_execs {l : List Stmt} {Q : Flow → Rho → Led → Prop} (h : W w A h₀ env ρ σ (execs l env') Q) : W w A h₀ env ρ σ (execs l env') Q := h
theorem g_store {x : Str} {v : Value} {Q : Unit → Rho → Led → Prop} (h : W w A h₀ env ρ σ (storeName env' x v) Q) : W w A h₀ env ρ σ (storeName env' x v) Q := h
theorem g_isTrue {e : Expr} {t : Sem Value} {Q : Bool → Rho → Led → Prop} (h : W w A h₀ env ρ σ (isTrue e env' t) Q) : W w A h₀ env ρ σ (isTrue e env' t) Q := h
theorem g_loadName {x : Str} {Q : Value → Rho → Led → Prop} (h : W w A h₀ env ρ σ (loadName env' x) Q) : W w A h₀ env ρ σ (loadName env' x) Q := h
theorem g_inOrder {t : List (Value → Sem Unit)} {v : List Value} {Q : Unit → Rho → Led → Prop} (h : W w A h₀ env ρ σ (assignInOrder t v) Q) : W w A h₀ env ρ σ (assignInOrder t v) Q := h
end
end Mine
end

section
open PySem PySem.W PyProof.Rows PySem.Calls PySem.Builtin
set_option maxRecDepth 100000
set_option maxHeartbeats 2000000
set_option linter.unusedVariables false
namespace Mine
theorem slot_mdget : Slot "method_descriptor" "__get__" "method_descriptor.__get__" :=
  .of (owner := "method_descriptor") (n := "__get__") (by rw [typeLookup_type, builtinLookup_eq_fast]; kernel_rfl) (by decide +kernel) (by decide +kernel) (by decide +kernel)
    (by first | exact .inl (by decide +kernel) | exact .inr (by decide +kernel)) (by rw [isSubtype_type]; kernel_rfl)
theorem entry_mdget : entryFor table "method_descriptor.__get__" = some Builtin.«method_descriptor.__get__» := entryFor_of_tree (by kernel_rfl)
theorem args_mdget (a b c : Value) : argsOk "method_descriptor.__get__" ⟨[a, b, c], []⟩ := by unfold argsOk; rw [S.signatureZ_eq, PySem.W.Fast.te16078263539434579649]; kernel_rfl
theorem md_set : typeLookup (.type "method_descriptor") "__set__" = pure none := by rw [typeLookup_type, builtinLookup_eq_fast]; kernel_rfl
theorem md_del : typeLookup (.type "method_descriptor") "__delete__" = pure none := by rw [typeLookup_type, builtinLookup_eq_fast]; kernel_rfl
theorem sub_ll : isSubtype (.type "list") (.type "list") = pure true := by rw [isSubtype_type]; kernel_rfl
theorem gb_append {prog : Program} {w : World} {A : Around} {E : Value → Shared → Prop} {s : Shared} {a : Addr} {o : Obj} {Q : Value → Shared → Prop} (ho : s.heap.get? a = some o) (hc : o.cls = .type "list") (hd : o.dict = none) (hdat : ∃ xs n, o.data = .seq xs n)
    (h : ∀ tk, Q (.ref s.heap.objs.size) { s with heap := s.heap.push { cls := .type "builtin_function_or_method", data := .fields #[.builtin "list.append", .ref a] }, toks := tk }) : wpAny (model prog w) A (getAttr (.ref a) "append" true) Q E s := by
  obtain ⟨c, dct, dat, sl⟩ := o
  obtain ⟨xs, n, rfl⟩ := hdat
  simp only at hc hd
  subst hc hd
  obtain ⟨hp, g, d, tk, os⟩ := s
  have hT : ∀ tk', (⟨hp, g, d, tk', os⟩ : Shared).TypeIs (.ref a) "list" := fun _ => ⟨_, ho, rfl⟩
  have f3 := PySem.F.slot_list_getattribute.lookup
  have f4 := PySem.F.slot_list_getattribute.bind (.ref a)
  have f5 := am_list_getattr_none
  have f6 := PySem.F.slot_list_append.lookup
  have f7 := PySem.F.type_list_append
  have f8 := slot_mdget.lookup
  have f9 := md_set
  have f10 := md_del
  unfold getAttr getAttrBy
  repeat' (first | (first | with_reducible (first | refine wpAny_pure ?_ | refine wpAny_bind ?_ | refine wpAny_holding ?_ | refine wpAny_of_eq (by assumption) ?_ | refine wpAny_rule ?_ | refine wpAny_specialOf_val (by assumption) (by assumption) ?_ | refine wpAny_fresh' ?_ | refine wpAny_alloc' ?_ | refine wpAny_attempt ?_ | refine wpAny_call ?_ | refine wpAny_loadPart' (by assumption) ?_ | refine wpAny_load' (by assumption) ?_ | refine wpAny_typeOf (by assumption) ?_ | refine wpAny_specialOf (by assumption) (by assumption) ?_ | refine wpAny_isInstance_val (by assumption) (by assumption) ?_ | refine wpAny_isInstance (by assumption) (by assumption) ?_ | refine wpAny_standAt ?_ | refine wpAny_point ?_ | refine wpAny_letGo ?_ | refine wpAny_runValue ?_ | refine wpAny_run ?_) | ((with_reducible refine wpAny_ite_false ?_ ?_); focus (rfl; done)) | ((with_reducible refine wpAny_ite_true ?_ ?_); focus (rfl; done)) | wp_delta | with_reducible_and_instances (first | refine wpAny_pure ?_ | refine wpAny_bind ?_)) | with_reducible assumption | with_reducible exact hT _)
  refine codeAny_call_builtin PySem.F.slot_list_getattribute.plain am_entry_list_getattribute (PySem.F.slot_list_getattribute.check _ _ _ _ _ _ _ _ (hT _) (PySem.F.args_list_getattribute_2 _ _) ?_)
  unfold Builtin.«object.__getattribute__»
  repeat' (first | (first | with_reducible (first | refine wpAny_pure ?_ | refine wpAny_bind ?_ | refine wpAny_holding ?_ | refine wpAny_of_eq (by assumption) ?_ | refine wpAny_rule ?_ | refine wpAny_specialOf_val (by assumption) (by assumption) ?_ | refine wpAny_fresh' ?_ | refine wpAny_alloc' ?_ | refine wpAny_attempt ?_ | refine wpAny_call ?_ | refine wpAny_loadPart' (by assumption) ?_ | refine wpAny_load' (by assumption) ?_ | refine wpAny_typeOf (by assumption) ?_ | refine wpAny_specialOf (by assumption) (by assumption) ?_ | refine wpAny_isInstance_val (by assumption) (by assumption) ?_ | refine wpAny_isInstance (by assumption) (by assumption) ?_ | refine wpAny_standAt ?_ | refine wpAny_point ?_ | refine wpAny_letGo ?_ | refine wpAny_runValue ?_ | refine wpAny_run ?_) | ((with_reducible refine wpAny_ite_false ?_ ?_); focus (rfl; done)) | ((with_reducible refine wpAny_ite_true ?_ ?_); focus (rfl; done)) | wp_delta | with_reducible_and_instances (first | refine wpAny_pure ?_ | refine wpAny_bind ?_)) | with_reducible assumption | with_reducible exact hT _)
  refine codeAny_call_builtin slot_mdget.plain entry_mdget (slot_mdget.check _ _ _ _ _ _ _ _ PySem.F.type_list_append (args_mdget _ _ _) ?_)
  unfold Builtin.«method_descriptor.__get__»
  repeat' (first | (first | with_reducible (first | refine wpAny_pure ?_ | refine wpAny_bind ?_ | refine wpAny_holding ?_ | refine wpAny_of_eq (by assumption) ?_ | refine wpAny_rule ?_ | refine wpAny_specialOf_val (by assumption) (by assumption) ?_ | refine wpAny_fresh' ?_ | refine wpAny_alloc' ?_ | refine wpAny_attempt ?_ | refine wpAny_call ?_ | refine wpAny_loadPart' (by assumption) ?_ | refine wpAny_load' (by assumption) ?_ | refine wpAny_typeOf (by assumption) ?_ | refine wpAny_specialOf (by assumption) (by assumption) ?_ | refine wpAny_isInstance_val (by assumption) (by assumption) ?_ | refine wpAny_isInstance (by assumption) (by assumption) ?_ | refine wpAny_standAt ?_ | refine wpAny_point ?_ | refine wpAny_letGo ?_ | refine wpAny_runValue ?_ | refine wpAny_run ?_) | ((with_reducible refine wpAny_ite_false ?_ ?_); focus (rfl; done)) | ((with_reducible refine wpAny_ite_true ?_ ?_); focus (rfl; done)) | wp_delta | with_reducible_and_instances (first | refine wpAny_pure ?_ | refine wpAny_bind ?_)) | with_reducible assumption | with_reducible exact hT _)
  have hown : ".".intercalate ("list.append".cutAt '.').dropLast = "list" := by decide +kernel
  rw [hown]
  have f11 := sub_ll
  repeat' (first | (first | with_reducible (first | refine wpAny_pure ?_ | refine wpAny_bind ?_ | refine wpAny_holding ?_ | refine wpAny_of_eq (by assumption) ?_ | refine wpAny_rule ?_ | refine wpAny_specialOf_val (by assumption) (by assumption) ?_ | refine wpAny_fresh' ?_ | refine wpAny_alloc' ?_ | refine wpAny_attempt ?_ | refine wpAny_call ?_ | refine wpAny_loadPart' (by assumption) ?_ | refine wpAny_load' (by assumption) ?_ | refine wpAny_typeOf (by assumption) ?_ | refine wpAny_specialOf (by assumption) (by assumption) ?_ | refine wpAny_isInstance_val (by assumption) (by assumption) ?_ | refine wpAny_isInstance (by assumption) (by assumption) ?_ | refine wpAny_standAt ?_ | refine wpAny_point ?_ | refine wpAny_letGo ?_ | refine wpAny_runValue ?_ | refine wpAny_run ?_) | ((with_reducible refine wpAny_ite_false ?_ ?_); focus (rfl; done)) | ((with_reducible refine wpAny_ite_true ?_ ?_); focus (rfl; done)) | wp_delta | with_reducible_and_instances (first | refine wpAny_pure ?_ | refine wpAny_bind ?_)) | with_reducible assumption | with_reducible exact hT _)
  exact h _
end Mine
end

section
open PySem PySem.W PyProof.Rows PySem.Calls PySem.Builtin
set_option maxRecDepth 100000
set_option maxHeartbeats 2000000
set_option linter.unusedVariables false
namespace Mine
noncomputable abbrev bobj (id : String) (self : Value) : Obj := { cls := .type "builtin_function_or_method", data := .fields #[.builtin id, self] }
theorem sub_lm : isSubtype (.type "list") (.type "module") = pure false := by rw [isSubtype_type]; kernel_rfl
theorem kind_append : builtinKind "list.append" = some .method := by rw [PySem.W.Fast.te11380579304954806539]; kernel_rfl
abbrev boundOk (T id : String) (args : Args) : Prop := (match Manifest.signature? id with | some sig => Bind.checkArgs id { sig with full := s!"{Bind.lastOf T}.{Bind.lastOf id}" } args | none => pure ()) = pure ()
theorem cb_method {prog : Program} {w : World} {A : Around} {E : Value → Shared → Prop} {s : Shared} {id T : String} {D : Addr} {o : Obj} {rest : List Value} {Q : Unit → Shared → Prop} (hk : builtinKind id = some .method) (ho : s.heap.get? D = some o) (hc : o.cls = .type T) (hd : (match o.data with | .cls _ => true | _ => false) = false)
    (hm : isSubtype (.type T) (.type "module") = pure false) (hv : Manifest.varargsMethods.contains id = false) (ha : boundOk T id ⟨.ref D :: rest, []⟩) (h : Q () s) : wpAny (model prog w) A (checkBoundCall id ⟨.ref D :: rest, []⟩) Q E s := by
  have hT : s.TypeIs (.ref D) T := ⟨o, ho, hc⟩
  unfold checkBoundCall
  cases hs : Manifest.signature? id with
  | none => exact wpAny_pure h
  | some sig =>
    unfold boundOk at ha
    rw [hs] at ha
    rw [hk]
    dsimp only at ha ⊢
    rw [hv]
    obtain ⟨hp, g, d, tk, os⟩ := s
    repeat' (first | (first | with_reducible (first | refine wpAny_pure ?_ | refine wpAny_bind ?_ | refine wpAny_holding ?_ | refine wpAny_of_eq (by assumption) ?_ | refine wpAny_rule ?_ | refine wpAny_specialOf_val (by assumption) (by assumption) ?_ | refine wpAny_fresh' ?_ | refine wpAny_alloc' ?_ | refine wpAny_attempt ?_ | refine wpAny_call ?_ | refine wpAny_loadPart' (by assumption) ?_ | refine wpAny_load' (by assumption) ?_ | refine wpAny_typeOf (by assumption) ?_ | refine wpAny_specialOf (by assumption) (by assumption) ?_ | refine wpAny_isInstance_val (by assumption) (by assumption) ?_ | refine wpAny_isInstance (by assumption) (by assumption) ?_ | refine wpAny_standAt ?_ | refine wpAny_point ?_ | refine wpAny_letGo ?_ | refine wpAny_runValue ?_ | refine wpAny_run ?_) | ((with_reducible refine wpAny_ite_false ?_ ?_); focus (rfl; done)) | ((with_reducible refine wpAny_ite_true ?_ ?_); focus (rfl; done)) | wp_delta | with_reducible_and_instances (first | refine wpAny_pure ?_ | refine wpAny_bind ?_)) | with_reducible assumption | with_reducible exact hT)
    refine wpAny_ite_false (decide_eq_false fun e => Bool.noConfusion (hd.symm.trans e)) ?_
    repeat' (first | (first | with_reducible (first | refine wpAny_pure ?_ | refine wpAny_bind ?_ | refine wpAny_holding ?_ | refine wpAny_of_eq (by assumption) ?_ | refine wpAny_rule ?_ | refine wpAny_specialOf_val (by assumption) (by assumption) ?_ | refine wpAny_fresh' ?_ | refine wpAny_alloc' ?_ | refine wpAny_attempt ?_ | refine wpAny_call ?_ | refine wpAny_loadPart' (by assumption) ?_ | refine wpAny_load' (by assumption) ?_ | refine wpAny_typeOf (by assumption) ?_ | refine wpAny_specialOf (by assumption) (by assumption) ?_ | refine wpAny_isInstance_val (by assumption) (by assumption) ?_ | refine wpAny_isInstance (by assumption) (by assumption) ?_ | refine wpAny_standAt ?_ | refine wpAny_point ?_ | refine wpAny_letGo ?_ | refine wpAny_runValue ?_ | refine wpAny_run ?_) | ((with_reducible refine wpAny_ite_false ?_ ?_); focus (rfl; done)) | ((with_reducible refine wpAny_ite_true ?_ ?_); focus (rfl; done)) | wp_delta | with_reducible_and_instances (first | refine wpAny_pure ?_ | refine wpAny_bind ?_)) | with_reducible assumption | with_reducible exact hT)
theorem cb_slot {prog : Program} {w : World} {A : Around} {E : Value → Shared → Prop} {s : Shared} {id : String} {v : Value} {rest : List Value} {Q : Unit → Shared → Prop} (hk : builtinKind id = some .slot) (ha : argsOk id ⟨v :: rest, []⟩) (h : Q () s) : wpAny (model prog w) A (checkBoundCall id ⟨v :: rest, []⟩) Q E s := by
  unfold argsOk at ha
  unfold checkBoundCall
  cases hs : Manifest.signature? id with
  | none => exact wpAny_pure h
  | some sig =>
    rw [hs] at ha
    rw [hk]
    dsimp only at ha ⊢
    show wpAny _ _ (Bind.checkArgs id sig _) _ _ _
    rw [ha]
    exact wpAny_pure h
theorem var_append : Manifest.varargsMethods.contains "list.append" = false := by decide +kernel
theorem bok_append (D : Addr) (v : Value) : boundOk "list" "list.append" ⟨[.ref D, v], []⟩ := by unfold boundOk; rw [S.signatureZ_eq, PySem.W.Fast.te16078263539434579649]; kernel_rfl
theorem cba {prog : Program} {w : World} {A : Around} {E : Value → Shared → Prop} {s : Shared} {D : Addr} {v : Value} {xs : Array Value} {n : Nat} {Q : Unit → Shared → Prop} (hD : s.heap.get? D = some { cls := .type "list", data := .seq xs n }) (h : Q () s) : wpAny (model prog w) A (checkBoundCall "list.append" ⟨[.ref D, v], []⟩) Q E s := by
  have hc := bok_append D v
  with_reducible exact cb_method kind_append hD rfl rfl sub_lm var_append hc h
theorem bound_call {prog : Program} {w : World} {A : Around} {s : Shared} {B D : Addr} {v : Value} {xs : Array Value} {n : Nat} {R : Result → Shared → Prop} (hB : s.heap.get? B = some (bobj "list.append" (.ref D))) (hD : s.heap.get? D = some { cls := .type "list", data := .seq xs n })
    (h : codeAny (model prog w) A (.builtin "list.append" ⟨[.ref D, v], []⟩) R s) : codeAny (model prog w) A (.call (.ref B) ⟨[v], []⟩) R s := by
  refine codeAny_of_tree ?_
  show wpAny _ _ (callAny (.ref B) _) _ _ _
  unfold callAny
  refine wpAny_bind (wpAny_load hB ?_)
  dsimp only
  show wpAny _ _ (checkBoundCall "list.append" ⟨[.ref D, v], []⟩ >>= _) _ _ _
  with_reducible refine wpAny_bind (cba hD ?_)
  exact wpAny_pure ⟨Code.quiet_builtin _ (by decide +kernel), h⟩
theorem keeps_B {M : Model} {id : String} {self : Value} {B : Addr} (h : Heap) (X : h.get? B = some (bobj id self)) : ∃ k, (k = Keeper.frame ∨ k = Keeper.machine ∨ k = Keeper.boundFrame) ∧ Looks M h (keeperOf (.ref B)) k :=
  ⟨.machine, .inr (.inl rfl), (Looks.ld (part := none) X).andThen .now⟩
section
variable {w : World} {A : Around} {h₀ h h' : Heap} {env : Env} {ρ : Rho} {σ : Led}
theorem w_boundAppend {a : Addr} {o : Obj} {vs : List Value} {Q : Value → Rho → Led → Prop} (hk : Kn h₀ σ a o) (hl : LObj o vs) (h : ∀ B, Q (.ref B) ρ ((B, bobj "list.append" (.ref a)) :: σ)) : W w A h₀ env ρ σ (getAttr (.ref a) "append" true) Q := fun s ht F => by
  obtain ⟨n, rfl⟩ := hl
  exact gb_append (F.kn hk) rfl rfl ⟨_, _, rfl⟩ fun tk => ⟨ρ, _, _, tk, rfl, F.push _ rfl, h _⟩
theorem w_callBoundB {pos : Pos} {B : Addr} {id : String} {self : Value} {e : Expr} {rest : List Expr} {Q : Value → Rho → Led → Prop} (hB : (B, bobj id self) ∈ σ)
    (h : W w A h₀ env ρ σ (spliced (backTo pos (starEach (e :: rest) env))) fun vs ρ₁ σ₁ => (B, bobj id self) ∈ σ₁ ∧ W w A h₀ env ρ₁ σ₁ (PySem.call (.ref B) vs) Q)
    (he : starEach (e :: rest) env = (false, eval e env) :: starEach rest env := by rfl) (hplain : (backTo pos (starEach rest env)).any (·.1) = false := by rfl) :
    W w A h₀ env ρ σ (callWith pos (.ref B) [] (backTo pos (starEach (e :: rest) env)) []) Q := fun s ht F => by
  have h2 := W.step (R := fun vs s₁ => s₁.heap.get? B = some (bobj id self) ∧ wpAny (model PP w) A (PySem.call (.ref B) ([] ++ vs)) (Post h₀ env s Q) (fun _ _ => False) s₁) h ht F fun vs ρ' σ' h' tk htk _ F' q => ⟨F'.get q.1, q.2.at htk F'⟩
  rw [he] at h2 ⊢
  exact callWith_of (P := fun h => h.get? B = some (bobj id self)) (by show ((false || (backTo pos (starEach rest env)).any (·.1)) || false) = false; rw [hplain]; rfl) (fun h X => keeps_B h X) (evalArgs_plain h2)
theorem w_addBound {B D : Addr} {o : Obj} {vs : List Value} {f : Obj → Led} {v : Value} {Q : Value → Rho → Led → Prop} (hB : (B, bobj "list.append" (.ref D)) ∈ σ) (hL : LObj o vs) (hz : vs.length ≤ 1000000) (U : ∀ o', Upd D o o' σ (f o'))
    (h : ∀ o', LObj o' (vs ++ [v]) → Q .none ρ (f o')) : W w A h₀ env ρ σ (PySem.call (.ref B) [v]) Q := fun s ht F => by
  obtain ⟨n, rfl⟩ := hL
  have ho := F.get (U { cls := .none, data := .freed }).mem
  have e : Obj.mapSeq (fun xs => xs.push v) { cls := .type "list", data := .seq vs.toArray n } = { cls := .type "list", data := .seq (vs ++ [v]).toArray (if (vs ++ [v]).toArray.size == vs.toArray.size then n else n + 1) } := by
    have e2 : vs.toArray.push v = (vs ++ [v]).toArray := by simp
    rw [← e2]; rfl
  refine wpAny_call (bound_call (F.get hB) ho (codeAny_builtin PySem.F.entry_list_append (PySem.list_append D vs.toArray n v (by rw [sizeLine_eq]; simp; exact Nat.le_trans (by assumption) (by decide)) PP w _ (wants (Post h₀ env s Q) fun _ _ => False) s ⟨ho, ?_⟩)))
  exact ⟨ρ, _, _, s.toks, rfl, F.upd (U _) (by rw [e]; rfl), h _ ⟨_, e⟩⟩
end
end Mine
end

section
open PySem PySem.W PyProof.Rows PySem.Calls
set_option maxRecDepth 100000
set_option maxHeartbeats 4000000
set_option linter.unusedVariables false
namespace Mine
section
variable {w : World} {A : Around} {h₀ h h' : Heap} {env : Env} {ρ : Rho} {σ : Led}
/-- what an f-string's parts make, one behind the other -/
noncomputable def WJ (w : World) (A : Around) (h₀ : Heap) (env : Env) : List (Sem Value) → Str → (Str → Rho → Led → Prop) → Rho → Led → Prop
  | [], acc, Q, ρ, σ => Q acc ρ σ
  | x :: rest, acc, Q, ρ, σ => W w A h₀ env ρ σ x fun v ρ' σ' => ∃ y t, v = .str y t ∧ (acc ++ y).length ≤ 1000000 ∧ WJ w A h₀ env rest (acc ++ y) Q ρ' σ'
theorem joins_of {s₀ : Shared} {Q : Value → Rho → Led → Prop} (l : List (Sem Value)) (acc : Str) (ρ : Rho) (σ : Led) (h' : Heap) (tk : Nat) (ht : 0 < tk) (F : FS h₀ env ρ σ h') (hz : acc.length ≤ 1000000) (hw : WJ w A h₀ env l acc (fun out ρ σ => ∀ t, Q (.str out t) ρ σ) ρ σ) :
    Joins (model PP w) A (fun _ _ => False) l acc (fun out s₁ => out.length ≤ sizeLine ∧ Post h₀ env s₀ Q (.str out s₁.toks) { s₁ with toks := s₁.toks + 1 }) { s₀ with heap := h', toks := tk } := by
  induction l generalizing acc ρ σ h' tk with
  | nil => exact ⟨by rw [sizeLine_eq]; exact Nat.le_trans (by assumption) (by decide), ρ, σ, h', _, rfl, F, hw _⟩
  | cons x rest ih =>
    refine W.step (s := { s₀ with heap := h', toks := tk }) hw ht F fun v ρ' σ' h'' tk'' ht'' _ F'' q => ?_
    obtain ⟨y, t, e, hz', hr⟩ := q
    exact ⟨y, t, e, by rw [sizeLine_eq]; exact Nat.le_trans hz' (by decide), ih (acc ++ y) ρ' σ' h'' tk'' ht'' F'' hz' hr⟩
theorem w_fstr {v₁ v₂ : Expr} {rest : List Expr} {pos : Pos} {Q : Value → Rho → Led → Prop} (h : WJ w A h₀ env (evalEach (v₁ :: v₂ :: rest) env) Str.empty (fun out ρ σ => ∀ t, Q (.str out t) ρ σ) ρ σ) : W w A h₀ env ρ σ (eval (.JoinedStr (v₁ :: v₂ :: rest) pos) env) Q := fun s ht F =>
  wpAny_JoinedStr (joins_of (s₀ := s) _ _ ρ σ s.heap s.toks ht F (by decide) h)
theorem w_fval {value : Expr} {pos : Pos} {Q : Value → Rho → Led → Prop} (h : W w A h₀ env ρ σ (eval value env) fun v ρ' σ' => ∃ x t, v = .str x t ∧ x.length ≤ 1000000 ∧ ∀ t', Q (.str x t') ρ' σ') : W w A h₀ env ρ σ (eval (.FormattedValue value (-1) none pos) env) Q := fun s ht F => by
  refine PyProof.Rows.FormattedValue_plain (W.step h ht F fun v ρ' σ' h' tk htk _ F' qq8 => ?_)
  obtain ⟨x, t, e, hz, q⟩ := qq8
  subst e
  exact formatField_str (fun t' tk' => ⟨ρ', σ', h', tk', rfl, F', q t'⟩) (by rw [sizeLine_eq]; lia)

/-! is -/
theorem w_isNotPlain {a b : Value} {Q : Value → Rho → Led → Prop} (hp : plainIs a b = true) (h : Q (.bool (!(a == b))) ρ σ) : W w A h₀ env ρ σ (compareOp .IsNot a b) Q := fun s ht F => wpAny_isNot_plain hp (Post.now F h)
theorem w_isSelf {x : Addr} {Q : Value → Rho → Led → Prop} (h : Q (.bool true) ρ σ) : W w A h₀ env ρ σ (compareOp .Is (.ref x) (.ref x)) Q := fun s ht F => wpAny_is_ref_self (Post.now F h)
theorem w_isNotSelf {x : Addr} {Q : Value → Rho → Led → Prop} (h : Q (.bool false) ρ σ) : W w A h₀ env ρ σ (compareOp .IsNot (.ref x) (.ref x)) Q := fun s ht F => wpAny_isNot_ref_self (Post.now F h)
theorem w_isNone {v : Value} {Q : Value → Rho → Led → Prop} (h : Q (.bool (v == .none)) ρ σ) : W w A h₀ env ρ σ (compareOp .Is v .none) Q := fun s ht F => is_none_gen (Post.now F h)
theorem w_isNotNone {v : Value} {Q : Value → Rho → Led → Prop} (h : Q (.bool (!(v == .none))) ρ σ) : W w A h₀ env ρ σ (compareOp .IsNot v .none) Q := fun s ht F => isnot_none_gen (Post.now F h)
end
end Mine
end

section
open PySem PySem.W PyProof.Rows PySem.Calls PySem.Builtin
set_option maxRecDepth 100000
set_option maxHeartbeats 1000000
set_option linter.unusedVariables false
namespace Mine
theorem mro_object : mroOf (.type "object") = pure [.type "object"] := by rw [mroOf_type]; kernel_rfl
theorem lookup_object_new : typeLookup (.type "object") "__new__" = pure (some (.builtin "object.__new__")) := by rw [typeLookup_type, builtinLookup_eq_fast]; kernel_rfl
theorem made_object : Bind.madeBy (.type "object") = pure (some "object.__new__") := madeBy_type mro_object lookup_object_new (by decide +kernel)
theorem sub_object : isSubtype (.type "object") (.type "object") = pure true := by rw [isSubtype_type]; kernel_rfl
theorem slot_object_init : Slot "object" "__init__" "object.__init__" :=
  .of (owner := "object") (n := "__init__") (by rw [typeLookup_type, builtinLookup_eq_fast]; kernel_rfl) (by decide +kernel) (by decide +kernel) (by decide +kernel)
    (by first | exact .inl (by decide +kernel) | exact .inr (by decide +kernel)) sub_object
theorem called_object : TypeCalled "object" "object.__new__" "object.__init__" := ⟨by decide +kernel, by decide +kernel, ⟨_, _, mro_object⟩, made_object, by decide +kernel, sub_object, slot_object_init⟩
theorem typeCall_object : checkTypeCall "object" ⟨[], []⟩ = pure () := by rw [PySem.W.Fast.te11612656972197000677]; kernel_rfl
theorem newCall_object : checkBuiltinCall "object.__new__" ⟨[.type "object"], []⟩ = pure () := by rw [PySem.W.Fast.te10254737850608025244]; kernel_rfl
theorem entry_object_new : entryFor table "object.__new__" = some Builtin.«object.__new__» := entryFor_of_tree (by kernel_rfl)
theorem args_oi (a : Value) : argsOk "object.__init__" ⟨[a], []⟩ := by unfold argsOk; rw [S.signatureZ_eq, PySem.W.Fast.te16078263539434579649]; kernel_rfl
theorem meets_object_new : Meets (Builtin.«object.__new__» ⟨[.type "object"], []⟩) (fun _ R s => R (.ok (.ret (.ref s.heap.objs.size))) { s with heap := s.heap.push { cls := .type "object", data := .plain } }) := by
  refine Meets.of_wp fun prog w A R s hs => ?_
  unfold Builtin.«object.__new__»
  have f1 := made_object
  have f2 : Bind.madeHere "object.__new__" (.type "object") = pure () := by rw [PySem.W.Fast.te7909335148693498415]; kernel_rfl
  repeat' (first | (first | with_reducible (first | refine wpAny_pure ?_ | refine wpAny_bind ?_ | refine wpAny_holding ?_ | refine wpAny_of_eq (by assumption) ?_ | refine wpAny_rule ?_ | refine wpAny_specialOf_val (by assumption) (by assumption) ?_ | refine wpAny_fresh' ?_ | refine wpAny_alloc' ?_ | refine wpAny_attempt ?_ | refine wpAny_call ?_ | refine wpAny_loadPart' (by assumption) ?_ | refine wpAny_load' (by assumption) ?_ | refine wpAny_typeOf (by assumption) ?_ | refine wpAny_specialOf (by assumption) (by assumption) ?_ | refine wpAny_isInstance_val (by assumption) (by assumption) ?_ | refine wpAny_isInstance (by assumption) (by assumption) ?_ | refine wpAny_standAt ?_ | refine wpAny_point ?_ | refine wpAny_letGo ?_ | refine wpAny_runValue ?_ | refine wpAny_run ?_) | ((with_reducible refine wpAny_ite_false ?_ ?_); focus (rfl; done)) | ((with_reducible refine wpAny_ite_true ?_ ?_); focus (rfl; done)) | wp_delta | with_reducible_and_instances (first | refine wpAny_pure ?_ | refine wpAny_bind ?_)) | with_reducible assumption)
  exact ⟨_, rfl, hs⟩
noncomputable abbrev objO : Obj := { cls := .type "object", data := .plain }
theorem call_object {prog : Program} {w : World} {A : Around} {E : Value → Shared → Prop} {s : Shared} {Q : Value → Shared → Prop} (h : Q (.ref s.heap.objs.size) { s with heap := s.heap.push objO }) : wpAny (model prog w) A (call (.type "object") []) Q E s :=
  callType_meets (Q₁ := fun v s' => v = .ref s.heap.objs.size ∧ s' = { s with heap := s.heap.push objO }) called_object typeCall_object newCall_object entry_object_new PySem.F.entry_object_init meets_object_new ⟨rfl, rfl⟩ fun obj s₁ ⟨e1, e2⟩ => by
    subst e1 e2
    refine ⟨⟨_, Heap.get?_push_size _ rfl, rfl⟩, args_oi _, fun A R s => R (.ok (.ret .none)) s, Meets.of_wp fun prog w A R s hs => wpAny_pure ⟨_, rfl, hs⟩, ?_⟩
    exact ⟨rfl, h⟩
section
variable {w : World} {A : Around} {h₀ h h' : Heap} {env : Env} {ρ : Rho} {σ : Led}
theorem w_callT0 {pos : Pos} {T : String} {Q : Value → Rho → Led → Prop} (h : W w A h₀ env ρ σ (PySem.call (.type T) []) Q) : W w A h₀ env ρ σ (callWith pos (.type T) [] (backTo pos (starEach [] env)) []) Q := fun s ht F =>
  PySem.callWith_type rfl (evalArgs_nil3 (h s ht F))
theorem w_object {Q : Value → Rho → Led → Prop} (h : ∀ D, Q (.ref D) ρ ((D, objO) :: σ)) : W w A h₀ env ρ σ (PySem.call (.type "object") []) Q := fun s ht F => call_object ⟨ρ, _, _, s.toks, rfl, F.push _ rfl, h _⟩
end
end Mine
end

section
open PySem PySem.W PyProof.Rows PySem.Calls
set_option maxRecDepth 100000
set_option maxHeartbeats 4000000
set_option linter.unusedVariables false
namespace Mine
theorem Al.last {α : Type} {V : α → Value → Prop} {xs : List α} {vs : List Value} (h : Al V xs vs) (k : vs ≠ []) : ∃ xs' x vs' v, xs = xs' ++ [x] ∧ vs = vs' ++ [v] ∧ V x v ∧ Al V xs' vs' := by
  induction h with
  | nil => exact absurd rfl k
  | @cons x v xs vs a r ih =>
    by_cases hv : vs = []
    · subst hv
      cases r
      exact ⟨[], x, [], v, rfl, rfl, a, .nil⟩
    · obtain ⟨xs', z, vs', u, rfl, rfl, q, s⟩ := ih hv
      exact ⟨x :: xs', z, v :: vs', u, rfl, rfl, q, .cons a s⟩
section
variable {w : World} {A : Around} {h₀ h h' : Heap} {env : Env} {ρ : Rho} {σ : Led}
theorem w_assignTS {elts : List Expr} {k : Nat} {tpos : Pos} {value : Expr} {pos : Pos} {names : List Str} {Q : Flow → Rho → Led → Prop}
    (hs : swapsWithSole [.Tuple elts k tpos] value pos.line env = pure false)
    (hw : swappedStores [.Tuple elts k tpos] value env = pure (some names))
    (h : W w A h₀ env ρ σ (eval value env) fun v ρ' σ' => ∃ T o vs, A.handled = none ∧ v = .ref T ∧ Kn h₀ σ' T o ∧ TObj o vs ∧ vs.length = names.length ∧
      W w A h₀ env ρ' σ' (assignInOrder (names.reverse.map fun n => bindName env n) vs.reverse) fun _ => Q .next) : W w A h₀ env ρ σ (exec (.Assign [.Tuple elts k tpos] value pos) env) Q := fun s ht F => by
  refine Assign_Tuple_swapped (W.step h ht F fun v ρ' σ' h' tk htk _ F' qq8 => ?_) hs hw
  obtain ⟨T, o, vs, hh, e, hk, hT, hl, q⟩ := qq8
  subst e
  rw [← hl, ← List.size_toArray]
  refine wpAny_unpackItems_tuple hh ⟨o, F'.kn hk, hT.1, hT.2⟩ fun h'' hx => ?_
  have st : h'.StaysIn h'' := fun b o e => hx b o (Nat.ne_of_lt (Heap.lt_size e)) e
  exact wpAny_mono (q.at (s := s) (tk := tk) htk (F'.stays st)) (fun _ _ p => p) fun _ _ x => x
theorem w_bind {x : Str} {v : Value} {Q : Unit → Rho → Led → Prop} (h : W w A h₀ env ρ σ (storeName env x v) Q) : W w A h₀ env ρ σ (bindName env x v) Q := fun s ht F => wpAny_bindName (h s ht F)
theorem w_assign2 (a b : Str) {elts : List Expr} {k : Nat} {tpos : Pos} {value : Expr} {pos : Pos} {Q : Flow → Rho → Led → Prop}
    (hs : swapsWithSole [.Tuple elts k tpos] value pos.line env = pure false)
    (hw : swappedStores [.Tuple elts k tpos] value env = pure (some [a, b]))
    (h : W w A h₀ env ρ σ (eval value env) fun v ρ' σ' => ∃ T o v1 v2, A.handled = none ∧ v = .ref T ∧ Kn h₀ σ' T o ∧ TObj o [v1, v2] ∧
      W w A h₀ env ρ' σ' (storeName env b v2) fun _ ρ₁ σ₁ => W w A h₀ env ρ₁ σ₁ (storeName env a v1) fun _ => Q .next) : W w A h₀ env ρ σ (exec (.Assign [.Tuple elts k tpos] value pos) env) Q :=
  w_assignTS hs hw (h.mono fun v ρ' σ' q => by
    obtain ⟨T, o, v1, v2, e1, e2, e3, e4, q⟩ := q
    exact ⟨T, o, [v1, v2], e1, e2, e3, e4, rfl, w_inOrder (t := bindName env b) (ts := [bindName env a]) (v := v2) (vs := [v1]) (w_bind (q.mono fun _ ρ₁ σ₁ q => w_inOrder (t := bindName env a) (ts := []) (v := v1) (vs := []) (w_bind (q.mono fun _ ρ₂ σ₂ q => w_inOrder0 q))))⟩)
theorem w_whileX {test : Expr} {body : List Stmt} {pos : Pos} {Q : Flow → Rho → Led → Prop} (I : Nat → Rho → Led → Prop) (X : Rho → Led → Prop) (n : Nat) (h : I n ρ σ)
    (turn : ∀ n ρ σ, I n ρ σ → W w A h₀ env ρ σ (isTrue test env (eval test env)) fun b ρ' σ' =>
      if b then W w A h₀ env ρ' σ' (execs body env) (FlX I X n Q)
      else X ρ' σ')
    (done : ∀ ρ σ, X ρ σ → Q .next ρ σ) : W w A h₀ env ρ σ (exec (.While test body [] pos) env) Q :=
  W.while I (fun n ρ σ hI => (turn n ρ σ hI).mono fun b ρ' σ' q => by
    cases b with
    | true =>
      have q := (if_pos (c := true = true) rfl) ▸ q
      refine ite_t rfl (q.mono fun f ρ'' σ'' q => ?_)
      cases f with
      | next => exact q
      | cont => exact q
      | brk => exact done _ _ q
      | ret v => exact q
    | false => exact ite_f (by decide) (W.execs_nil (done _ _ q))) n h
theorem wj_cons {v : Expr} {rest : List Expr} {acc : Str} {Q : Str → Rho → Led → Prop} (h : W w A h₀ env ρ σ (eval v env) fun u ρ' σ' => ∃ y t, u = .str y t ∧ (acc ++ y).length ≤ 1000000 ∧ WJ w A h₀ env (evalEach rest env) (acc ++ y) Q ρ' σ')
    (he : evalEach (v :: rest) env = eval v env :: evalEach rest env := by with_unfolding_all rfl) : WJ w A h₀ env (evalEach (v :: rest) env) acc Q ρ σ := by rw [he]; exact h
theorem wj_nil {acc : Str} {Q : Str → Rho → Led → Prop} (h : Q acc ρ σ) (he : evalEach [] env = [] := by with_unfolding_all rfl) : WJ w A h₀ env (evalEach [] env) acc Q ρ σ := by rw [he]; exact h
theorem w_subL {value slice : Expr} {a : Addr} {o : Obj} {vs : List Value} {i : Value} {Q : Value → Rho → Led → Prop} {ops : List Value} (hk : Kn h₀ σ a o) (hl : LW o vs) (h : W w A h₀ env ρ σ (getItem (.ref a) i) Q)
    (hs : subscripted slice false (.ref a) i = operate ops (getItem (.ref a) i) := by with_unfolding_all rfl) : W w A h₀ env ρ σ (subscriptTail value slice (.ref a) i) Q :=
  W.tail (fun s F => (hl.isList (F.kn hk)).typeIs) slot_list_getitem h hs
theorem w_lastL {value slice : Expr} {a : Addr} {o : Obj} {vs : List Value} {v : Value} {t : Tok} {Q : Value → Rho → Led → Prop} {ops : List Value} (hk : Kn h₀ σ a o) (hl : LW o (vs ++ [v])) (hz : vs.length ≤ 100000) (h : Q v ρ σ)
    (hs : subscripted slice false (.ref a) (.int (-1) t) = operate ops (getItem (.ref a) (.int (-1) t)) := by with_unfolding_all rfl) : W w A h₀ env ρ σ (subscriptTail value slice (.ref a) (.int (-1) t)) Q :=
  w_subL hk hl (w_itemLN hk hl (by decide) (by simp; lia) (by simp; exact Nat.le_trans (by assumption) (by decide)) (by
    have e : (-1 + ((vs ++ [v]).length : Int)).toNat = vs.length := by simp; lia
    rw [e]; simp) h) hs
end
end Mine
end

section
open PySem PySem.W PyProof.Rows PySem.Calls
set_option maxRecDepth 100000
set_option maxHeartbeats 4000000
set_option linter.unusedVariables false
namespace Mine
theorem ints_of_al {ns : List Int} {vs : List Value} (h : Al IsI ns vs) : IntsAre vs ns := by
  induction h with
  | nil => exact .nil
  | cons a _ ih => obtain ⟨t, rfl⟩ := a; exact .cons _ t ih
theorem al_of_ints {ns : List Int} {vs : List Value} (h : IntsAre vs ns) : Al IsI ns vs := by
  induction h with
  | nil => exact .nil
  | cons n t _ ih => exact .cons ⟨t, rfl⟩ ih
section
variable {w : World} {A : Around} {h₀ h h' : Heap} {env : Env} {ρ : Rho} {σ : Led}
theorem w_sum {a : Addr} {o : Obj} {vs : List Value} {ns : List Int} {Q : Value → Rho → Led → Prop} (hh : A.handled = none) (hk : Kn h₀ σ a o) (hl : LW o vs) (hi : Al IsI ns vs) (h : ∀ t, Q (.int ns.sum t) ρ σ) : W w A h₀ env ρ σ (PySem.call (.builtin "sum") [.ref a]) Q := fun s ht F => by
  have hi := ints_of_al hi
  have hL := hl.isList (F.kn hk)
  have hall := hi.allInts
  have hn : (numsOf vs.toArray.toList).sum = ns.sum := by rw [show vs.toArray.toList = vs from rfl, hi.numsOf]
  obtain ⟨xs, e⟩ := hall.items
  rw [e] at hL hn
  rw [nums_intItems] at hn
  refine sum_intListG hh hL fun h' tk t' hk' => ?_
  rw [preSum_eq, List.take_of_length_le (by simp), hn]
  exact ⟨ρ, σ, h', tk, rfl, F.stays hk', h t'⟩
theorem ints_ex : ∀ {vs : List Value}, (∀ v ∈ vs, ∃ n t, v = .int n t) → ∃ ns : List Int, Al IsI ns vs
  | [], _ => ⟨[], .nil⟩
  | v :: r, h => by
    obtain ⟨n, t, rfl⟩ := h v (.head _)
    obtain ⟨ns, a⟩ := ints_ex fun v hv => h v (.tail _ hv)
    exact ⟨n :: ns, .cons ⟨t, rfl⟩ a⟩
theorem al_ex {ns : List Int} {vs : List Value} (h : Al IsI ns vs) : ∀ v ∈ vs, ∃ n t, v = .int n t := fun v hv => by
  induction h with
  | nil => cases hv
  | cons a _ ih =>
    cases hv with
    | head => exact ⟨_, a⟩
    | tail _ hv => exact ih hv
theorem pick_mem {items : Array Value} {lo hi st : Option Int} : ∀ v ∈ (slicePick items lo hi st).toList, v ∈ items.toList := by
  intro v hv
  unfold slicePick at hv
  simp only [List.mem_filterMap] at hv
  obtain ⟨i, _, e⟩ := hv
  obtain ⟨h1, h2⟩ := Array.getElem?_eq_some_iff.mp e
  rw [← h2]
  simp
theorem w_subSlW {value slice : Expr} {a : Addr} {o : Obj} {vs : List Value} {I : Addr} {oi : Obj} {lo hi st : Option Int} {Q : Value → Rho → Led → Prop} {vl vu vst : Value} (hs : SlO oi vl vu vst) (hk : Kn h₀ σ a o) (hl : LW o vs) (pl : IsPart vl lo) (pu : IsPart vu hi) (ps : IsPart vst st) (h0 : st ≠ some 0) (hx : vs.length ≤ 1000000)
    (h : ∀ D o', LObj o' (slicePick vs.toArray lo hi st).toList → Q (.ref D) ρ ((D, o') :: (I, oi) :: σ)) {ops : List Value} (ho : subscripted slice false (.ref a) (.ref I) = operate ops (getItem (.ref a) (.ref I)) := by with_unfolding_all rfl) : W w A h₀ env ρ ((I, oi) :: σ) (subscriptTail value slice (.ref a) (.ref I)) Q := by
  have hk' : Kn h₀ ((I, oi) :: σ) a o := hk.imp (.tail _) id
  refine W.tail (fun s F => (hl.isList (F.kn hk')).typeIs) slot_list_getitem (fun s ht F => ?_) ho
  refine wpAny_getItem_list_slice (hl.isList (F.kn hk')) ⟨_, F.get (.head _), by rw [hs], by rw [hs]⟩ pl pu ps h0 ?_ (by rw [sizeLine_eq]; simp; exact Nat.le_trans (by assumption) (by decide))
  exact ⟨ρ, _, _, s.toks, rfl, F.push _ rfl, h _ _ ⟨0, by simp⟩⟩
end
end Mine
end

section
open PySem PySem.W PyProof.Rows PySem.Calls
set_option maxRecDepth 100000
set_option maxHeartbeats 4000000
set_option linter.unusedVariables false
namespace Mine
section
variable {w : World} {h₀ : Heap} {loose : List Str} {mean : ExcName → Option Value} {mg mb : Str → Option Value} {k : Nat} {P : Led → Value → Prop} {σ₀ : Led}
/-- a contract used at a code -/
theorem use_mut {A A' : Around} {env : Env} {ρ : Rho} {σ : Led} {need : Nat} (O : Ok w loose mean mg mb need A env h₀) {k : Nat} {f : Value} {args : List Value} {R : Result → Shared → Prop} {s : Shared}
    (hA : A'.handled = none ∧ A'.frames = A.frames ∧ A'.depth ≤ A.depth + 1 ∧ A'.units ≤ A.units + 7) (ht : 0 < s.toks) (F : FS h₀ env ρ (σ₀ ++ σ) s.heap)
    (C : ∀ h, h₀.StaysIn h → (∀ p ∈ σ, h.get? p.1 = some p.2) → MutC w loose mean mg mb k f args h σ₀ P) (hk : k + 1 ≤ need) (hq : ∀ v tl h' tk, P tl v → FS h₀ env ρ (tl ++ σ) h' → s.toks ≤ tk → R (.ok (.ret v)) { s with heap := h', toks := tk }) : codeAny (model PP w) A' (.call f ⟨args, []⟩) R s := by
  obtain ⟨m, hn, r⟩ := F.ns
  have hL : ∀ p ∈ σ₀, p.1 ≠ env.locals := fun p hp => (F.led p (List.mem_append_left _ hp)).2.2.1
  have out : ∀ a, a ∉ σ₀.map (·.1) → (hides s.heap (σ₀.map (·.1))).get? a = s.heap.get? a := fun a ha => hides_ne _ ha
  have nL : env.locals ∉ σ₀.map (·.1) := fun h1 => by
    obtain ⟨p, hp, e⟩ := List.mem_map.mp h1
    exact hL p hp e
  have nd := F.nd
  rw [List.map_append] at nd
  obtain ⟨nd1, nd2, nd3⟩ := List.nodup_append.mp nd
  have st₀ : h₀.StaysIn (hides s.heap (σ₀.map (·.1))) := fun b o e => by
    rw [out b fun h1 => ?_]
    · exact F.keep b o e
    · obtain ⟨p, hp, e'⟩ := List.mem_map.mp h1
      have := (F.led p (List.mem_append_left _ hp)).2.1
      rw [e', e] at this; cases this
  have inσ : ∀ p ∈ σ, (hides s.heap (σ₀.map (·.1))).get? p.1 = some p.2 := fun p hp => by
    rw [out p.1 fun h1 => nd3 _ h1 _ (List.mem_map.mpr ⟨p, hp, rfl⟩) rfl]
    exact (F.led p (List.mem_append_right _ hp)).1
  have hn' : (hides s.heap (σ₀.map (·.1))).Ns env.locals m := by
    obtain ⟨ob, es, ep, e1, e2⟩ := hn
    exact ⟨ob, es, ep, by rw [out _ nL]; exact e1, e2⟩
  have cells : ∀ x c, env.cells.lookup x = some c → (hides s.heap (σ₀.map (·.1))).IsCell c (ρ x) := fun x c hc => by
    obtain ⟨ob, e1, e2⟩ := F.cell x c hc
    refine ⟨ob, ?_, e2⟩
    rw [out c fun h1 => ?_]
    · exact e1
    · obtain ⟨p, hp, e'⟩ := List.mem_map.mp h1
      exact (F.led p (List.mem_append_left _ hp)).2.2.2 x c hc e'
  obtain ⟨base, fr, hfr, B⟩ := O.bel _ st₀ ⟨m, hn'⟩
  obtain ⟨hd, dp, fr', gd, un⟩ := A'
  obtain ⟨rfl, hA2, hA3, hA4⟩ := hA
  dsimp only at hA2 hA3 hA4
  rw [hfr] at hA2
  subst hA2
  have h1 := O.dp
  have h2 := O.un
  refine C _ st₀ inσ _ un gd fr s _ (fun _ _ e => of_hides _ e) (by rw [hides_size]; exact Nat.le_refl _) ⟨fun p hp => ⟨(F.led p (List.mem_append_left _ hp)).1, hides_mem _ (List.mem_map.mpr ⟨p, hp, rfl⟩)⟩, nd1⟩ ht
    ⟨fun b o e => st₀ b o (O.x b o e), O.t.keeps st₀, ⟨base, ⟨rfl, B.b.stays, B.b.frames⟩, B.x, B.t⟩, ar_d3 (by assumption) (by assumption) (by assumption), ar_u3 (by assumption) (by assumption) (by assumption)⟩ fun v tl h' tk st nw htk p => hq v tl h' tk p ?_ htk
  refine ⟨fun b o e => st b o (st₀ b o e), ⟨m, hn'.keeps st, r⟩, fun x c hc => (cells x c hc).keeps st, F.off, F.coff, F.cne, F.cnd, fun q hq => ?_, ?_⟩
  · rcases List.mem_append.mp hq with hq | hq
    · refine ⟨(nw.1 q hq).1, ?_, fun e => ?_, fun x c hc e => ?_⟩
      · cases e : h₀.get? q.1 with
        | none => rfl
        | some o => have := st₀ _ _ e; rw [(nw.1 q hq).2] at this; cases this
      · obtain ⟨ob, es, ep, e1, e2⟩ := hn'
        have := (nw.1 q hq).2
        rw [e, e1] at this; cases this
      · obtain ⟨ob, e1, e2⟩ := cells x c hc
        have := (nw.1 q hq).2
        rw [e, e1] at this; cases this
    · exact ⟨st _ _ (inσ q hq), (F.led q (List.mem_append_right _ hq)).2⟩
  · rw [List.map_append]
    refine List.nodup_append.mpr ⟨nw.2, nd2, fun a ha b hb e => ?_⟩
    obtain ⟨p, hp, rfl⟩ := List.mem_map.mp ha
    obtain ⟨q, hq, rfl⟩ := List.mem_map.mp hb
    have h1 := (nw.1 p hp).2
    rw [e, inσ q hq] at h1; cases h1

/-- an instance made by its class's own __init__ -/
theorem w_make {A : Around} {env : Env} {ρ : Rho} {σ : Led} {need : Nat} {C fI : Addr} {args : List Value} {P : Addr → Led → Prop} {Q : Value → Rho → Led → Prop} (O : Ok w loose mean mg mb need A env h₀) (hm : makesIn (KB w.params) C = true)
    (hi : findIn (KB w.params) (.ref C) "__init__" = some (some (.ref fI))) (hf : typeIn (KB w.params) (.ref fI) = some (.type "function"))
    (Cn : ∀ x dx h, h₀.StaysIn h → (∀ p ∈ σ, h.get? p.1 = some p.2) → MutC w loose mean mg mb k (.ref fI) (.ref x :: args) h [(x, instObj C dx), (dx, emptyDict)] (fun tl v => v = .none ∧ P x tl)) (hk : k + 1 ≤ need)
    (h : ∀ x tl, P x tl → Q (.ref x) ρ (tl ++ σ)) : W w A h₀ env ρ σ (PySem.call (.ref C) args) Q := fun s ht F => by
  have X : (KB w.params).In s.heap := O.x.keeps F.keep
  have F2 := (F.push emptyDict rfl).push (instObj C s.heap.objs.size) rfl
  rw [Heap.size_push] at F2
  obtain ⟨hh, g, d, t, os⟩ := s
  refine wpAny_call (make_core (makes_of X hm) (looks_findIn X hi) (fun self => bind_fn X self hf) (.inl rfl) ?_)
  refine use_mut (s := ⟨_, g, d, t, os⟩) (σ₀ := [(hh.objs.size + 1, instObj C hh.objs.size), (hh.objs.size, emptyDict)]) O ?_ ht F2 (Cn _ _) hk fun v tl h' tk ⟨e, p⟩ F' htk => ?_
  · exact ⟨O.hh, rfl, (Nat.le_refl (A.depth + 1) : _ ≤ _), (by show A.units + 1 ≤ _; lia)⟩
  · exact ⟨e, ρ, tl ++ σ, h', tk, rfl, F', h _ tl p⟩

section
variable {A : Around} {env : Env} {ρ : Rho} {σ : Led} {need : Nat} {C x dx : Addr} {es : List DictEntry} {n : Nat} {name : Str}
theorem inst_at {h : Heap} (F : FS h₀ env ρ σ h) (hx : Kn h₀ σ x (instObj C dx)) (hdx : Kn h₀ σ dx (dictOf es n)) : InstAt h x (instObj C dx) C (some (dictOf es n)) :=
  ⟨F.kn hx, rfl, rfl, F.kn hdx⟩
theorem w_getOwn {attr : Option Value} {v : Value} {Q : Value → Rho → Led → Prop} (O : Ok w loose mean mg mb need A env h₀) (hx : Kn h₀ σ x (instObj C dx)) (hdx : Kn h₀ σ dx (dictOf es n))
    (hg : plainGet (KB w.params) C name = true) (hh : hasDictIn (KB w.params) C = true) (ha : findIn (KB w.params) (.ref C) name = some attr) (hn : noGet (KB w.params) attr = true)
    (hl : getL name es = some (some v)) (hv : handedIn v = true) (h : Q v ρ σ) : W w A h₀ env ρ σ (getAttr (.ref x) name true) Q := fun s ht F =>
  get_value (O.x.keeps F.keep) (inst_at F hx hdx) (plainGet_of hg).1 (findObj_own hh ha hn hl) hv ⟨ρ, σ, s.heap, _, rfl, F, h⟩
end
end
end Mine
end

section
open PySem PySem.W PyProof.Rows PySem.Calls
set_option maxRecDepth 100000
set_option maxHeartbeats 4000000
set_option linter.unusedVariables false
namespace Mine
/-- all objects of a heap but two -/
noncomputable def others (h : Heap) (L d : Addr) : Led := (List.range h.objs.size).filterMap fun a => if a = L ∨ a = d then none else (h.get? a).map fun o => (a, o)
theorem others_mem {h : Heap} {L d a : Addr} {o : Obj} (e : h.get? a = some o) (hL : a ≠ L) (hd : a ≠ d) : (a, o) ∈ others h L d := by
  unfold others
  refine List.mem_filterMap.mpr ⟨a, List.mem_range.mpr (Heap.lt_size e), ?_⟩
  rw [if_neg (by rintro (h1 | h1); exact hL h1; exact hd h1), e]; rfl
theorem others_of {h : Heap} {L d : Addr} : ∀ p ∈ others h L d, h.get? p.1 = some p.2 ∧ p.1 ≠ L ∧ p.1 ≠ d := by
  intro p hp
  unfold others at hp
  obtain ⟨a, _, e⟩ := List.mem_filterMap.mp hp
  by_cases hc : a = L ∨ a = d
  · rw [if_pos hc] at e; cases e
  · rw [if_neg hc] at e
    obtain ⟨o, h1, h2⟩ := Option.map_eq_some_iff.mp e
    subst h2
    exact ⟨h1, fun x => hc (.inl x), fun x => hc (.inr x)⟩
noncomputable def noHeap : Heap := { objs := #[] }
theorem noHeap_get (a : Addr) : noHeap.get? a = none := by
  cases e : noHeap.get? a with
  | none => rfl
  | some o => exact absurd (Heap.lt_size e) (Nat.not_lt_zero _)
section
variable {w : World} {A : Around} {h₀ h h' : Heap} {env : Env} {ρ : Rho} {σ : Led} {d : Addr} {o : Obj} {f : Obj → Led} {m : Str → Option Value}
theorem fr_all (hn : h.Ns env.locals m) : Fr noHeap env.locals h m := ⟨hn, (fun b x e => by rw [noHeap_get] at e; cases e), Nat.zero_le _⟩
theorem news_all (F : FS h₀ env ρ σ h) (U : ∀ o', Upd d o o' σ (f o')) : News noHeap env.locals h ((d, o) :: others h env.locals d) := fun p hp => by
  have D := F.led _ (U { cls := .none, data := .freed }).mem
  rcases List.mem_cons.mp hp with rfl | hp
  · exact ⟨D.1, D.2.2.1, noHeap_get _⟩
  · have := others_of p hp
    exact ⟨this.1, this.2.1, noHeap_get _⟩
theorem fs_all (F : FS h₀ env ρ σ h) (U : ∀ o', Upd d o o' σ (f o')) (hm : ∀ y, env.kindOf y = some .local → m y = ρ y) {o' : Obj} (F' : Fr noHeap env.locals h' m) (N' : News noHeap env.locals h' ((d, o') :: others h env.locals d)) : FS h₀ env ρ (f o') h' := by
  have D := F.led _ (U o').mem
  have keep : ∀ b x, b ≠ env.locals → b ≠ d → h.get? b = some x → h'.get? b = some x := fun b x h1 h2 e => (N' (b, x) (.tail _ (others_mem e h1 h2))).1
  refine ⟨fun b x e => keep b x (fun z => by rw [z, F.off] at e; cases e) (fun z => by rw [z, D.2.1] at e; cases e) (F.keep b x e), ⟨m, F'.ns, hm⟩, fun y c hc => ?_, F.off, F.coff, F.cne, F.cnd, fun p hp => ?_, (U o').map ▸ F.nd⟩
  · obtain ⟨ob, e1, e2⟩ := F.cell y c hc
    exact ⟨ob, keep c ob (F.cne y c hc) (fun z => D.2.2.2 y c hc z.symm) e1, e2⟩
  · rcases (U o').mem' F.nd p hp with rfl | ⟨h1, ne⟩
    · exact ⟨(N' (d, o') (.head _)).1, D.2⟩
    · exact ⟨keep _ _ (F.led p h1).2.2.1 ne (F.led p h1).1, (F.led p h1).2⟩

variable {loose : List Str} {mean : ExcName → Option Value} {mg mb : Str → Option Value} {need : Nat} {C x dx : Addr} {es : List DictEntry} {n : Nat} {name : Str} {v : Value}
theorem w_setDict {Q : Unit → Rho → Led → Prop} (O : Ok w loose mean mg mb need A env h₀) (hx : Kn h₀ σ x (instObj C dx)) (U : ∀ o', Upd dx (dictOf es n) o' σ (f o'))
    (hs : findIn (KB w.params) (.ref C) "__setattr__" = some (some (.builtin "object.__setattr__"))) (hp : plainOver (KB w.params) C = true) (ht : takerIn (KB w.params) C name = some none) (hh : hasDictIn (KB w.params) C = true)
    (hl : (getL name es).isSome = true) (hz : es.length ≤ 900)
    (h : ∀ t, Q () ρ (f (dictOf (putL name (PyData.keyHash w.params name) (.str name t) v es) (putN name es n)))) : W w A h₀ env ρ σ (setAttr (.ref x) name v) Q := fun s hts F => by
  have X : (KB w.params).In s.heap := O.x.keeps F.keep
  obtain ⟨m, hn, hm⟩ := F.ns
  have I : InstAt s.heap x (instObj C dx) C (some (dictOf es n)) := inst_at F hx (.inl (U { cls := .none, data := .freed }).mem)
  have hz' : (putL name (PyData.keyHash w.params name) (.str name (s.toks + 1)) v es).length ≤ 1000 := by
    have : ∀ (es : List DictEntry), (putL name (PyData.keyHash w.params name) (.str name (s.toks + 1)) v es).length ≤ es.length + 1 := by
      intro es
      induction es with
      | nil => simp [putL]
      | cons e r ih =>
        unfold putL
        split
        · simp
        · simp only [List.length_cons]; exact Nat.lt_succ_of_le (by assumption)
    have := this es
    lia
  refine set_plain X I hs (osa_dict (s := { s with toks := s.toks + 1 }) (pre := []) (post := others s.heap env.locals dx) (fr_all hn) (news_all F U) X I rfl hp ht hh hl (fun _ hp => nomatch hp) (fun p hp => (others_of p hp).2.2) (putName_dict ..) rfl hz' fun h' F' N' => ?_)
  exact ⟨ρ, _, h', _, rfl, fs_all F U hm F' N', h _⟩

theorem w_assignAttr {o value : Expr} {attr : Str} {pos' pos : Pos} {Q : Flow → Rho → Led → Prop}
    (h : W w A h₀ env ρ σ (eval value env) fun v ρ₁ σ₁ => W w A h₀ env ρ₁ σ₁ (eval o env) fun ov ρ₂ σ₂ => W w A h₀ env ρ₂ σ₂ (setAttr ov attr v) fun _ => Q .next)
    (hs : swapsWith value (some (.Attribute o attr pos')) pos.line env = pure false := by with_unfolding_all rfl) : W w A h₀ env ρ σ (exec (.Assign [.Attribute o attr pos'] value pos) env) Q := fun s ht F =>
  plainObj_wpAny_Assign_Attribute (W.step h ht F fun _ _ _ _ _ htk _ F' q => W.step q htk F' fun _ _ _ _ _ htk _ F' q => wpAny_mono (q.at htk F') (fun _ _ p => p) fun _ _ x => x) hs
end
end Mine
end

section
open PySem PySem.W PyProof.Rows PySem.Calls
set_option maxRecDepth 100000
set_option maxHeartbeats 4000000
set_option linter.unusedVariables false
namespace Mine
/-- an object that is a set of texts -/
noncomputable def SO (w : World) (o : Obj) (S : Str → Bool) (n : Nat) : Prop := ∀ (h : Heap) (a : Addr), h.get? a = some o → h.SetOf (PySem.strKind PP w) a S n
theorem so_of {w : World} {h : Heap} {a : Addr} {S : Str → Bool} {n : Nat} (x : h.SetOf (PySem.strKind PP w) a S n) : ∃ o, h.get? a = some o ∧ SO w o S n := by
  obtain ⟨o, es, ep, t, ho, r⟩ := x
  exact ⟨o, ho, fun h' a' e => ⟨o, es, ep, t, e, r⟩⟩
section
variable {w : World} {A : Around} {h₀ h h' : Heap} {env : Env} {ρ : Rho} {σ : Led} {d : Addr} {o : Obj} {S : Str → Bool} {n : Nat} {k : Str} {t : Tok}
theorem w_set0 {Q : Value → Rho → Led → Prop} (h : ∀ D o, SO w o (fun _ => false) 0 → Q (.ref D) ρ ((D, o) :: σ)) : W w A h₀ env ρ σ (PySem.call (.type "set") []) Q := fun s ht F => by
  refine call_set_0 fun led => ⟨ρ, _, _, s.toks, rfl, F.push _ rfl, h _ _ ?_⟩
  intro h' a e
  refine ⟨_, #[], 0, _, e, ⟨rfl, rfl, rfl⟩, rfl, ?_, ?_, by decide, ?_, rfl⟩
  · intro x hx; simp at hx
  · intro k; simp
  · cases led <;> decide
theorem w_inSet {Q : Value → Rho → Led → Prop} (hk : Kn h₀ σ d o) (hs : SO w o S n) (h : Q (.bool (S k)) ρ σ) : W w A h₀ env ρ σ (compareOp .In (.str k t) (.ref d)) Q := fun s ht F =>
  wpAny_inSet_of (strKind_is PP w k t) (by rfl) (hs _ _ (F.kn hk)) ⟨ρ, σ, s.heap, _, rfl, F, h⟩
theorem w_addSet {f : Obj → Led} {Q : Value → Rho → Led → Prop} (hs : SO w o S n) (hn : n + 1 < 100) (U : ∀ o', Upd d o o' σ (f o')) (h : ∀ o', SO w o' (fun k' => S k' || decide (k' = k)) (if S k then n else n + 1) → Q .none ρ (f o')) : W w A h₀ env ρ σ (PySem.call (.builtin "set.add") [.ref d, .str k t]) Q := fun s ht F => by
  have ho := F.get (U { cls := .none, data := .freed }).mem
  refine call_set_add (strKind_is PP w k t) (by rfl) (hs _ _ ho) (Nat.lt_of_lt_of_le hn (by decide)) fun h' hsb hso => ?_
  obtain ⟨o', e, x⟩ := so_of hso
  exact ⟨ρ, _, h', _, rfl, F.put U hsb e, h o' x⟩
end
end Mine
end

section
open PySem PySem.W PyProof.Rows PySem.Calls
set_option maxRecDepth 100000
set_option maxHeartbeats 4000000
set_option linter.unusedVariables false
namespace Mine
/-- a place just inside -/
noncomputable def Near (A A' : Around) : Prop := A'.handled = none ∧ A'.frames = A.frames ∧ A'.depth = A.depth ∧ A'.units ≤ A.units + 4
/-- an iterator whose state is a ledger, as built-in code asks it -/
structure NextAt (w : World) (A : Around) (h₀ : Heap) (env : Env) (ρ : Rho) (I : Addr) (T : String) (ok : Led → Prop) (n : Nat) (St : Nat → Led → Prop) (P : Nat → Value → Prop) : Prop where
  typ : ∀ i ls, St i ls → ∃ o, (I, o) ∈ ls ∧ o.cls = .type T
  item : ∀ A', Near A A' → ∀ i ls σ (Q : Option Value → Rho → Led → Prop), i < n → St i ls → ok σ → (∀ v ls', P i v → St (i + 1) ls' → Q (some v) ρ (ls' ++ σ)) → W w A' h₀ env ρ (ls ++ σ) (pyNext (.ref I)) Q
  done : ∀ A', Near A A' → ∀ ls σ (Q : Option Value → Rho → Led → Prop), St n ls → ok σ → Q none ρ σ → W w A' h₀ env ρ (ls ++ σ) (pyNext (.ref I)) Q
  self : ∀ A', Near A A' → ∀ i ls σ (Q : Value → Rho → Led → Prop), St i ls → Q (.ref I) ρ (ls ++ σ) → W w A' h₀ env ρ (ls ++ σ) (pyIter (.ref I)) Q
theorem Upd.app {a : Addr} {o o' : Obj} {r : Led} : ∀ ls : Led, Upd a o o' (ls ++ (a, o) :: r) (ls ++ (a, o') :: r)
  | [] => .head r
  | p :: ls => .tail p (Upd.app ls)
section
variable {w : World} {A : Around} {h₀ : Heap} {env : Env} {ρ : Rho} {σ : Led} {I S : Addr} {T : String} {ok : Led → Prop} {n : Nat} {St : Nat → Led → Prop} {P : Nat → Value → Prop}
theorem extend_loop {A₀ : Around} (X : NextAt w A h₀ env ρ I T ok n St P) (hok : ∀ o, ok ((S, o) :: σ)) (hA : Near A A₀.in1) (hn : n ≤ 100000) {R : Result → Shared → Prop} {s₀ : Shared}
    (hR : ∀ oS vs h' tk, LObj oS vs → vs.length = n → (∀ i v, vs[i]? = some v → P i v) → 0 < tk → FS h₀ env ρ ((S, oS) :: σ) h' → R (.ok (.ret .none)) { s₀ with heap := h', toks := tk }) :
    ∀ (k i : Nat) (ls : Led) (oS : Obj) (vs : List Value) (h' : Heap) (tk : Nat), n - i = k → i ≤ n → St i ls → LObj oS vs → vs.length = i → (∀ j v, vs[j]? = some v → P j v) → 0 < tk → FS h₀ env ρ (ls ++ (S, oS) :: σ) h' →
      codeAny (model PP w) A₀ (.builtin "list.extend.loop" ⟨[.ref S, .ref I, .none], []⟩) R { s₀ with heap := h', toks := tk } := by
  intro k
  induction k with
  | zero =>
    intro i ls oS vs h' tk hk hi hst hl hlen hP ht F
    obtain rfl : i = n := by lia
    refine codeAny_builtin PySem.F.entry_extend_loop ?_
    rw [Around.under_plainId PySem.F.plain_extend_loop _]
    show wpAny _ A₀.in1 (pyNext (.ref I) >>= _) _ _ _
    refine wpAny_bind (wpAny_mono (W.step (s := { s₀ with heap := h', toks := tk }) (X.done _ hA ls _ (fun r ρ' σ' => r = none ∧ ρ = ρ' ∧ σ' = (S, oS) :: σ) hst (hok _) ⟨rfl, rfl, rfl⟩) ht F ?_) (fun _ _ x => x) fun _ _ x => x.elim)
    rintro _ _ _ h₂ tk₂ ht₂ _ F₂ ⟨rfl, rfl, rfl⟩
    exact wpAny_pure (hR oS vs h₂ tk₂ hl hlen hP ht₂ F₂)
  | succ k ih =>
    intro i ls oS vs h' tk hk hi hst hl hlen hP ht F
    have hlt : i < n := by lia
    refine codeAny_builtin PySem.F.entry_extend_loop ?_
    rw [Around.under_plainId PySem.F.plain_extend_loop _]
    show wpAny _ A₀.in1 (pyNext (.ref I) >>= _) _ _ _
    refine wpAny_bind (wpAny_mono (W.step (s := { s₀ with heap := h', toks := tk }) (X.item _ hA i ls _ (fun r ρ' σ' => ∃ v ls', r = some v ∧ P i v ∧ St (i + 1) ls' ∧ ρ = ρ' ∧ σ' = ls' ++ (S, oS) :: σ) hlt hst (hok _) fun v ls' p q => ⟨v, ls', rfl, p, q, rfl, rfl⟩) ht F ?_) (fun _ _ x => x) fun _ _ x => x.elim)
    rintro _ _ _ h₂ tk₂ ht₂ _ F₂ ⟨v, ls', rfl, p, q, rfl, rfl⟩
    obtain ⟨c, rfl⟩ := hl
    have hS := F₂.get (a := S) (List.mem_append_right _ (.head _))
    show wpAny _ A₀.in1 (updateSeq S (·.push v) >>= _) _ _ _
    have e : Obj.mapSeq (fun xs => xs.push v) { cls := .type "list", data := .seq vs.toArray c } = { cls := .type "list", data := .seq (vs ++ [v]).toArray (if (vs ++ [v]).toArray.size == vs.toArray.size then c else c + 1) } := by
      have e2 : vs.toArray.push v = (vs ++ [v]).toArray := by simp
      rw [← e2]; rfl
    refine wpAny_bind (wpAny_updateSeq hS rfl (wpAny_pure ⟨plainId_quiet PySem.F.plain_extend_loop _, ?_⟩) (by rw [sizeLine_eq]; simp; lia) (by rw [sizeLine_eq]; simp; lia))
    have F₃ := F₂.upd (f := Obj.mapSeq fun xs => xs.push v) (Upd.app ls') (by rw [e]; rfl)
    refine ih (i + 1) ls' _ (vs ++ [v]) _ tk₂ (by grind) hlt q ⟨_, e⟩ (by simp [hlen]) (fun j u hj => ?_) ht₂ F₃
    by_cases hjl : j < vs.length
    · rw [List.getElem?_append_left hjl] at hj; exact hP j u hj
    · rw [List.getElem?_append_right (by lia)] at hj
      have : j = i := by
        have := (List.getElem?_eq_some_iff.mp hj).1
        simp at this
        lia
      subst this
      rw [hlen, Nat.sub_self] at hj
      simp at hj
      subst hj; exact p

theorem w_listOfIt {ls : Led} {Q : Value → Rho → Led → Prop} (X : NextAt w A h₀ env ρ I T ok n St P) (hok : ∀ S o, ok ((S, o) :: σ)) (hh : A.handled = none) (hn : n ≤ 100000) (hst : St 0 ls)
    (hTl : (Value.type T == Value.type "list") = false) (hTt : (Value.type T == Value.type "tuple") = false) (hlen : typeLookup (.type T) "__len__" = pure none) (hhint : typeLookup (.type T) "__length_hint__" = pure none)
    (h : ∀ D o vs, LObj o vs → vs.length = n → (∀ i v, vs[i]? = some v → P i v) → Q (.ref D) ρ ((D, o) :: σ)) : W w A h₀ env ρ (ls ++ σ) (PySem.call (.type "list") [.ref I]) Q := fun s ht F => by
  refine callType_codes (Q₁ := fun obj s₁ => obj = .ref s.heap.objs.size ∧ s₁ = { s with heap := s.heap.push { cls := .type "list", data := .seq #[] } }) PySem.F.called_list (PySem.F.typeCall_list_1 _) PySem.F.entry_list_init
    (code_list_new _ ⟨rfl, rfl⟩) fun obj s₁ h₁ => ?_
  obtain ⟨rfl, rfl⟩ := h₁
  have hS : (s.heap.push { cls := .type "list", data := .seq #[] }).get? s.heap.objs.size = some { cls := .type "list", data := .seq #[] } := Heap.get?_push_size _ rfl
  have F0 : FS h₀ env ρ ((s.heap.objs.size, { cls := .type "list", data := .seq #[] }) :: (ls ++ σ)) (s.heap.push { cls := .type "list", data := .seq #[] }) := F.push _ rfl
  generalize s.heap.objs.size = S at *
  refine ⟨⟨_, hS, rfl⟩, PySem.F.args_list_init_2 _ _, ?_⟩
  show wpAny _ A.in1.in1 (do let old ← Builtin.List.listItems (.ref S); Builtin.List.listUpdate (.ref S) (fun _ => #[]); letGo old.toList.reverse; Builtin.List.listExtendWith (.ref S) (.ref I) .none) _ _ _
  refine wpAny_bind ?_
  unfold Builtin.List.listItems
  refine wpAny_bind (wpAny_seqItems hS rfl (wpAny_pure ?_))
  show wpAny _ A.in1.in1 (updateSeq S (fun _ => #[]) >>= fun _ => letGo (#[] : Array Value).toList.reverse >>= fun _ => Builtin.List.listExtendWith (.ref S) (.ref I) .none) _ _ _
  refine wpAny_bind (wpAny_updateSeq hS rfl ?_)
  have F1 := F0.upd (f := Obj.mapSeq (fun _ => (#[] : Array Value))) (.head _) rfl
  refine wpAny_bind (wpAny_letGo ?_)
  unfold Builtin.List.listExtendWith
  have F2 : FS h₀ env ρ (ls ++ (S, Obj.mapSeq (fun _ => (#[] : Array Value)) { cls := .type "list", data := .seq #[] }) :: σ) _ :=
    F1.sub (fun p hp => (List.perm_middle (l₁ := ls)).subset hp) (((List.perm_middle (a := (S, Obj.mapSeq (fun _ => (#[] : Array Value)) { cls := .type "list", data := .seq #[] })) (l₁ := ls) (l₂ := σ)).map (·.1)).nodup_iff.mpr F1.nd)
  obtain ⟨oI, hI, hcI⟩ := X.typ 0 ls hst
  have near : Near A A.in1.in1 := ⟨hh, rfl, rfl, by show A.units + 1 + 1 ≤ _; lia⟩
  have near2 : Near A A.in1.in1 := near
  have hSI : S ≠ I := fun e => by
    have := (List.nodup_cons.mp F1.nd).1
    exact this (List.mem_map.mpr ⟨(I, oI), List.mem_append_left _ hI, e.symm⟩)
  have hT1 := F2.get (List.mem_append_left _ hI)
  refine wpAny_bind (wpAny_typeOf ⟨oI, hT1, hcI⟩ ?_)
  have h1 : Builtin.List.listSameRef (.ref S) (.ref I) = false := by simp [Builtin.List.listSameRef, hSI]
  simp only [h1, hTl, hTt, Bool.or_false, Bool.false_eq_true, if_false]
  refine wpAny_bind (wpAny_mono (W.step (s := { s with heap := _, toks := s.toks }) (X.self _ near 0 ls _ (fun v ρ' σ' => v = .ref I ∧ ρ = ρ' ∧ σ' = ls ++ (S, Obj.mapSeq (fun _ => (#[] : Array Value)) { cls := .type "list", data := .seq #[] }) :: σ) hst ⟨rfl, rfl, rfl⟩) ht F2 ?_) (fun _ _ x => x) fun _ _ x => x.elim)
  rintro _ _ _ h₂ tk₂ ht₂ _ F₂ ⟨rfl, rfl, rfl⟩
  refine wpAny_bind (wpAny_holding ?_)
  have hT2 := F₂.get (List.mem_append_left _ hI)
  unfold Builtin.List.listLengthHint
  refine wpAny_bind (wpAny_specialOf ⟨oI, hT2, hcI⟩ hlen ?_)
  show wpAny _ A.in1.in1 (specialOf (Value.ref I) (Str.ofString "__length_hint__") >>= _) _ _ _
  refine wpAny_bind (wpAny_specialOf ⟨oI, hT2, hcI⟩ hhint ?_)
  refine wpAny_pure ?_
  show wpAny _ A.in1.in1 (rule "list.extend.makes-room" >>= fun _ => Builtin.List.listTouch (.ref S) >>= fun _ =>
    again (.builtin "list.extend.loop" ⟨[.ref S, .ref I, .none], []⟩)) _ _ _
  refine wpAny_bind (wpAny_rule ?_)
  refine wpAny_bind ?_
  have hS1 := F₂.get (a := S) (List.mem_append_right _ (.head _))
  show wpAny _ A.in1.in1 (updateSeq S (·.push .none) >>= fun _ => updateSeq S (·.pop)) _ _ _
  refine wpAny_bind (wpAny_updateSeq hS1 rfl ?_)
  have F₃ := F₂.upd (f := Obj.mapSeq (·.push Value.none)) (Upd.app ls) rfl
  have hS2 := F₃.get (a := S) (List.mem_append_right _ (.head _))
  refine wpAny_updateSeq (hz := by seq_fits) hS2 rfl ?_
  have F₄ := F₃.upd (f := Obj.mapSeq (·.pop)) (Upd.app ls) rfl
  refine wpAny_pure ⟨plainId_quiet PySem.F.plain_extend_loop _, ?_⟩
  refine extend_loop (A₀ := A.in1) (s₀ := s) X (hok S) near hn ?_ n 0 ls _ [] _ tk₂ rfl (Nat.zero_le _) hst ⟨_, rfl⟩ rfl (fun j v hj => by simp at hj) ht₂ F₄
  intro oS vs h' tk hl hlen hP ht' F'
  exact ⟨rfl, ρ, _, h', tk, rfl, F', h S oS vs hl hlen hP⟩
end
end Mine
end

section
open PySem PySem.W PyProof.Rows PySem.Calls PySem.Builtin
set_option maxRecDepth 100000
set_option maxHeartbeats 1000000
set_option linter.unusedVariables false
namespace Mine
theorem mro_map : mroOf (.type "map") = pure [.type "map", .type "object"] := by rw [mroOf_type]; kernel_rfl
theorem lookup_map_new : typeLookup (.type "map") "__new__" = pure (some (.builtin "map.__new__")) := by rw [typeLookup_type, builtinLookup_eq_fast]; kernel_rfl
theorem slot_map_init : Slot "map" "__init__" "object.__init__" :=
  .of (owner := "object") (n := "__init__") (by rw [typeLookup_type, builtinLookup_eq_fast]; kernel_rfl) (by decide +kernel) (by decide +kernel) (by decide +kernel)
    (by first | exact .inl (by decide +kernel) | exact .inr (by decide +kernel)) (by rw [isSubtype_type]; kernel_rfl)
theorem called_map : TypeCalled "map" "map.__new__" "object.__init__" :=
  ⟨by decide +kernel, by decide +kernel, ⟨_, _, mro_map⟩, madeBy_type mro_map lookup_map_new (by decide +kernel), by decide +kernel, by rw [isSubtype_type]; kernel_rfl, slot_map_init⟩
theorem typeCall_map_2 (a b : Value) : checkTypeCall "map" ⟨[a, b], []⟩ = pure () := by rw [PySem.W.Fast.te11612656972197000677]; kernel_rfl
theorem newCall_map_2 (a b : Value) : checkBuiltinCall "map.__new__" ⟨[.type "map", a, b], []⟩ = pure () := by rw [PySem.W.Fast.te10254737850608025244]; kernel_rfl
theorem entry_map_new : entryFor table "map.__new__" = some Builtin.«map.__new__» := entryFor_of_tree (by kernel_rfl)
theorem sub_map : isSubtype (.type "map") (.type "map") = pure true := by rw [isSubtype_type]; kernel_rfl
theorem slot_map_next : Slot "map" "__next__" "map.__next__" :=
  .of (owner := "map") (n := "__next__") (by rw [typeLookup_type, builtinLookup_eq_fast]; kernel_rfl) (by decide +kernel) (by decide +kernel) (by decide +kernel)
    (by first | exact .inl (by decide +kernel) | exact .inr (by decide +kernel)) sub_map
theorem entry_map_next : entryFor table "map.__next__" = some Builtin.«map.__next__» := entryFor_of_tree (by kernel_rfl)
theorem args_map_next (a : Value) : argsOk "map.__next__" ⟨[a], []⟩ := by unfold argsOk; rw [S.signatureZ_eq, PySem.W.Fast.te16078263539434579649]; kernel_rfl
theorem map_no_len : typeLookup (.type "map") "__len__" = pure none := by rw [typeLookup_type, builtinLookup_eq_fast]; kernel_rfl
theorem map_no_hint : typeLookup (.type "map") "__length_hint__" = pure none := by rw [typeLookup_type, builtinLookup_eq_fast]; kernel_rfl
noncomputable abbrev mapH1 (h : Heap) (l1 : Addr) : Heap := h.push { cls := .type "list_iterator", data := .fields #[.ref l1, .int 0 0] }
noncomputable abbrev mapH2 (h : Heap) (l1 : Addr) : Heap := (mapH1 h l1).push { cls := .type "tuple", data := .seq #[.ref h.objs.size] }
noncomputable abbrev mapH3 (h : Heap) (l1 : Addr) (f : Value) : Heap := (mapH2 h l1).push { cls := .type "map", data := .fields #[.ref (mapH1 h l1).objs.size, f] }
theorem meets_map_new (f : Value) (l1 : Addr) (xs : Array Value) :
    Meets (Builtin.«map.__new__» ⟨[.type "map", f, .ref l1], []⟩) (fun _ R s => s.heap.IsList l1 xs ∧
      R (.ok (.ret (.ref (mapH2 s.heap l1).objs.size))) { s with heap := mapH3 s.heap l1 f }) :=
  .of_wp fun prog w A R s h => by
    obtain ⟨hp, g, d, tk, os⟩ := s; obtain ⟨hl1, h⟩ := h
    have hsub := sub_map
    have hL1 : Heap.IsList (Shared.heap ⟨hp, g, d, tk, os⟩) l1 xs := hl1
    repeat' (first | (with_reducible refine wpAny_pyIter_list hL1 ?_) | (first | with_reducible (first | refine wpAny_pure ?_ | refine wpAny_bind ?_ | refine wpAny_holding ?_ | refine wpAny_of_eq (by assumption) ?_ | refine wpAny_rule ?_ | refine wpAny_specialOf_val (by assumption) (by assumption) ?_ | refine wpAny_fresh' ?_ | refine wpAny_alloc' ?_ | refine wpAny_attempt ?_ | refine wpAny_call ?_ | refine wpAny_loadPart' (by assumption) ?_ | refine wpAny_load' (by assumption) ?_ | refine wpAny_typeOf (by assumption) ?_ | refine wpAny_specialOf (by assumption) (by assumption) ?_ | refine wpAny_isInstance_val (by assumption) (by assumption) ?_ | refine wpAny_isInstance (by assumption) (by assumption) ?_ | refine wpAny_standAt ?_ | refine wpAny_point ?_ | refine wpAny_letGo ?_ | refine wpAny_runValue ?_ | refine wpAny_run ?_) | ((with_reducible refine wpAny_ite_false ?_ ?_); focus (rfl; done)) | ((with_reducible refine wpAny_ite_true ?_ ?_); focus (rfl; done)) | wp_delta | with_reducible_and_instances (first | refine wpAny_pure ?_ | refine wpAny_bind ?_)) | with_reducible assumption)
    exact ⟨_, rfl, h⟩
section
variable {w : World} {A : Around} {h₀ : Heap} {env : Env} {ρ : Rho} {σ : Led}
noncomputable abbrev mapO (T : Addr) (f : Value) : Obj := { cls := .type "map", data := .fields #[.ref T, f] }
noncomputable abbrev tup1 (I : Addr) : Obj := { cls := .type "tuple", data := .seq #[.ref I] }
theorem w_map {f : Value} {a : Addr} {o : Obj} {vs : List Value} {Q : Value → Rho → Led → Prop} (hk : Kn h₀ σ a o) (hl : LObj o vs) (h : ∀ M T I oi, ItL a 0 oi → Q (.ref M) ρ ((M, mapO T f) :: (T, tup1 I) :: (I, oi) :: σ)) : W w A h₀ env ρ σ (PySem.call (.type "map") [f, .ref a]) Q := fun s ht F => by
  refine callType_new called_map (by decide) (typeCall_map_2 _ _) (newCall_map_2 _ _) (fun obj => PySem.F.args_object_init_3 obj _ _) entry_map_new (meets_map_new f a vs.toArray) ⟨hl.isList (F.kn hk), ⟨_, Heap.get?_push_size _ rfl, rfl⟩, ?_⟩
  exact ⟨ρ, _, _, s.toks, rfl, ((F.push _ rfl).push _ rfl).push _ rfl, h _ _ _ _ ⟨rfl, rfl⟩⟩
end
end Mine
end

section
open PySem PySem.W PyProof.Rows PySem.Calls PySem.Builtin
set_option maxRecDepth 100000
set_option maxHeartbeats 1000000
set_option linter.unusedVariables false
namespace Mine
theorem map_next_body {prog : Program} {w : World} {A : Around} {E : Value → Shared → Prop} {s : Shared} {M T I l : Addr} {f x : Value} {k : Nat} {xs : Array Value} {Q : PySem.Fin → Shared → Prop}
    (hM : s.heap.get? M = some (mapO T f)) (hT : s.heap.get? T = some (tup1 I)) (hI : s.heap.IsListIter I l k) (hl : s.heap.IsList l xs) (hx : xs[k]? = some x) (hMI : M ≠ I)
    (h : ∀ h', h'.IsListIter I l (k + 1) → Heap.SameBut I s.heap h' → wpAny (model prog w) A (call f [x]) (fun v s' => Q (.done (.ret v)) s') E { s with heap := h' }) : wpAny (model prog w) A (Builtin.«map.__next__» ⟨[.ref M], []⟩) Q E s := by
  obtain ⟨hp, g, d, tk, os⟩ := s
  unfold Builtin.«map.__next__»
  repeat' (first | (show wpAny _ _ (Builtin.SmallTypes.nextOf (.ref I)) _ _ _; refine wpAny_nextOf_list_item hI hl hx fun h' hi' hs' => ?_) | (show wpAny _ _ (call f [x]) _ _ _; refine wpAny_mono (h _ (by assumption) (by assumption)) (fun v s' q => ?_) (fun _ _ q => q)) | (first | with_reducible (first | refine wpAny_pure ?_ | refine wpAny_bind ?_ | refine wpAny_holding ?_ | refine wpAny_of_eq (by assumption) ?_ | refine wpAny_rule ?_ | refine wpAny_specialOf_val (by assumption) (by assumption) ?_ | refine wpAny_fresh' ?_ | refine wpAny_alloc' ?_ | refine wpAny_attempt ?_ | refine wpAny_call ?_ | refine wpAny_loadPart' (by assumption) ?_ | refine wpAny_load' (by assumption) ?_ | refine wpAny_typeOf (by assumption) ?_ | refine wpAny_specialOf (by assumption) (by assumption) ?_ | refine wpAny_isInstance_val (by assumption) (by assumption) ?_ | refine wpAny_isInstance (by assumption) (by assumption) ?_ | refine wpAny_standAt ?_ | refine wpAny_point ?_ | refine wpAny_letGo ?_ | refine wpAny_runValue ?_ | refine wpAny_run ?_) | ((with_reducible refine wpAny_ite_false ?_ ?_); focus (rfl; done)) | ((with_reducible refine wpAny_ite_true ?_ ?_); focus (rfl; done)) | wp_delta | with_reducible_and_instances (first | refine wpAny_pure ?_ | refine wpAny_bind ?_)) | with_reducible assumption)
  have hM' := (hs'.2 _ hMI).trans hM
  repeat' (first | (show wpAny _ _ (call f [x]) _ _ _; refine wpAny_mono (h _ (by assumption) (by assumption)) (fun v s' q => ?_) (fun _ _ q => q)) | (first | with_reducible (first | refine wpAny_pure ?_ | refine wpAny_bind ?_ | refine wpAny_holding ?_ | refine wpAny_of_eq (by assumption) ?_ | refine wpAny_rule ?_ | refine wpAny_specialOf_val (by assumption) (by assumption) ?_ | refine wpAny_fresh' ?_ | refine wpAny_alloc' ?_ | refine wpAny_attempt ?_ | refine wpAny_call ?_ | refine wpAny_loadPart' (by assumption) ?_ | refine wpAny_load' (by assumption) ?_ | refine wpAny_typeOf (by assumption) ?_ | refine wpAny_specialOf (by assumption) (by assumption) ?_ | refine wpAny_isInstance_val (by assumption) (by assumption) ?_ | refine wpAny_isInstance (by assumption) (by assumption) ?_ | refine wpAny_standAt ?_ | refine wpAny_point ?_ | refine wpAny_letGo ?_ | refine wpAny_runValue ?_ | refine wpAny_run ?_) | ((with_reducible refine wpAny_ite_false ?_ ?_); focus (rfl; done)) | ((with_reducible refine wpAny_ite_true ?_ ?_); focus (rfl; done)) | wp_delta | with_reducible_and_instances (first | refine wpAny_pure ?_ | refine wpAny_bind ?_)) | with_reducible assumption)
theorem map_next_end {prog : Program} {w : World} {A : Around} {E : Value → Shared → Prop} {s : Shared} {M T I l : Addr} {f : Value} {k : Nat} {xs : Array Value} {Q : PySem.Fin → Shared → Prop} (hh : A.handled = none)
    (hM : s.heap.get? M = some (mapO T f)) (hT : s.heap.get? T = some (tup1 I)) (hI : s.heap.IsListIter I l k) (hl : s.heap.IsList l xs) (hx : xs[k]? = none)
    (hE : ∀ h' e, Heap.ExtBut I s.heap h' → (∃ o, h'.get? e = some o ∧ o.cls = .type "StopIteration") → E (.ref e) { s with heap := h' }) : wpAny (model prog w) A (Builtin.«map.__next__» ⟨[.ref M], []⟩) Q E s := by
  obtain ⟨hp, g, d, tk, os⟩ := s
  unfold Builtin.«map.__next__»
  repeat' (first | (show wpAny _ _ (Builtin.SmallTypes.nextOf (.ref I)) _ _ _; exact wpAny_nextOf_list_end hh hI hl hx fun h' e a b => hE h' e a b) | (first | with_reducible (first | refine wpAny_pure ?_ | refine wpAny_bind ?_ | refine wpAny_holding ?_ | refine wpAny_of_eq (by assumption) ?_ | refine wpAny_rule ?_ | refine wpAny_specialOf_val (by assumption) (by assumption) ?_ | refine wpAny_fresh' ?_ | refine wpAny_alloc' ?_ | refine wpAny_attempt ?_ | refine wpAny_call ?_ | refine wpAny_loadPart' (by assumption) ?_ | refine wpAny_load' (by assumption) ?_ | refine wpAny_typeOf (by assumption) ?_ | refine wpAny_specialOf (by assumption) (by assumption) ?_ | refine wpAny_isInstance_val (by assumption) (by assumption) ?_ | refine wpAny_isInstance (by assumption) (by assumption) ?_ | refine wpAny_standAt ?_ | refine wpAny_point ?_ | refine wpAny_letGo ?_ | refine wpAny_runValue ?_ | refine wpAny_run ?_) | ((with_reducible refine wpAny_ite_false ?_ ?_); focus (rfl; done)) | ((with_reducible refine wpAny_ite_true ?_ ?_); focus (rfl; done)) | wp_delta | with_reducible_and_instances (first | refine wpAny_pure ?_ | refine wpAny_bind ?_)) | with_reducible assumption)
end Mine
end

section
open PySem PySem.W PyProof.Rows PySem.Calls PySem.Builtin
set_option maxRecDepth 100000
set_option maxHeartbeats 1000000
set_option linter.unusedVariables false
namespace Mine
theorem slot_map_iter : Slot "map" "__iter__" "map.__iter__" :=
  .of (owner := "map") (n := "__iter__") (by rw [typeLookup_type, builtinLookup_eq_fast]; kernel_rfl) (by decide +kernel) (by decide +kernel) (by decide +kernel)
    (by first | exact .inl (by decide +kernel) | exact .inr (by decide +kernel)) sub_map
theorem entry_map_iter : entryFor table "map.__iter__" = some Builtin.«dict_keyiterator.__iter__» :=
  entryFor_alias (id' := "dict_keyiterator.__iter__") (by rw [fastTable_eq_tree]; kernel_rfl) (by decide +kernel) (by rw [S.canonicalZ_eq]; decide +kernel) (by rw [fastTable_eq_tree]; kernel_rfl)
theorem args_map_iter (a : Value) : argsOk "map.__iter__" ⟨[a], []⟩ := by unfold argsOk; rw [S.signatureZ_eq, PySem.W.Fast.te16078263539434579649]; kernel_rfl
theorem perm4 {α : Type} {a b c : α} {l : List α} : (c :: a :: b :: l).Perm (a :: b :: c :: l) := (List.Perm.swap a c (b :: l)).trans ((List.Perm.swap b c l).cons a)
section
variable {w : World} {A : Around} {h₀ : Heap} {env : Env} {ρ : Rho} {σ : Led} {loose : List Str} {mean : ExcName → Option Value} {mg mb : Str → Option Value} {need : Nat}
/-- a call inside built-in code, by a contract that leaves the ledger -/
theorem call_pure {A' : Around} (O : Ok w loose mean mg mb need A env h₀) {k : Nat} {f : Value} {args : List Value} {P : Led → Value → Prop} {Q : Value → Shared → Prop} {E : Value → Shared → Prop} {s : Shared}
    (hA : A'.handled = none ∧ A'.frames = A.frames ∧ A'.depth ≤ A.depth + 1 ∧ A'.units ≤ A.units + 7) (ht : 0 < s.toks) (F : FS h₀ env ρ σ s.heap)
    (C : ∀ h, h₀.StaysIn h → (∀ p ∈ σ, h.get? p.1 = some p.2) → PureC w loose mean mg mb k f args h P) (hk : k + 1 ≤ need) (hq : ∀ v tl h' tk, P tl v → FS h₀ env ρ (tl ++ σ) h' → s.toks ≤ tk → Q v { s with heap := h', toks := tk }) :
    wpAny (model PP w) A' (PySem.call f args) Q E s :=
  wpAny_call (use_mut (σ₀ := []) O hA ht F C hk fun v tl h' tk p F' htk => hq v tl h' tk p F' htk)

theorem next_map {f : Value} {M T I a : Addr} {o : Obj} {vs : List Value} {k : Nat} {P : Nat → Value → Prop} (O : Ok w loose mean mg mb need A env h₀) (hl : LObj o vs) (hk : k + 1 ≤ need)
    (C : ∀ i x, vs[i]? = some x → ∀ h, h₀.StaysIn h → PureC w loose mean mg mb k f [x] h (fun _ v => P i v)) :
    NextAt w A h₀ env ρ M "map" (fun σ => Kn h₀ σ a o) vs.length (fun i ls => ∃ oi, ItL a i oi ∧ ls = [(M, mapO T f), (T, tup1 I), (I, oi)]) P where
  typ := fun i ls ⟨oi, _, e⟩ => by subst e; exact ⟨_, .head _, rfl⟩
  item := fun A' hA i ls σ Q hi ⟨oi, hI, e⟩ hok hQ s ht F => by
    subst e
    have hM := F.get (a := M) (.head _)
    have hT := F.get (a := T) (.tail _ (.head _))
    have gI := F.get (a := I) (.tail _ (.tail _ (.head _)))
    have gl := hl.isList (F.kn (hok.imp (fun h => .tail _ (.tail _ (.tail _ h))) id))
    have nd := F.nd
    have hMI : M ≠ I := fun e => by subst e; simp at nd
    have hx : vs[i]? = some vs[i] := by simp [hi]
    have hty : s.TypeIs (.ref M) "map" := ⟨_, hM, rfl⟩
    unfold pyNext
    refine wpAny_bind (wpAny_attempt (wpAny_callSpecial?_slot (name := Str.ofString "__next__") hty slot_map_next
      (wpAny_call_entry slot_map_next hty entry_map_next (map_next_body hM hT ⟨oi, gI, hI⟩ gl (x := vs[i]) (by simp [hi]) hMI fun h' ⟨o', ho', hi'⟩ hs => ?_) (args_map_next _))))
    have F0 : FS h₀ env ρ ((I, oi) :: (M, mapO T f) :: (T, tup1 I) :: σ) s.heap := F.sub (fun p hp => by
      rcases List.mem_cons.mp hp with rfl | hp
      · exact .tail _ (.tail _ (.head _))
      · rcases List.mem_cons.mp hp with rfl | hp
        · exact .head _
        · rcases List.mem_cons.mp hp with rfl | hp
          · exact .tail _ (.head _)
          · exact .tail _ (.tail _ (.tail _ hp))) (by
        have p3 : List.Perm ((I, oi) :: (M, mapO T f) :: (T, tup1 I) :: σ) ([(M, mapO T f), (T, tup1 I), (I, oi)] ++ σ) := perm4
        exact ((p3.map _).nodup_iff).mpr nd)
    have F1 := F0.same hs ho'
    refine call_pure (s := { s with heap := h' }) O ⟨hA.1, hA.2.1, ?_, ?_⟩ ht F1 (fun h st _ => C i _ hx h st) hk fun v tl h'' tk p F2 htk => ⟨v, rfl, wpAny_pure ?_⟩
    · have := hA.2.2.1; show A'.depth ≤ _; lia
    · have := hA.2.2.2; show A'.units + 1 ≤ _; lia
    refine ⟨ρ, _, h'', tk, rfl, F2.sub (σ' := [(M, mapO T f), (T, tup1 I), (I, o')] ++ σ) ?_ ?_, hQ v _ p ⟨o', hi', rfl⟩⟩
    · intro q hq
      refine List.mem_append_right _ ?_
      rcases List.mem_cons.mp hq with rfl | hq
      · exact .tail _ (.head _)
      · rcases List.mem_cons.mp hq with rfl | hq
        · exact .tail _ (.tail _ (.head _))
        · rcases List.mem_cons.mp hq with rfl | hq
          · exact .head _
          · exact .tail _ (.tail _ (.tail _ hq))
    · have := F1.nd
      have p3 : List.Perm ((I, o') :: (M, mapO T f) :: (T, tup1 I) :: σ) ([(M, mapO T f), (T, tup1 I), (I, o')] ++ σ) := perm4
      exact ((p3.map _).nodup_iff).mp this
  done := fun A' hA ls σ Q ⟨oi, hI, e⟩ hok hQ s ht F => by
    subst e
    have hM := F.get (a := M) (.head _)
    have hT := F.get (a := T) (.tail _ (.head _))
    have gI := F.get (a := I) (.tail _ (.tail _ (.head _)))
    have gl := hl.isList (F.kn (hok.imp (fun h => .tail _ (.tail _ (.tail _ h))) id))
    have nd := F.nd
    have hty : s.TypeIs (.ref M) "map" := ⟨_, hM, rfl⟩
    have F0 : FS h₀ env ρ ((I, oi) :: σ) s.heap := F.sublist (.cons _ (.cons _ (.refl _)))
    unfold pyNext
    refine wpAny_bind (wpAny_attempt (wpAny_callSpecial?_slot (name := Str.ofString "__next__") hty slot_map_next
      (wpAny_call_entry slot_map_next hty entry_map_next (map_next_end hA.1 hM hT ⟨oi, gI, hI⟩ gl (by simp) fun h' e hs he => ?_) (args_map_next _))))
    obtain ⟨ob, ho, hc⟩ := he
    refine wpAny_bind (wpAny_isInstance (T := "StopIteration") (b := true) ⟨ob, ho, hc⟩ isSubtype_stop ?_)
    exact wpAny_pure ⟨ρ, σ, h', s.toks, rfl, F0.gone hs, hQ⟩
  self := fun A' hA i ls σ Q ⟨oi, hI, e⟩ hQ s ht F => by
    subst e
    have hM := F.get (a := M) (.head _)
    have hty : s.TypeIs (.ref M) "map" := ⟨_, hM, rfl⟩
    refine wpAny_pyIter_slot hty slot_map_iter (wpAny_call_entry slot_map_iter hty entry_map_iter ?_ (args_map_iter _))
    show wpAny _ _ (ret (.ref M)) _ _ s
    exact wpAny_pure ⟨_, rfl, "map", _, hty, slot_map_next.lookup, ρ, _, s.heap, s.toks, rfl, F, hQ⟩
/-- `list(map(f, xs))` once the map stands -/
theorem w_listOfMap {f : Value} {M T I a : Addr} {o oi : Obj} {vs : List Value} {k : Nat} {P : Nat → Value → Prop} {Q : Value → Rho → Led → Prop} (O : Ok w loose mean mg mb need A env h₀) (hI : ItL a 0 oi) (hl : LObj o vs) (ha : Kn h₀ σ a o) (hz : vs.length ≤ 100000) (hk : k + 1 ≤ need)
    (C : ∀ i x, vs[i]? = some x → ∀ h, h₀.StaysIn h → PureC w loose mean mg mb k f [x] h (fun _ v => P i v))
    (h : ∀ D o us, LObj o us → us.length = vs.length → (∀ i v, us[i]? = some v → P i v) → Q (.ref D) ρ ((D, o) :: σ)) : W w A h₀ env ρ ((M, mapO T f) :: (T, tup1 I) :: (I, oi) :: σ) (PySem.call (.type "list") [.ref M]) Q :=
  w_listOfIt (ls := [(M, mapO T f), (T, tup1 I), (I, oi)]) (next_map O hl hk C) (fun S o => ha.imp (.tail _) id) O.hh hz ⟨oi, hI, rfl⟩ (by decide) (by decide) map_no_len map_no_hint h
end
end Mine
end

section
open PySem PySem.W PyProof.Rows PySem.Calls
set_option maxRecDepth 100000
set_option maxHeartbeats 3200000
set_option linter.unusedVariables false
namespace Mine
section
variable {w : World} {A : Around} {R : Result → Shared → Prop} {I : Addr} {fp wr : List Addr} {G : Array GenState → Array GenState → Prop} {n : Nat} {P : Nat → Value → Prop} {St : Nat → Shared → Prop}
noncomputable def has (val : Nat → Str) (i : Nat) (k : Str) : Bool := (List.range i).any fun j => val j == k
theorem has_succ (val : Nat → Str) (i : Nat) (k : Str) : has val (i + 1) k = (has val i k || decide (k = val i)) := by
  unfold has
  rw [List.range_succ, List.any_append]
  by_cases e : k = val i
  · subst e; simp
  · have hb : (val i == k) = false := by simpa using fun h => e h.symm
    simp [hb, e]
/-- a set filled from an iterator of texts -/
theorem set_loop (W : WalksS PP w A.in1 I fp wr G n P St) (S : Addr) (hSf : S ∉ fp) (val : Nat → Str) (hval : ∀ i v, P i v → ∃ t, v = .str (val i) t) (hb : n + 1 < scanBound) :
    ∀ (k i : Nat) (s : Shared) (c : Nat), n - i = k → i ≤ n → c ≤ i → St i s → s.heap.SetOf (strKind PP w) S (has val i) c →
      (∀ s' c', Moved (S :: wr) G s s' → c' ≤ n → s'.heap.SetOf (strKind PP w) S (has val n) c' → R (.ok (.ret .none)) s') →
      codeAny (model PP w) A (.builtin "set.update.loop" ⟨[.ref S, .ref I], []⟩) R s := by
  have hSw : S ∉ wr := fun h => hSf (W.sub _ h)
  have hsub : ∀ b ∈ wr, b ∈ S :: wr := fun b hb => List.mem_cons_of_mem _ hb
  intro k
  induction k with
  | zero =>
    intro i s c hk hi hc hst hS hR
    obtain rfl : i = n := by lia
    refine codeAny_builtin PyProof.Rows.F.entry_set_update_loop ?_
    rw [Around.under_plainId PyProof.Rows.F.plain_set_update_loop _]
    show wpAny _ A.in1 (pyNext (.ref I) >>= _) _ _ s
    refine wpAny_bind (W.done s _ _ hst fun s' hm => wpAny_pure (hR s' c (hm.mono hsub) hc ?_))
    obtain ⟨o, es, ep, t, ho, rest⟩ := hS
    exact ⟨o, es, ep, t, hm.heap S _ hSw ho, rest⟩
  | succ k ih =>
    intro i s c hk hi hc hst hS hR
    have hlt : i < n := by lia
    refine codeAny_builtin PyProof.Rows.F.entry_set_update_loop ?_
    rw [Around.under_plainId PyProof.Rows.F.plain_set_update_loop _]
    show wpAny _ A.in1 (pyNext (.ref I) >>= _) _ _ s
    refine wpAny_bind (W.item i s _ _ hlt hst fun v s' hP hst' hm => ?_)
    obtain ⟨t, rfl⟩ := hval i v hP
    have hS' : s'.heap.SetOf (strKind PP w) S (has val i) c := by
      obtain ⟨o, es, ep, tb, ho, rest⟩ := hS
      exact ⟨o, es, ep, tb, hm.heap S _ hSw ho, rest⟩
    show wpAny _ A.in1 (holding [Value.str (val i) t] (setAdd S (.str (val i) t)) >>= _) _ _ s'
    refine wpAny_bind (wpAny_holding ?_)
    unfold setAdd
    refine wpAny_holding ?_
    refine wpAny_bind ((strKind PP w).pyHash (k := val i) (strKind_is _ _ _ _) ?_)
    refine wpAny_setAddHashed_of (knd := strKind PP w) (s := { s' with toks := s'.toks + 1 }) (strKind_is _ _ _ _) rfl hS' (by lia) fun h' hsb hS2 => ?_
    have hSi : h'.SetOf (strKind PP w) S (has val (i + 1)) (if has val i (val i) = true then c else c + 1) := by
      have e : has val (i + 1) = fun k' => has val i k' || decide (k' = val i) := funext fun k' => has_succ val i k'
      rw [e]
      exact hS2
    refine wpAny_pure ⟨plainId_quiet PyProof.Rows.F.plain_set_update_loop _, ih (i + 1) _ _ (by grind) hlt (by split <;> lia) (W.frame _ s' _ _ hst' (Nat.le_succ _) fun b hb o e => ?_) hSi fun s'' c'' hm'' hc'' hS'' => ?_⟩
    · rw [hsb.2 b (fun h : b = S => hSf (by rw [← h]; exact hb))]; exact e
    · refine hR s'' c'' (Moved.trans W.gtrans ((hm.mono hsub).then_heap (Nat.le_succ _) fun b o hb e => ?_) hm'') hc'' hS''
      rw [hsb.2 b (fun h : b = S => hb (by rw [h]; exact List.mem_cons_self))]; exact e
end
section
variable {w : World} {A : Around} {E : Value → Shared → Prop} {s : Shared}
theorem call_set_strs {l : Addr} {items : Array Value} {val : Nat → Str} {Q : Value → Shared → Prop}
    (hh : A.handled = none) (hl : s.heap.IsList l items) (hval : ∀ (i : Nat) (v : Value), items[i]? = some v → ∃ t, v = .str (val i) t) (hb : items.size + 1 < scanBound)
    (h : ∀ (h' : Heap) (tk c : Nat), c ≤ items.size → h'.SetOf (strKind PP w) s.heap.objs.size (has val items.size) c → (∀ b o, b < s.heap.objs.size → s.heap.get? b = some o → h'.get? b = some o) → Q (.ref s.heap.objs.size) { s with heap := h', toks := tk }) :
    wpAny (model PP w) A (call (.type "set") [.ref l]) Q E s := by
  obtain ⟨c, tl, hmro⟩ := PySem.F.called_set.mro
  have hmade := PySem.F.called_set.made
  have hsub := PySem.F.called_set.sub
  refine wpAny_call (codeAny_of_tree ?_)
  show wpAny _ _ (callAny (.type "set") _) _ _ _
  refine wpAny_pure ⟨Code.quiet_builtin _ (by decide +kernel), codeAny_builtin PySem.F.entry_type_call ?_⟩
  rw [Around.under_plain (weight_type_call_type "set" [.ref l] []) rfl]
  have h1 := PySem.F.called_set.notType
  have h2 := PySem.F.called_set.canCreate
  have hct := PySem.F.typeCall_set_1 (.ref l)
  repeat' (first | (first | with_reducible (first | refine wpAny_pure ?_ | refine wpAny_bind ?_ | refine wpAny_holding ?_ | refine wpAny_of_eq (by assumption) ?_ | refine wpAny_rule ?_ | refine wpAny_specialOf_val (by assumption) (by assumption) ?_ | refine wpAny_fresh' ?_ | refine wpAny_alloc' ?_ | refine wpAny_attempt ?_ | refine wpAny_call ?_ | refine wpAny_loadPart' (by assumption) ?_ | refine wpAny_load' (by assumption) ?_ | refine wpAny_typeOf (by assumption) ?_ | refine wpAny_specialOf (by assumption) (by assumption) ?_ | refine wpAny_isInstance_val (by assumption) (by assumption) ?_ | refine wpAny_isInstance (by assumption) (by assumption) ?_ | refine wpAny_standAt ?_ | refine wpAny_point ?_ | refine wpAny_letGo ?_ | refine wpAny_runValue ?_ | refine wpAny_run ?_) | ((with_reducible refine wpAny_ite_false ?_ ?_); focus (rfl; done)) | ((with_reducible refine wpAny_ite_true ?_ ?_); focus (rfl; done)) | wp_delta | with_reducible_and_instances (first | refine wpAny_pure ?_ | refine wpAny_bind ?_)) | with_reducible assumption)
  refine codeAny_mono (code_set_new_1 (.ref l) (E := E) (Q₁ := fun obj s₁ => ∃ led : Bool, obj = .ref s.heap.objs.size ∧ s₁ = { s with heap := s.heap.push { cls := .type "set", dict := none, data := .set #[] 0 (.fresh 0 0 led) } }) fun led => ⟨led, rfl, rfl⟩) fun r s₁ hr => ?_
  cases r with
  | error e => exact hr
  | ok fl =>
    cases fl with
    | ret obj =>
      obtain ⟨led, rfl, rfl⟩ := hr
      have hS : (s.heap.push { cls := .type "set", dict := none, data := .set #[] 0 (.fresh 0 0 led) }).get? s.heap.objs.size = some { cls := .type "set", dict := none, data := .set #[] 0 (.fresh 0 0 led) } := Heap.get?_push_size _ rfl
      have hold : ∀ b o, s.heap.get? b = some o → (s.heap.push { cls := .type "set", dict := none, data := .set #[] 0 (.fresh 0 0 led) }).get? b = some o := fun b o e => Heap.get?_push_of_some _ e
      have hsz : (s.heap.push { cls := .type "set", dict := none, data := .set #[] 0 (.fresh 0 0 led) }).objs.size = s.heap.objs.size + 1 := Heap.size_push ..
      generalize s.heap.push { cls := .type "set", dict := none, data := .set #[] 0 (.fresh 0 0 led) } = H1 at hS hold hsz ⊢
      have hT : Shared.TypeIs { s with heap := H1 } (.ref s.heap.objs.size) "set" := ⟨_, hS, rfl⟩
      have hli := PySem.F.called_set.init.lookup
      have hbi := PySem.F.called_set.init.bind (.ref s.heap.objs.size)
      repeat' (first | (first | with_reducible (first | refine wpAny_pure ?_ | refine wpAny_bind ?_ | refine wpAny_holding ?_ | refine wpAny_of_eq (by assumption) ?_ | refine wpAny_rule ?_ | refine wpAny_specialOf_val (by assumption) (by assumption) ?_ | refine wpAny_fresh' ?_ | refine wpAny_alloc' ?_ | refine wpAny_attempt ?_ | refine wpAny_call ?_ | refine wpAny_loadPart' (by assumption) ?_ | refine wpAny_load' (by assumption) ?_ | refine wpAny_typeOf (by assumption) ?_ | refine wpAny_specialOf (by assumption) (by assumption) ?_ | refine wpAny_isInstance_val (by assumption) (by assumption) ?_ | refine wpAny_isInstance (by assumption) (by assumption) ?_ | refine wpAny_standAt ?_ | refine wpAny_point ?_ | refine wpAny_letGo ?_ | refine wpAny_runValue ?_ | refine wpAny_run ?_) | ((with_reducible refine wpAny_ite_false ?_ ?_); focus (rfl; done)) | ((with_reducible refine wpAny_ite_true ?_ ?_); focus (rfl; done)) | wp_delta | with_reducible_and_instances (first | refine wpAny_pure ?_ | refine wpAny_bind ?_)) | with_reducible assumption)
      refine codeAny_mono (codeAny_call_builtin (R := wants (fun r s₂ => r = .none ∧ ∃ h' tk c, s₂ = { s with heap := h', toks := tk } ∧ c ≤ items.size ∧ h'.SetOf (strKind PP w) s.heap.objs.size (has val items.size) c ∧
          (∀ b o, b < s.heap.objs.size → s.heap.get? b = some o → h'.get? b = some o)) E) PySem.F.called_set.init.plain PySem.F.entry_set_init (check_set_init_1 hT ?_)) fun r₂ s₂ hr₂ => ?_
      · obtain ⟨ol, hol, hcl, nl, hdl⟩ := hl
        obtain ⟨ocls, odict, odata, oslots⟩ := ol
        simp only at hcl hdl
        subst hcl; subst hdl
        have hol' : H1.get? l = some { cls := .type "list", dict := odict, data := .seq items nl, slots := oslots } := hold _ _ hol
        have hsls := PySem.F.sub_list_set
        have hslf := PySem.F.sub_list_frozenset
        have hne : (Value.type "list" == Value.type "dict") = false := by decide
        have hl1 : H1.IsList l items := ⟨_, hol', rfl, nl, rfl⟩
        unfold Builtin.«set.__init__» noKeywords Builtin.Frozenset.updateFrom
        generalize hPI : pyIter = PI
        repeat' ((first | with_reducible (first | refine wpAny_pure ?_ | refine wpAny_bind ?_ | refine wpAny_holding ?_ | refine wpAny_of_eq (by assumption) ?_ | refine wpAny_rule ?_ | refine wpAny_specialOf_val (by assumption) (by assumption) ?_ | refine wpAny_fresh' ?_ | refine wpAny_alloc' ?_ | refine wpAny_attempt ?_ | refine wpAny_call ?_ | refine wpAny_loadPart' (by assumption) ?_ | refine wpAny_load' (by assumption) ?_ | refine wpAny_typeOf (by assumption) ?_ | refine wpAny_specialOf (by assumption) (by assumption) ?_ | refine wpAny_isInstance_val (by assumption) (by assumption) ?_ | refine wpAny_isInstance (by assumption) (by assumption) ?_ | refine wpAny_standAt ?_ | refine wpAny_point ?_ | refine wpAny_letGo ?_ | refine wpAny_runValue ?_ | refine wpAny_run ?_) | ((with_reducible refine wpAny_ite_false ?_ ?_); focus (rfl; done)) | ((with_reducible refine wpAny_ite_true ?_ ?_); focus (rfl; done)) | wp_delta | with_reducible_and_instances (first | refine wpAny_pure ?_ | refine wpAny_bind ?_)))
        subst hPI
        refine wpAny_pyIter_list hl1 ?_
        refine wpAny_bind (wpAny_runValue ?_)
        have hlS : l < s.heap.objs.size := Heap.lt_size hol
        have hh3 : A.in1.in1.in1.handled = none := by simp [hh]
        have hneI : l ≠ H1.objs.size := by
          rw [hsz]; exact Nat.ne_of_lt (Nat.lt_succ_of_lt hlS)
        have hSf : s.heap.objs.size ∉ [H1.objs.size, l] := by
          rw [hsz]; simp only [List.mem_cons, List.mem_singleton, List.not_mem_nil, or_false, not_or]
          exact ⟨Nat.ne_of_lt (Nat.lt_succ_self _), Nat.ne_of_gt hlS⟩
        refine set_loop ((Walks.list hh3 _ l hneI items).toS) s.heap.objs.size hSf val hval hb (items.size - 0) 0 _ 0 (by lia) (Nat.zero_le _) (Nat.zero_le _)
          ⟨⟨_, Heap.get?_push_size _ rfl, rfl, rfl⟩, (hl1.push _)⟩ ?hS0 ?hR
        case hS0 =>
          refine ⟨_, #[], 0, _, Heap.get?_push_of_some _ hS, ⟨rfl, rfl, rfl⟩, rfl, ?_, ?_, by decide, ?_, rfl⟩
          · intro x hx; simp at hx
          · intro k; simp [has]
          · cases led <;> decide
        case hR =>
          intro s' c' hm hc' hS'
          obtain ⟨h', g', d', tk', os'⟩ := s'
          have eg : g' = s.gens := hm.gens
          have ed : d' = s.drawn := hm.drawn
          have eo : os' = s.os := hm.os
          subst eg; subst ed; subst eo
          show wpAny _ _ _ _ _ _
          refine wpAny_pure ?_
          show wpAny _ _ (ret Value.none) _ _ _
          refine wpAny_pure ⟨rfl, h', tk', c', rfl, hc', hS', fun b o hb e => ?_⟩
          have hb1 : b ≠ s.heap.objs.size := Nat.ne_of_lt hb
          have hb2 : b ≠ H1.objs.size := by
            rw [hsz]; exact Nat.ne_of_lt (Nat.lt_succ_of_lt hb)
          exact hm.heap b o (by simp only [List.mem_cons, List.mem_singleton, List.not_mem_nil, or_false, not_or]; exact ⟨hb1, hb2⟩) (Heap.get?_push_of_some _ (hold _ _ e))
      · cases r₂ with
        | error e => exact hr₂
        | ok fl₂ =>
          cases fl₂ with
          | ret r =>
            obtain ⟨rfl, h', tk, c', rfl, hc', hS', hk'⟩ := hr₂
            repeat' (first | (first | with_reducible (first | refine wpAny_pure ?_ | refine wpAny_bind ?_ | refine wpAny_holding ?_ | refine wpAny_of_eq (by assumption) ?_ | refine wpAny_rule ?_ | refine wpAny_specialOf_val (by assumption) (by assumption) ?_ | refine wpAny_fresh' ?_ | refine wpAny_alloc' ?_ | refine wpAny_attempt ?_ | refine wpAny_call ?_ | refine wpAny_loadPart' (by assumption) ?_ | refine wpAny_load' (by assumption) ?_ | refine wpAny_typeOf (by assumption) ?_ | refine wpAny_specialOf (by assumption) (by assumption) ?_ | refine wpAny_isInstance_val (by assumption) (by assumption) ?_ | refine wpAny_isInstance (by assumption) (by assumption) ?_ | refine wpAny_standAt ?_ | refine wpAny_point ?_ | refine wpAny_letGo ?_ | refine wpAny_runValue ?_ | refine wpAny_run ?_) | ((with_reducible refine wpAny_ite_false ?_ ?_); focus (rfl; done)) | ((with_reducible refine wpAny_ite_true ?_ ?_); focus (rfl; done)) | wp_delta | with_reducible_and_instances (first | refine wpAny_pure ?_ | refine wpAny_bind ?_)) | with_reducible assumption)
            exact h _ _ _ hc' hS' hk'
          | _ => exact hr₂.elim
    | _ => exact hr.elim
end
section
variable {w : World} {A : Around} {h₀ : Heap} {env : Env} {ρ : Rho} {σ : Led}
theorem has_any (ss : List Str) (k : Str) : has (fun i => ss.getD i ⟨#[]⟩) ss.length k = ss.any (· == k) := by
  unfold has
  rw [Bool.eq_iff_iff]
  simp only [List.any_eq_true, List.mem_range, beq_iff_eq]
  constructor
  · rintro ⟨i, hi, e⟩
    refine ⟨ss[i], by simp, ?_⟩
    simpa [List.getD, hi] using e
  · rintro ⟨x, hx, rfl⟩
    obtain ⟨i, hi, rfl⟩ := List.mem_iff_getElem.mp hx
    exact ⟨i, hi, by simp [List.getD, hi]⟩
/-- `set(xs)` of a list of texts -/
theorem w_setOfSL {a : Addr} {o : Obj} {ss : List Str} {Q : Value → Rho → Led → Prop} (hh : A.handled = none) (hk : Kn h₀ σ a o) (hl : SL o ss) (hz : ss.length ≤ 90)
    (h : ∀ D o c, SO w o (fun k => ss.any (· == k)) c → Q (.ref D) ρ ((D, o) :: σ)) : W w A h₀ env ρ σ (PySem.call (.type "set") [.ref a]) Q := fun s ht F => by
  obtain ⟨l, hl, rfl⟩ := hl
  have hlen : (strValues l).toArray.size = (l.map (·.1)).length := by simp [strValues_len]
  refine call_set_strs (val := fun i => (l.map (·.1)).getD i ⟨#[]⟩) hh (hl.isList (F.kn hk)) (fun i v hv => ?_) ?_ fun h' tk c hc hS hk' => ?_
  · obtain ⟨p, e1, e2⟩ := strValues_get (l := l) (i := i) (v := v) (by simpa using hv)
    exact ⟨p.2, by rw [e2]; simp [List.getD, e1]⟩
  · rw [hlen]; exact Nat.lt_of_le_of_lt (Nat.succ_le_succ hz) (by decide)
  · rw [hlen] at hS
    have e : has (fun i => (l.map (·.1)).getD i ⟨#[]⟩) (l.map (·.1)).length = fun k => (l.map (·.1)).any (· == k) := funext fun k => has_any _ k
    rw [e] at hS
    obtain ⟨o', ho', hso⟩ := so_of hS
    exact ⟨ρ, _, h', tk, rfl, F.add (tl := [(s.heap.objs.size, o')]) (fun b o hb => hk' b o (Heap.lt_size hb) hb) (fun p hp => by
      rw [List.mem_singleton.mp hp]
      refine ⟨ho', ?_⟩
      cases e : s.heap.get? s.heap.objs.size with
      | none => rfl
      | some o' => exact absurd (Heap.lt_size e) (Nat.lt_irrefl _)) (by simp), h _ _ c hso⟩
end
end Mine
end

section
open PySem PySem.W PyProof.Rows PySem.Calls PySem.Builtin
set_option maxRecDepth 100000
set_option maxHeartbeats 2000000
set_option linter.unusedVariables false
namespace Mine
theorem set_no_getattr : typeLookup (.type "set") "__getattr__" = pure none := by rw [typeLookup_type, builtinLookup_eq_fast]; kernel_rfl
theorem entry_set_getattribute : entryFor table "set.__getattribute__" = some Builtin.«object.__getattribute__» :=
  entryFor_alias (id' := "object.__getattribute__") (by rw [fastTable_eq_tree]; kernel_rfl) (by decide +kernel) (by rw [S.canonicalZ_eq]; decide +kernel) (by rw [fastTable_eq_tree]; kernel_rfl)
theorem sub_ss : isSubtype (.type "set") (.type "set") = pure true := by rw [isSubtype_type]; kernel_rfl
theorem sub_sm : isSubtype (.type "set") (.type "module") = pure false := by rw [isSubtype_type]; kernel_rfl
theorem kind_contains : builtinKind "set.__contains__" = some .method := by rw [PySem.W.Fast.te11380579304954806539]; kernel_rfl
theorem gb_contains {prog : Program} {w : World} {A : Around} {E : Value → Shared → Prop} {s : Shared} {a : Addr} {o : Obj} {Q : Value → Shared → Prop} (ho : s.heap.get? a = some o) (hc : o.cls = .type "set") (hd : o.dict = none) (hdat : ∃ es ep t, o.data = .set es ep t)
    (h : ∀ tk, Q (.ref s.heap.objs.size) { s with heap := s.heap.push (bobj "set.__contains__" (.ref a)), toks := tk }) : wpAny (model prog w) A (getAttr (.ref a) "__contains__" true) Q E s := by
  obtain ⟨c, dct, dat, sl⟩ := o
  obtain ⟨xs, n, tb, rfl⟩ := hdat
  simp only at hc hd
  subst hc hd
  obtain ⟨hp, g, d, tk, os⟩ := s
  have hT : ∀ tk', (⟨hp, g, d, tk', os⟩ : Shared).TypeIs (.ref a) "set" := fun _ => ⟨_, ho, rfl⟩
  have f3 := PySem.F.slot_set_getattribute.lookup
  have f4 := PySem.F.slot_set_getattribute.bind (.ref a)
  have f5 := set_no_getattr
  have f6 := PySem.F.slot_set_contains.lookup
  have f7 := PySem.F.type_set_contains
  have f8 := slot_mdget.lookup
  have f9 := md_set
  have f10 := md_del
  unfold getAttr getAttrBy
  repeat' (first | (first | with_reducible (first | refine wpAny_pure ?_ | refine wpAny_bind ?_ | refine wpAny_holding ?_ | refine wpAny_of_eq (by assumption) ?_ | refine wpAny_rule ?_ | refine wpAny_specialOf_val (by assumption) (by assumption) ?_ | refine wpAny_fresh' ?_ | refine wpAny_alloc' ?_ | refine wpAny_attempt ?_ | refine wpAny_call ?_ | refine wpAny_loadPart' (by assumption) ?_ | refine wpAny_load' (by assumption) ?_ | refine wpAny_typeOf (by assumption) ?_ | refine wpAny_specialOf (by assumption) (by assumption) ?_ | refine wpAny_isInstance_val (by assumption) (by assumption) ?_ | refine wpAny_isInstance (by assumption) (by assumption) ?_ | refine wpAny_standAt ?_ | refine wpAny_point ?_ | refine wpAny_letGo ?_ | refine wpAny_runValue ?_ | refine wpAny_run ?_) | ((with_reducible refine wpAny_ite_false ?_ ?_); focus (rfl; done)) | ((with_reducible refine wpAny_ite_true ?_ ?_); focus (rfl; done)) | wp_delta | with_reducible_and_instances (first | refine wpAny_pure ?_ | refine wpAny_bind ?_)) | with_reducible assumption | with_reducible exact hT _)
  refine codeAny_call_builtin PySem.F.slot_set_getattribute.plain entry_set_getattribute (PySem.F.slot_set_getattribute.check _ _ _ _ _ _ _ _ (hT _) (PySem.F.args_set_getattribute_2 _ _) ?_)
  unfold Builtin.«object.__getattribute__»
  repeat' (first | (first | with_reducible (first | refine wpAny_pure ?_ | refine wpAny_bind ?_ | refine wpAny_holding ?_ | refine wpAny_of_eq (by assumption) ?_ | refine wpAny_rule ?_ | refine wpAny_specialOf_val (by assumption) (by assumption) ?_ | refine wpAny_fresh' ?_ | refine wpAny_alloc' ?_ | refine wpAny_attempt ?_ | refine wpAny_call ?_ | refine wpAny_loadPart' (by assumption) ?_ | refine wpAny_load' (by assumption) ?_ | refine wpAny_typeOf (by assumption) ?_ | refine wpAny_specialOf (by assumption) (by assumption) ?_ | refine wpAny_isInstance_val (by assumption) (by assumption) ?_ | refine wpAny_isInstance (by assumption) (by assumption) ?_ | refine wpAny_standAt ?_ | refine wpAny_point ?_ | refine wpAny_letGo ?_ | refine wpAny_runValue ?_ | refine wpAny_run ?_) | ((with_reducible refine wpAny_ite_false ?_ ?_); focus (rfl; done)) | ((with_reducible refine wpAny_ite_true ?_ ?_); focus (rfl; done)) | wp_delta | with_reducible_and_instances (first | refine wpAny_pure ?_ | refine wpAny_bind ?_)) | with_reducible assumption | with_reducible exact hT _)
  refine codeAny_call_builtin slot_mdget.plain entry_mdget (slot_mdget.check _ _ _ _ _ _ _ _ PySem.F.type_set_contains (args_mdget _ _ _) ?_)
  unfold Builtin.«method_descriptor.__get__»
  repeat' (first | (first | with_reducible (first | refine wpAny_pure ?_ | refine wpAny_bind ?_ | refine wpAny_holding ?_ | refine wpAny_of_eq (by assumption) ?_ | refine wpAny_rule ?_ | refine wpAny_specialOf_val (by assumption) (by assumption) ?_ | refine wpAny_fresh' ?_ | refine wpAny_alloc' ?_ | refine wpAny_attempt ?_ | refine wpAny_call ?_ | refine wpAny_loadPart' (by assumption) ?_ | refine wpAny_load' (by assumption) ?_ | refine wpAny_typeOf (by assumption) ?_ | refine wpAny_specialOf (by assumption) (by assumption) ?_ | refine wpAny_isInstance_val (by assumption) (by assumption) ?_ | refine wpAny_isInstance (by assumption) (by assumption) ?_ | refine wpAny_standAt ?_ | refine wpAny_point ?_ | refine wpAny_letGo ?_ | refine wpAny_runValue ?_ | refine wpAny_run ?_) | ((with_reducible refine wpAny_ite_false ?_ ?_); focus (rfl; done)) | ((with_reducible refine wpAny_ite_true ?_ ?_); focus (rfl; done)) | wp_delta | with_reducible_and_instances (first | refine wpAny_pure ?_ | refine wpAny_bind ?_)) | with_reducible assumption | with_reducible exact hT _)
  have hown : ".".intercalate ("set.__contains__".cutAt '.').dropLast = "set" := by decide +kernel
  rw [hown]
  have f11 := sub_ss
  repeat' (first | (first | with_reducible (first | refine wpAny_pure ?_ | refine wpAny_bind ?_ | refine wpAny_holding ?_ | refine wpAny_of_eq (by assumption) ?_ | refine wpAny_rule ?_ | refine wpAny_specialOf_val (by assumption) (by assumption) ?_ | refine wpAny_fresh' ?_ | refine wpAny_alloc' ?_ | refine wpAny_attempt ?_ | refine wpAny_call ?_ | refine wpAny_loadPart' (by assumption) ?_ | refine wpAny_load' (by assumption) ?_ | refine wpAny_typeOf (by assumption) ?_ | refine wpAny_specialOf (by assumption) (by assumption) ?_ | refine wpAny_isInstance_val (by assumption) (by assumption) ?_ | refine wpAny_isInstance (by assumption) (by assumption) ?_ | refine wpAny_standAt ?_ | refine wpAny_point ?_ | refine wpAny_letGo ?_ | refine wpAny_runValue ?_ | refine wpAny_run ?_) | ((with_reducible refine wpAny_ite_false ?_ ?_); focus (rfl; done)) | ((with_reducible refine wpAny_ite_true ?_ ?_); focus (rfl; done)) | wp_delta | with_reducible_and_instances (first | refine wpAny_pure ?_ | refine wpAny_bind ?_)) | with_reducible assumption | with_reducible exact hT _)
  exact h _
theorem var_contains : Manifest.varargsMethods.contains "set.__contains__" = false := by decide +kernel
theorem bok_contains (D : Addr) (v : Value) : boundOk "set" "set.__contains__" ⟨[.ref D, v], []⟩ := by unfold boundOk; rw [S.signatureZ_eq, PySem.W.Fast.te16078263539434579649]; kernel_rfl
theorem cbs {prog : Program} {w : World} {A : Around} {E : Value → Shared → Prop} {s : Shared} {D : Addr} {v : Value} {es : Array (Int × Value)} {ep : Nat} {tb : SetTable} {sl : Array (Option Value)} {Q : Unit → Shared → Prop} (hD : s.heap.get? D = some { cls := .type "set", data := .set es ep tb, slots := sl }) (h : Q () s) : wpAny (model prog w) A (checkBoundCall "set.__contains__" ⟨[.ref D, v], []⟩) Q E s := by
  have hc := bok_contains D v
  with_reducible exact cb_method kind_contains hD rfl rfl sub_sm var_contains hc h
theorem bound_contains {prog : Program} {w : World} {A : Around} {s : Shared} {B D : Addr} {v : Value} {R : Result → Shared → Prop} (hB : s.heap.get? B = some (bobj "set.__contains__" (.ref D))) {es : Array (Int × Value)} {ep : Nat} {tb : SetTable} {sl : Array (Option Value)} (hD : s.heap.get? D = some { cls := .type "set", data := .set es ep tb, slots := sl })
    (h : codeAny (model prog w) A (.builtin "set.__contains__" ⟨[.ref D, v], []⟩) R s) : codeAny (model prog w) A (.call (.ref B) ⟨[v], []⟩) R s := by
  refine codeAny_of_tree ?_
  show wpAny _ _ (callAny (.ref B) _) _ _ _
  unfold callAny
  refine wpAny_bind (wpAny_load hB ?_)
  dsimp only
  show wpAny _ _ (checkBoundCall "set.__contains__" ⟨[.ref D, v], []⟩ >>= _) _ _ _
  with_reducible refine wpAny_bind (cbs hD ?_)
  exact wpAny_pure ⟨Code.quiet_builtin _ (by decide +kernel), h⟩
/-- `s.__contains__(x)` by the bound method -/
theorem call_contains {w : World} {A : Around} {E : Value → Shared → Prop} {s : Shared} {B D : Addr} {k : Str} {t : Tok} {S : Str → Bool} {n : Nat} {Q : Value → Shared → Prop} (hB : s.heap.get? B = some (bobj "set.__contains__" (.ref D))) (hS : s.heap.SetOf (PySem.strKind PP w) D S n)
    (h : Q (.bool (S k)) { s with toks := s.toks + 1 }) : wpAny (model PP w) A (PySem.call (.ref B) [.str k t]) Q E s := by
  obtain ⟨⟨oc, od, odd, osl⟩, es, ep, tb, e1, e2, e3, _⟩ := id hS
  obtain ⟨e2, e4, _⟩ := e2
  dsimp only at e2 e3 e4
  subst e2 e3 e4
  refine wpAny_call (bound_contains hB e1 (codeAny_builtin entry_set_contains ?_))
  rw [Around.under_plainId (by decide +kernel) _]
  unfold Builtin.«frozenset.__contains__» Builtin.Frozenset.oneOther
  simp only [List.isEmpty_nil, bind_assoc]
  unfold Builtin.Frozenset.addrOf Builtin.Frozenset.withSetAsKey setContains
  refine wpAny_bind (wpAny_pure ?_)
  try dsimp only
  refine wpAny_bind (wpAny_pure ?_)
  try dsimp only
  refine wpAny_bind (wpAny_tryCatch ?_)
  refine wpAny_holding ?_
  refine wpAny_bind ((PySem.strKind PP w).pyHash (strKind_is PP w k t) ?_)
  refine wpAny_bind (wpAny_setFind_of (s := { s with toks := s.toks + 1 }) (strKind_is PP w k t) (by rfl) hS fun r hr => ?_)
  refine wpAny_pure ?_
  show wpAny _ _ (ret (Value.bool r.isSome)) _ _ _
  rw [hr]
  exact wpAny_pure h
section
variable {w : World} {A : Around} {h₀ : Heap} {env : Env} {ρ : Rho} {σ : Led}
theorem w_boundContains {a : Addr} {o : Obj} {S : Str → Bool} {n : Nat} {Q : Value → Rho → Led → Prop} (hk : Kn h₀ σ a o) (hs : SO w o S n) (h : ∀ B, Q (.ref B) ρ ((B, bobj "set.__contains__" (.ref a)) :: σ)) : W w A h₀ env ρ σ (getAttr (.ref a) "__contains__" true) Q := fun s ht F => by
  obtain ⟨o', es, ep, t, e1, e2, e3, _⟩ := hs _ _ (F.kn hk)
  exact gb_contains e1 e2.1 e2.2.1 ⟨es, ep, t, e3⟩ fun tk => ⟨ρ, _, _, tk, rfl, F.push _ rfl, h _⟩
end
end Mine
end

section
open PySem PySem.W PyProof.Rows PySem.Calls PySem.Builtin
set_option maxRecDepth 100000
set_option maxHeartbeats 1000000
set_option linter.unusedVariables false
namespace Mine
/-! one step of a list's iterator, as built-in code -/
section
variable {prog : Program} {w : World} {A : Around} {E : Value → Shared → Prop} {s : Shared}
theorem lnext_item {it l : Addr} {i : Nat} {items : Array Value} {x : Value} {Q : Value → Shared → Prop} (hit : s.heap.IsListIter it l i) (hl : s.heap.IsList l items) (hx : items[i]? = some x)
    (hQ : ∀ h', h'.IsListIter it l (i + 1) → Heap.SameBut it s.heap h' → Q x { s with heap := h' }) : wpAny (model prog w) A (Builtin.«list_iterator.__next__» ⟨[.ref it], []⟩) (fun fin s' => ∃ v, fin = .done (.ret v) ∧ Q v s') E s := by
  obtain ⟨o, ho, hc, hd⟩ := id hit
  obtain ⟨ol, hol, _, nl, hdl⟩ := hl
  show wpAny _ _ (field (.ref it) 0 >>= _) _ _ s
  refine wpAny_bind (wpAny_field ho hd (x := .ref l) rfl ?_)
  show wpAny _ _ (if (Value.ref l == Value.none) = true then _ else _) _ _ s
  rw [if_neg (show ¬ ((Value.ref l == Value.none) = true) from Bool.false_ne_true)]
  show wpAny _ _ (field (.ref it) 1 >>= _) _ _ s
  refine wpAny_bind (wpAny_field ho hd (x := .int i 0) rfl ?_)
  show wpAny _ _ (seqItems? (.ref l) >>= _) _ _ s
  refine wpAny_bind (wpAny_seqItems hol hdl ?_)
  simp only [Int.toNat_natCast, hx]
  refine wpAny_bind (wpAny_setField ho hd (by simp) (wpAny_pure ⟨x, rfl, hQ _ ?_ (Heap.SameBut.update ..)⟩))
  exact ⟨_, Heap.get?_update_self _ ho (Obj.isFreed_of_fields (Obj.data_mapFields hd _)), (Obj.cls_mapFields ..).trans hc, by
    rw [Obj.data_mapFields hd]; simp [rawInt]⟩
theorem lnext_end {it l : Addr} {i : Nat} {items : Array Value} {Q : PySem.Fin → Shared → Prop} (hh : A.handled = none) (hit : s.heap.IsListIter it l i) (hl : s.heap.IsList l items) (hx : items[i]? = none)
    (hE : ∀ h' e, Heap.ExtBut it s.heap h' → (∃ o, h'.get? e = some o ∧ o.cls = .type "StopIteration") → s.heap.get? e = none → E (.ref e) { s with heap := h' }) : wpAny (model prog w) A (Builtin.«list_iterator.__next__» ⟨[.ref it], []⟩) Q E s := by
  obtain ⟨o, ho, hc, hd⟩ := id hit
  obtain ⟨ol, hol, _, nl, hdl⟩ := hl
  show wpAny _ _ (field (.ref it) 0 >>= _) _ _ s
  refine wpAny_bind (wpAny_field ho hd (x := .ref l) rfl ?_)
  show wpAny _ _ (if (Value.ref l == Value.none) = true then _ else _) _ _ s
  rw [if_neg (show ¬ ((Value.ref l == Value.none) = true) from Bool.false_ne_true)]
  show wpAny _ _ (field (.ref it) 1 >>= _) _ _ s
  refine wpAny_bind (wpAny_field ho hd (x := .int i 0) rfl ?_)
  show wpAny _ _ (seqItems? (.ref l) >>= _) _ _ s
  refine wpAny_bind (wpAny_seqItems hol hdl ?_)
  simp only [Int.toNat_natCast, hx]
  refine wpAny_bind (wpAny_rule (wpAny_bind (wpAny_setField ho hd (by simp) ?_)))
  show wpAny _ _ (newExc (.type "StopIteration") [] >>= _) _ _ _
  refine wpAny_bind ?_
  simp only [newExc, newTuple]
  refine wpAny_bind (wpAny_newObj_type ?_ (by size_fits))
  refine wpAny_bind (m := firstArgMember _ _) (wpAny_of_eq (a := Value.none) (by first | rfl | (simp only [firstArgMember]; rfl)) ?_)
  refine wpAny_newObj_type ?_ (by size_fits)
  simp only [raiseNew]
  refine wpAny_bind (wpAny_handled ?_)
  rw [hh]
  refine wpAny_bind (wpAny_pure (wpAny_throw ?_))
  refine hE _ _ (((Heap.SameBut.update ..).extBut.push _).push _) ⟨_, Heap.get?_push_size _ rfl, rfl⟩ ?_
  cases e : s.heap.get? _ with
  | none => rfl
  | some o' =>
    have := Heap.lt_size e
    rw [Heap.size_push] at this
    rw [(Heap.SameBut.update ..).1] at this
    exact absurd this (Nat.not_lt.mpr (Nat.le_succ _))
end
theorem mro_filter : mroOf (.type "filter") = pure [.type "filter", .type "object"] := by rw [mroOf_type]; kernel_rfl
theorem lookup_filter_new : typeLookup (.type "filter") "__new__" = pure (some (.builtin "filter.__new__")) := by rw [typeLookup_type, builtinLookup_eq_fast]; kernel_rfl
theorem slot_filter_init : Slot "filter" "__init__" "object.__init__" :=
  .of (owner := "object") (n := "__init__") (by rw [typeLookup_type, builtinLookup_eq_fast]; kernel_rfl) (by decide +kernel) (by decide +kernel) (by decide +kernel)
    (by first | exact .inl (by decide +kernel) | exact .inr (by decide +kernel)) (by rw [isSubtype_type]; kernel_rfl)
theorem called_filter : TypeCalled "filter" "filter.__new__" "object.__init__" :=
  ⟨by decide +kernel, by decide +kernel, ⟨_, _, mro_filter⟩, madeBy_type mro_filter lookup_filter_new (by decide +kernel), by decide +kernel, by rw [isSubtype_type]; kernel_rfl, slot_filter_init⟩
theorem typeCall_filter_2 (a b : Value) : checkTypeCall "filter" ⟨[a, b], []⟩ = pure () := by rw [PySem.W.Fast.te11612656972197000677]; kernel_rfl
theorem newCall_filter_2 (a b : Value) : checkBuiltinCall "filter.__new__" ⟨[.type "filter", a, b], []⟩ = pure () := by rw [PySem.W.Fast.te10254737850608025244]; kernel_rfl
theorem entry_filter_new : entryFor table "filter.__new__" = some Builtin.«filter.__new__» := entryFor_of_tree (by kernel_rfl)
theorem sub_filter : isSubtype (.type "filter") (.type "filter") = pure true := by rw [isSubtype_type]; kernel_rfl
theorem slot_filter_next : Slot "filter" "__next__" "filter.__next__" :=
  .of (owner := "filter") (n := "__next__") (by rw [typeLookup_type, builtinLookup_eq_fast]; kernel_rfl) (by decide +kernel) (by decide +kernel) (by decide +kernel)
    (by first | exact .inl (by decide +kernel) | exact .inr (by decide +kernel)) sub_filter
theorem entry_filter_next : entryFor table "filter.__next__" = some Builtin.«filter.__next__» := entryFor_of_tree (by kernel_rfl)
theorem args_filter_next (a : Value) : argsOk "filter.__next__" ⟨[a], []⟩ := by unfold argsOk; rw [S.signatureZ_eq, PySem.W.Fast.te16078263539434579649]; kernel_rfl
theorem filter_no_len : typeLookup (.type "filter") "__len__" = pure none := by rw [typeLookup_type, builtinLookup_eq_fast]; kernel_rfl
theorem filter_no_hint : typeLookup (.type "filter") "__length_hint__" = pure none := by rw [typeLookup_type, builtinLookup_eq_fast]; kernel_rfl
theorem slot_filter_iter : Slot "filter" "__iter__" "filter.__iter__" :=
  .of (owner := "filter") (n := "__iter__") (by rw [typeLookup_type, builtinLookup_eq_fast]; kernel_rfl) (by decide +kernel) (by decide +kernel) (by decide +kernel)
    (by first | exact .inl (by decide +kernel) | exact .inr (by decide +kernel)) sub_filter
theorem entry_filter_iter : entryFor table "filter.__iter__" = some Builtin.«dict_keyiterator.__iter__» :=
  entryFor_alias (id' := "dict_keyiterator.__iter__") (by rw [fastTable_eq_tree]; kernel_rfl) (by decide +kernel) (by rw [S.canonicalZ_eq]; decide +kernel) (by rw [fastTable_eq_tree]; kernel_rfl)
theorem args_filter_iter (a : Value) : argsOk "filter.__iter__" ⟨[a], []⟩ := by unfold argsOk; rw [S.signatureZ_eq, PySem.W.Fast.te16078263539434579649]; kernel_rfl
theorem plain_filter_next : plainId "filter.__next__" = true := by decide +kernel
noncomputable abbrev filO (f : Value) (I : Addr) : Obj := { cls := .type "filter", data := .fields #[f, .ref I] }
noncomputable abbrev filH1 (h : Heap) (l1 : Addr) : Heap := h.push { cls := .type "list_iterator", data := .fields #[.ref l1, .int 0 0] }
theorem meets_filter_new (f : Value) (l1 : Addr) (xs : Array Value) :
    Meets (Builtin.«filter.__new__» ⟨[.type "filter", f, .ref l1], []⟩) (fun _ R s => s.heap.IsList l1 xs ∧
      R (.ok (.ret (.ref (filH1 s.heap l1).objs.size))) { s with heap := (filH1 s.heap l1).push (filO f s.heap.objs.size) }) :=
  .of_wp fun prog w A R s h => by
    obtain ⟨hp, g, d, tk, os⟩ := s; obtain ⟨hl1, h⟩ := h
    have hsub := sub_filter
    have hL1 : Heap.IsList (Shared.heap ⟨hp, g, d, tk, os⟩) l1 xs := hl1
    repeat' (first | (with_reducible refine wpAny_pyIter_list hL1 ?_) | (first | with_reducible (first | refine wpAny_pure ?_ | refine wpAny_bind ?_ | refine wpAny_holding ?_ | refine wpAny_of_eq (by assumption) ?_ | refine wpAny_rule ?_ | refine wpAny_specialOf_val (by assumption) (by assumption) ?_ | refine wpAny_fresh' ?_ | refine wpAny_alloc' ?_ | refine wpAny_attempt ?_ | refine wpAny_call ?_ | refine wpAny_loadPart' (by assumption) ?_ | refine wpAny_load' (by assumption) ?_ | refine wpAny_typeOf (by assumption) ?_ | refine wpAny_specialOf (by assumption) (by assumption) ?_ | refine wpAny_isInstance_val (by assumption) (by assumption) ?_ | refine wpAny_isInstance (by assumption) (by assumption) ?_ | refine wpAny_standAt ?_ | refine wpAny_point ?_ | refine wpAny_letGo ?_ | refine wpAny_runValue ?_ | refine wpAny_run ?_) | ((with_reducible refine wpAny_ite_false ?_ ?_); focus (rfl; done)) | ((with_reducible refine wpAny_ite_true ?_ ?_); focus (rfl; done)) | wp_delta | with_reducible_and_instances (first | refine wpAny_pure ?_ | refine wpAny_bind ?_)) | with_reducible assumption)
    exact ⟨_, rfl, h⟩
section
variable {w : World} {A : Around} {h₀ : Heap} {env : Env} {ρ : Rho} {σ : Led}
theorem w_filter {f : Value} {a : Addr} {o : Obj} {vs : List Value} {Q : Value → Rho → Led → Prop} (hk : Kn h₀ σ a o) (hl : LObj o vs) (h : ∀ M I oi, ItL a 0 oi → Q (.ref M) ρ ((M, filO f I) :: (I, oi) :: σ)) : W w A h₀ env ρ σ (PySem.call (.type "filter") [f, .ref a]) Q := fun s ht F => by
  refine callType_new called_filter (by decide) (typeCall_filter_2 _ _) (newCall_filter_2 _ _) (fun obj => PySem.F.args_object_init_3 obj _ _) entry_filter_new (meets_filter_new f a vs.toArray) ⟨hl.isList (F.kn hk), ⟨_, Heap.get?_push_size _ rfl, rfl⟩, ?_⟩
  exact ⟨ρ, _, _, s.toks, rfl, (F.push _ rfl).push _ rfl, h _ _ _ ⟨rfl, rfl⟩⟩
end
/-! its step -/
section
variable {w : World} {A : Around} {R : Result → Shared → Prop}
theorem filter_turn {s : Shared} {M B I l D : Addr} {S : Str → Bool} {n p : Nat} {x : Str} {t : Tok} {xs : Array Value} (hM : s.heap.get? M = some (filO (.ref B) I)) (hI : s.heap.IsListIter I l p) (hl : s.heap.IsList l xs) (hx : xs[p]? = some (.str x t))
    (hB : s.heap.get? B = some (bobj "set.__contains__" (.ref D))) (hS : s.heap.SetOf (PySem.strKind PP w) D S n) (hIB : I ≠ B) (hID : I ≠ D)
    (h : ∀ h' tk, s.toks ≤ tk → h'.IsListIter I l (p + 1) → Heap.SameBut I s.heap h' → if S x then R (.ok (.ret (.str x t))) { s with heap := h', toks := tk } else codeAny (model PP w) A (.builtin "filter.__next__" ⟨[.ref M], []⟩) R { s with heap := h', toks := tk }) :
    codeAny (model PP w) A (.builtin "filter.__next__" ⟨[.ref M], []⟩) R s := by
  refine codeAny_builtin entry_filter_next ?_
  rw [Around.under_plainId plain_filter_next _]
  show wpAny _ A.in1 (field (.ref M) 0 >>= _) _ _ s
  refine wpAny_bind (wpAny_field hM rfl (x := .ref B) rfl ?_)
  show wpAny _ A.in1 (field (.ref M) 1 >>= _) _ _ s
  refine wpAny_bind (wpAny_field hM rfl (x := .ref I) rfl ?_)
  refine wpAny_bind (wpAny_callSpecial?_slot (name := Str.ofString "__next__") hI.typeIs slot_listiter_next (wpAny_call_entry slot_listiter_next hI.typeIs entry_listiter_next (lnext_item hI hl hx fun h' hi hs => ?_) (args_listiter_next _)))
  dsimp only
  refine wpAny_bind (wpAny_holding ?_)
  show wpAny _ A.in1 (PySem.call (.ref B) [.str x t] >>= _) _ _ _
  refine wpAny_bind (call_contains (B := B) (D := D) (S := S) (n := n) ((hs.2 _ (Ne.symm hIB)).trans hB) ?_ ?_)
  · obtain ⟨o, es, ep, tb, e1, r⟩ := hS
    exact ⟨o, es, ep, tb, (hs.2 _ (Ne.symm hID)).trans e1, r⟩
  refine wpAny_holding (wpAny_truthy_bool ?_)
  have := h h' (s.toks + 1) (Nat.le_succ _) hi hs
  cases hSx : S x with
  | true =>
    rw [hSx, if_pos rfl] at this
    exact wpAny_pure this
  | false =>
    rw [hSx, if_neg (by decide)] at this
    exact wpAny_pure ⟨plainId_quiet plain_filter_next _, this⟩
theorem filter_out {s : Shared} {M B I l : Addr} {p : Nat} {xs : Array Value} (hh : A.handled = none) (hM : s.heap.get? M = some (filO (.ref B) I)) (hI : s.heap.IsListIter I l p) (hl : s.heap.IsList l xs) (hx : xs[p]? = none)
    (h : ∀ h' e, Heap.ExtBut I s.heap h' → (∃ o, h'.get? e = some o ∧ o.cls = .type "StopIteration") → R (.error (.ref e)) { s with heap := h' }) :
    codeAny (model PP w) A (.builtin "filter.__next__" ⟨[.ref M], []⟩) R s := by
  refine codeAny_builtin entry_filter_next ?_
  rw [Around.under_plainId plain_filter_next _]
  show wpAny _ A.in1 (field (.ref M) 0 >>= _) _ _ s
  refine wpAny_bind (wpAny_field hM rfl (x := .ref B) rfl ?_)
  show wpAny _ A.in1 (field (.ref M) 1 >>= _) _ _ s
  refine wpAny_bind (wpAny_field hM rfl (x := .ref I) rfl ?_)
  exact wpAny_bind (wpAny_callSpecial?_slot (name := Str.ofString "__next__") hI.typeIs slot_listiter_next (wpAny_call_entry slot_listiter_next hI.typeIs entry_listiter_next (lnext_end (by exact hh) hI hl hx fun h' e hs he _ => h h' e hs he) (args_listiter_next _)))
theorem FS.kn_ne {h₀ h : Heap} {env : Env} {ρ : Rho} {σ : Led} {I B : Addr} {oi ob : Obj} (F : FS h₀ env ρ ((I, oi) :: σ) h) (k : Kn h₀ σ B ob) : I ≠ B := fun e => by
  subst e
  rcases k with k | k
  · exact (List.nodup_cons.mp F.nd).1 (List.mem_map.mpr ⟨_, k, rfl⟩)
  · have := F.fresh (.head _); rw [k] at this; cases this
/-- from a place in the list on -/
theorem filter_from {h₀ : Heap} {env : Env} {ρ : Rho} {σ : Led} {M B I a D : Addr} {o oD : Obj} {S : Str → Bool} {n : Nat} {ss : List Str} {vs : List Value} (hal : Al IsS ss vs) (hh : A.handled = none) (hl : LObj o vs) (ha : Kn h₀ σ a o) (hM : (M, filO (.ref B) I) ∈ σ) (hB : Kn h₀ σ B (bobj "set.__contains__" (.ref D))) (hD : Kn h₀ σ D oD) (hS : SO w oD S n) :
    ∀ (k p : Nat) (oi : Obj) (s : Shared), ss.length - p = k → p ≤ ss.length → ItL a p oi → FS h₀ env ρ ((I, oi) :: σ) s.heap →
      (∀ x rest v q oi' h' tk, (ss.drop p).filter S = x :: rest → IsS x v → q ≤ ss.length → (ss.drop q).filter S = rest → ItL a q oi' → s.toks ≤ tk → FS h₀ env ρ ((I, oi') :: σ) h' → R (.ok (.ret v)) { s with heap := h', toks := tk }) →
      (∀ h' e tk, (ss.drop p).filter S = [] → FS h₀ env ρ σ h' → s.toks ≤ tk → (∃ o, h'.get? e = some o ∧ o.cls = .type "StopIteration") → R (.error (.ref e)) { s with heap := h', toks := tk }) →
      codeAny (model PP w) A (.builtin "filter.__next__" ⟨[.ref M], []⟩) R s := by
  intro k
  induction k with
  | zero =>
    intro p oi s hk hp hI F h1 h2
    obtain rfl : p = ss.length := by lia
    refine filter_out hh (F.get (.tail _ hM)) ⟨oi, F.get (.head _), hI⟩ (hl.isList (F.kn (ha.imp (.tail _) id))) (by simp [hal.len]) fun h' e hs he => ?_
    exact h2 h' e s.toks (by simp) (F.gone hs) (Nat.le_refl _) he
  | succ k ih =>
    intro p oi s hk hp hI F h1 h2
    have hlt : p < vs.length := by rw [hal.len]; lia
    obtain ⟨x, hx, t, ex⟩ := hal.get (i := p) (v := vs[p]) (by simp [hlt])
    have hdrop : ss.drop p = x :: ss.drop (p + 1) := by
      have hlt' : p < ss.length := by lia
      rw [List.drop_eq_getElem_cons hlt']
      rw [List.getElem?_eq_getElem hlt'] at hx
      rw [Option.some.inj hx]
    refine filter_turn (x := x) (t := t) (F.get (.tail _ hM)) ⟨oi, F.get (.head _), hI⟩ (hl.isList (F.kn (ha.imp (.tail _) id))) (by simp [hlt, ex]) (F.kn (hB.imp (.tail _) id)) (hS _ _ (F.kn (hD.imp (.tail _) id))) (F.kn_ne hB) (F.kn_ne hD) fun h' tk htk qq3 hs => ?_
    obtain ⟨oi', ho', hi'⟩ := qq3
    have F' := F.same hs ho'
    cases hSx : S x with
    | true =>
      refine ite_t rfl (h1 x _ _ (p + 1) oi' h' tk ?_ ⟨t, rfl⟩ (by lia) rfl hi' htk F')
      rw [hdrop, List.filter_cons, hSx]; rfl
    | false =>
      have e : (ss.drop p).filter S = (ss.drop (p + 1)).filter S := by rw [hdrop, List.filter_cons, hSx]; rfl
      refine ite_f (by decide) (ih (p + 1) oi' { s with heap := h', toks := tk } (by grind) (by lia) hi' F' (fun y rest v q oi'' h'' tk' a1 a2 a3 a4 a5 a6 a7 => ?_) (fun h'' e' tk' a1 a2 a3 a4 => ?_))
      · exact h1 y rest v q oi'' h'' tk' (e.trans a1) a2 a3 a4 a5 (Nat.le_trans htk a6) a7
      · exact h2 h'' e' tk' (e.trans a1) a2 (Nat.le_trans htk a3) a4
end
section
variable {w : World} {A : Around} {h₀ : Heap} {env : Env} {ρ : Rho} {σ : Led}
theorem call_next_code {id : String} {T : String} {b : Builtin} {self : Value} {s : Shared} {Q : Value → Shared → Prop} {E : Value → Shared → Prop} (h : Slot T "__next__" id) (hT : s.TypeIs self T) (hb : entryFor table id = some b) (ha : argsOk id ⟨[self], []⟩)
    (hc : codeAny (model PP w) A (.builtin id ⟨[self], []⟩) (wants Q E) s) : wpAny (model PP w) A (PySem.call (.builtin id) [self]) Q E s :=
  wpAny_call (codeAny_call_builtin_code (plainId_quiet h.plain _) (h.check _ _ _ _ _ _ _ _ hT ha hc))
theorem next_filter {M B I a D : Addr} {o oD : Obj} {S : Str → Bool} {n : Nat} {ss : List Str} {vs : List Value} (hal : Al IsS ss vs) (hl : LObj o vs) (hS : SO w oD S n) :
    NextAt w A h₀ env ρ M "filter" (fun σ => Kn h₀ σ a o ∧ Kn h₀ σ B (bobj "set.__contains__" (.ref D)) ∧ Kn h₀ σ D oD) (ss.filter S).length
      (fun i ls => ∃ p oi, p ≤ ss.length ∧ (ss.drop p).filter S = (ss.filter S).drop i ∧ ItL a p oi ∧ ls = [(M, filO (.ref B) I), (I, oi)]) (fun i v => ∃ x, (ss.filter S)[i]? = some x ∧ IsS x v) where
  typ := fun i ls ⟨p, oi, _, _, _, e⟩ => by subst e; exact ⟨_, .head _, rfl⟩
  item := fun A' hA i ls σ Q hi ⟨p, oi, hp, hd, hI, e⟩ ⟨k1, k2, k3⟩ hQ s ht F => by
    subst e
    have hM := F.get (a := M) (.head _)
    have hty : s.TypeIs (.ref M) "filter" := ⟨_, hM, rfl⟩
    have F0 : FS h₀ env ρ ((I, oi) :: (M, filO (.ref B) I) :: σ) s.heap := F.sub swap_mem (swap_nd F.nd)
    unfold pyNext
    refine wpAny_bind (wpAny_attempt (wpAny_callSpecial?_slot (name := Str.ofString "__next__") hty slot_filter_next
      (call_next_code slot_filter_next hty entry_filter_next (args_filter_next _) (filter_from hal hA.1 hl (k1.imp (.tail _) id) (.head _) (k2.imp (.tail _) id) (k3.imp (.tail _) id) hS (ss.length - p) p oi s rfl hp hI F0 (fun x rest v q oi' h' tk a1 a2 a3 a4 a5 a6 a7 => ?_) (fun h' e tk a1 a2 a3 a4 => ?_)))))
    · rw [hd, List.drop_eq_getElem_cons hi] at a1
      injection a1 with b1 b2
      refine wpAny_pure ⟨ρ, _, h', tk, rfl, a7.sub swap_mem (swap_nd a7.nd), hQ v _ ⟨x, by rw [List.getElem?_eq_getElem hi, b1], a2⟩ ⟨q, oi', a3, by rw [a4, b2], a5, rfl⟩⟩
    · rw [hd, List.drop_eq_nil_iff] at a1
      lia
  done := fun A' hA ls σ Q ⟨p, oi, hp, hd, hI, e⟩ ⟨k1, k2, k3⟩ hQ s ht F => by
    subst e
    have hM := F.get (a := M) (.head _)
    have hty : s.TypeIs (.ref M) "filter" := ⟨_, hM, rfl⟩
    have F0 : FS h₀ env ρ ((I, oi) :: (M, filO (.ref B) I) :: σ) s.heap := F.sub swap_mem (swap_nd F.nd)
    unfold pyNext
    refine wpAny_bind (wpAny_attempt (wpAny_callSpecial?_slot (name := Str.ofString "__next__") hty slot_filter_next
      (call_next_code slot_filter_next hty entry_filter_next (args_filter_next _) (filter_from hal hA.1 hl (k1.imp (.tail _) id) (.head _) (k2.imp (.tail _) id) (k3.imp (.tail _) id) hS (ss.length - p) p oi s rfl hp hI F0 (fun x rest v q oi' h' tk a1 a2 a3 a4 a5 a6 a7 => ?_) (fun h' e tk a1 a2 a3 a4 => ?_)))))
    · rw [hd, List.drop_length] at a1; cases a1
    · obtain ⟨ob, ho, hc⟩ := a4
      refine wpAny_bind (wpAny_isInstance (T := "StopIteration") (b := true) ⟨ob, ho, hc⟩ isSubtype_stop ?_)
      exact wpAny_pure ⟨ρ, σ, h', tk, rfl, a2.drop, hQ⟩
  self := fun A' hA i ls σ Q ⟨p, oi, hp, hd, hI, e⟩ hQ s ht F => by
    subst e
    have hM := F.get (a := M) (.head _)
    have hty : s.TypeIs (.ref M) "filter" := ⟨_, hM, rfl⟩
    refine wpAny_pyIter_slot hty slot_filter_iter (wpAny_call_entry slot_filter_iter hty entry_filter_iter ?_ (args_filter_iter _))
    show wpAny _ _ (ret (.ref M)) _ _ s
    exact wpAny_pure ⟨_, rfl, "filter", _, hty, slot_filter_next.lookup, ρ, _, s.heap, s.toks, rfl, F, hQ⟩
/-- `list(filter(s.__contains__, xs))` once the filter stands -/
theorem w_listOfFilter {M B I a D : Addr} {o oD oi : Obj} {S : Str → Bool} {n : Nat} {ss : List Str} {Q : Value → Rho → Led → Prop} (hh : A.handled = none) (hI : ItL a 0 oi) (hl : SL o ss) (ha : Kn h₀ σ a o) (hB : Kn h₀ σ B (bobj "set.__contains__" (.ref D))) (hD : Kn h₀ σ D oD) (hS : SO w oD S n) (hz : ss.length ≤ 100000)
    (h : ∀ E o', SL o' (ss.filter S) → Q (.ref E) ρ ((E, o') :: σ)) : W w A h₀ env ρ ((M, filO (.ref B) I) :: (I, oi) :: σ) (PySem.call (.type "list") [.ref M]) Q := by
  obtain ⟨vs, hl', hal⟩ := hl.al
  refine w_listOfIt (ls := [(M, filO (.ref B) I), (I, oi)]) (next_filter hal hl' hS) (fun S o => ⟨ha.imp (.tail _) id, hB.imp (.tail _) id, hD.imp (.tail _) id⟩) hh (Nat.le_trans (List.length_filter_le ..) hz) ⟨0, oi, Nat.zero_le _, by simp, hI, rfl⟩ (by decide) (by decide) filter_no_len filter_no_hint fun E o' us hu hlen hP => ?_
  exact h E o' (SL.of hu (al_of_get _ _ hlen hP))
end
end Mine
end

section
open PySem PySem.W PyProof.Rows PySem.Calls
set_option maxRecDepth 100000
set_option maxHeartbeats 4000000
set_option linter.unusedVariables false
namespace Mine
/-! finding one's place in a ledger -/
noncomputable def put (a : Addr) (o' : Obj) (σ : Led) : Led := σ.map fun p => if p.1 = a then (a, o') else p
theorem put_none {a : Addr} {o' : Obj} : ∀ {σ : Led}, a ∉ σ.map (·.1) → put a o' σ = σ
  | [], _ => rfl
  | p :: r, h => by
    rw [List.map_cons, List.mem_cons, not_or] at h
    show (if p.1 = a then (a, o') else p) :: put a o' r = _
    rw [put_none h.2, if_neg fun e => h.1 e.symm]
theorem upd_put {a : Addr} {o o' : Obj} : ∀ {σ : Led}, (σ.map (·.1)).Nodup → (a, o) ∈ σ → Upd a o o' σ (put a o' σ)
  | p :: r, hn, hm => by
    rw [List.map_cons, List.nodup_cons] at hn
    show Upd a o o' (p :: r) ((if p.1 = a then (a, o') else p) :: put a o' r)
    rcases List.mem_cons.mp hm with e | hm
    · subst e
      rw [put_none hn.1, if_pos rfl]
      exact .head r
    · have : p.1 ≠ a := fun e => hn.1 (e ▸ List.mem_map.mpr ⟨_, hm, rfl⟩)
      rw [if_neg this]
      exact .tail p (upd_put hn.2 hm)
theorem put_mem {a b : Addr} {o o' : Obj} {σ : Led} (h : (b, o) ∈ σ) (hb : b ≠ a) : (b, o) ∈ put a o' σ := List.mem_map.mpr ⟨_, h, if_neg hb⟩
theorem put_here {a : Addr} {o o' : Obj} {σ : Led} (h : (a, o) ∈ σ) : (a, o') ∈ put a o' σ := List.mem_map.mpr ⟨_, h, if_pos rfl⟩
theorem W.nd {α : Type} {w : World} {A : Around} {h₀ : Heap} {env : Env} {ρ : Rho} {σ : Led} {t : Sem α} {Q : α → Rho → Led → Prop} (h : (σ.map (·.1)).Nodup → W w A h₀ env ρ σ t Q) : W w A h₀ env ρ σ t Q := fun s ht F => h F.nd s ht F
section
variable {w : World} {A : Around} {h₀ h h' : Heap} {env : Env} {ρ : Rho} {σ : Led} {loose : List Str} {mean : ExcName → Option Value} {mg mb : Str → Option Value} {need : Nat}
/-! calls of what the top holds -/
theorem w_callK0 (O : Ok w loose mean mg mb need A env h₀) {pos : Pos} {f : Value} {first : List Value} {Q : Value → Rho → Led → Prop} (hk : keepIn (KB w.params) f = true) (h : W w A h₀ env ρ σ (PySem.call f first) Q) :
    W w A h₀ env ρ σ (callWith pos f first (backTo pos (starEach [] env)) []) Q := fun s ht F =>
  callWith_K0 (K := KB w.params) (O.x.keeps F.keep) hk (by rw [List.append_nil]; exact h s ht F)
theorem w_callK (O : Ok w loose mean mg mb need A env h₀) {pos : Pos} {f : Value} {first : List Value} {e : Expr} {rest : List Expr} {Q : Value → Rho → Led → Prop} (hk : keepIn (KB w.params) f = true)
    (h : W w A h₀ env ρ σ (spliced (backTo pos (starEach (e :: rest) env))) fun vs ρ₁ σ₁ => W w A h₀ env ρ₁ σ₁ (PySem.call f (first ++ vs)) Q)
    (he : starEach (e :: rest) env = (false, eval e env) :: starEach rest env := by with_unfolding_all rfl) (hplain : (backTo pos (starEach rest env)).any (·.1) = false := by with_unfolding_all rfl) :
    W w A h₀ env ρ σ (callWith pos f first (backTo pos (starEach (e :: rest) env)) []) Q := fun s ht F =>
  callWith_K (K := KB w.params) O.x hk (W.step h ht F fun vs ρ' σ' h' tk htk _ F' q => ⟨O.x.keeps F'.keep, q.at htk F'⟩) he hplain
theorem w_star {e : Expr} {p pos : Pos} {rest : List Expr} {Q : List Value → Rho → Led → Prop}
    (h : W w A h₀ env ρ σ (eval e env) fun v ρ₁ σ₁ => ∃ a o vs, v = .ref a ∧ Kn h₀ σ₁ a o ∧ LW o vs ∧ vs.length ≤ 1000000 ∧ W w A h₀ env ρ₁ σ₁ (spliced (backTo pos (starEach rest env))) fun us => Q (vs ++ us))
    (he : starEach (.Starred e p :: rest) env = (true, eval e env) :: starEach rest env := by rfl) : W w A h₀ env ρ σ (spliced (backTo pos (starEach (.Starred e p :: rest) env))) Q := fun s ht F => by
  refine items_star (W.step h ht F fun v ρ' σ' h' tk htk _ F' qq8 => ?_) he
  obtain ⟨a, o, vs, e, hk, hl, hz, q⟩ := qq8
  subst e
  obtain ⟨hc, n, hd⟩ := hl
  have D := F'.kn hk
  have hT : Shared.TypeIs { s with heap := h', toks := tk } (.ref a) "list" := ⟨o, D, hc⟩
  unfold StarOf notIterableAtAll
  refine wpAny_bind (wpAny_specialOf hT PySem.F.slot_list_iter.lookup (wpAny_pure ⟨rfl, ?_⟩))
  refine wpAny_collect_seq a (T := "list") (.inl rfl) D hc hd (fun h'' hk' => ?_) (by rw [sizeLine_eq]; simp; exact Nat.le_trans (by assumption) (by decide))
  exact wpAny_mono (q.at (s := s) (tk := tk) htk (F'.stays hk')) (fun _ _ x => x) fun _ _ x => x
/-- a method of an instance -/
theorem w_gmI {C x dx f : Addr} {es : List DictEntry} {n : Nat} {name : Str} {pl : Sem Bool} {Q : Value × List Value → Rho → Led → Prop} (O : Ok w loose mean mg mb need A env h₀) (hx : Kn h₀ σ x (instObj C dx)) (hdx : Kn h₀ σ dx (dictOf es n)) (hg : plainGet (KB w.params) C name = true)
    (hf : findIn (KB w.params) (.ref C) name = some (some (.ref f))) (ht : isFn (KB w.params) (.ref f) = true) (hl : getL name es = some none) (h : Q (.ref f, [.ref x]) ρ σ) : W w A h₀ env ρ σ (getMethod (.ref x) name pl) Q := fun s hts F =>
  method_fn (O.x.keeps F.keep) (inst_at F hx hdx) (plainGet_of hg).1 (plainGet_of hg).2 hf (beq_iff_eq.mp ht) (by show (lookIn name (dictOf es n)).map _ = _; rw [lookIn_dict, hl]; rfl) ⟨ρ, σ, s.heap, s.toks, rfl, F, h⟩

/-! slots -/
noncomputable abbrev slObj (C dx : Addr) (sl : Array (Option Value)) : Obj := { cls := .ref C, dict := some dx, data := .plain, slots := sl }
theorem w_getSlot {C x dx p : Addr} {sl : Array (Option Value)} {od : Obj} {name : Str} {v : Value} {i : Nat} {Q : Value → Rho → Led → Prop} (O : Ok w loose mean mg mb need A env h₀) (hx : Kn h₀ σ x (slObj C dx sl)) (hdx : Kn h₀ σ dx od) (hg : plainGet (KB w.params) C name = true) (hc : isClsIn (KB w.params) C = true)
    (ha : findIn (KB w.params) (.ref C) name = some (some (.ref p))) (hn : specialIn (KB w.params) (.ref p) "__get__" = some (some (.builtin "member_descriptor.__get__"))) (ht : takesIn (KB w.params) (.ref p) = some true) (hp : slotIn (KB w.params) p C = some i)
    (hv : (sl[i]?).join = some v) (hh : handedIn v = true) (h : Q v ρ σ) : W w A h₀ env ρ σ (getAttr (.ref x) name true) Q := fun s hts F => by
  have X : (KB w.params).In s.heap := O.x.keeps F.keep
  have I : InstAt s.heap x (slObj C dx sl) C (some od) := ⟨F.kn hx, rfl, rfl, F.kn hdx⟩
  exact get_bind X I (plainGet_of hg).1 (findObj_data hc ha hn ht) (plainGet_of hg).2 (wpAny_call (slot_get (s := { s with toks := s.toks + 1 }) X I hp hv (handed_on hh ⟨ρ, σ, s.heap, _, rfl, F, h⟩)))
theorem w_setSlot {C x dx p : Addr} {sl : Array (Option Value)} {od : Obj} {name : Str} {v : Value} {i : Nat} {f : Obj → Led} {Q : Unit → Rho → Led → Prop} (O : Ok w loose mean mg mb need A env h₀) (hdx : Kn h₀ σ dx od) (U : ∀ o', Upd x (slObj C dx sl) o' σ (f o'))
    (hs : findIn (KB w.params) (.ref C) "__setattr__" = some (some (.builtin "object.__setattr__"))) (hp : plainOver (KB w.params) C = true) (ht : takerIn (KB w.params) C name = some (some (.ref p))) (hT : typeIn (KB w.params) (.ref p) = some (.type "member_descriptor")) (hi : slotIn (KB w.params) p C = some i) (hz : i < 1000)
    (h : Q () ρ (f (slObj C dx ((sl ++ Array.replicate (i + 1 - sl.size) none).setIfInBounds i (some v))))) : W w A h₀ env ρ σ (setAttr (.ref x) name v) Q := fun s hts F => by
  have X : (KB w.params).In s.heap := O.x.keeps F.keep
  obtain ⟨m, hn, hm⟩ := F.ns
  have I : InstAt s.heap x (slObj C dx sl) C (some od) := ⟨F.get (U { cls := .none, data := .freed }).mem, rfl, rfl, F.kn hdx⟩
  refine set_plain X I hs (osa_descr (s := { s with toks := s.toks + 1 }) KF.slot_mset X I hp ht hT (slot_set (s := { s with toks := s.toks + 1 }) (pre := []) (post := others s.heap env.locals x) (fr_all hn) (news_all F U) X I hi hz (fun _ hp => nomatch hp) (fun p hp => (others_of p hp).2.2) rfl rfl fun h' F' N' => ?_))
  exact ⟨ρ, _, h', _, rfl, fs_all F U hm F' N', h⟩

/-! tuples -/
noncomputable def ItT (a : Addr) (i : Nat) (o : Obj) : Prop := o.cls = .type "tuple_iterator" ∧ o.data = .fields #[.ref a, .int i 0]
theorem TObj.isTuple {a : Addr} {o : Obj} {vs : List Value} (x : TObj o vs) (e : h.get? a = some o) : h.IsTuple a vs.toArray := ⟨o, e, x.1, x.2⟩
theorem proto_tuple {a : Addr} {o : Obj} {vs : List Value} (hh : A.handled = none) (x : TObj o vs) : Proto w A h₀ env (fun σ => Kn h₀ σ a o) vs.length (ItT a) (fun i v => vs[i]? = some v) where
  item := fun i I oi ρ σ Q hi hI hk hQ s ht F => by
    have hl := x.isTuple (F.kn (hk.imp (.tail _) id))
    refine wpAny_pyNext_tuple_item ⟨oi, F.get (.head _), hI⟩ hl (x := vs[i]) (by simp [hi]) fun h' qq1 hs => ?_
    obtain ⟨o', ho', hi'⟩ := qq1
    exact ⟨ρ, (I, o') :: σ, h', s.toks, rfl, F.same hs ho', hQ _ _ (by simp [hi]) hi'⟩
  done := fun I oi ρ σ Q hI hk hQ s ht F => by
    have hl := x.isTuple (F.kn (hk.imp (.tail _) id))
    refine wpAny_pyNext_tuple_end hh ⟨oi, F.get (.head _), hI⟩ hl (by simp) fun h' hs => ?_
    exact ⟨ρ, σ, h', s.toks, rfl, F.gone hs, hQ⟩
  self := fun i I oi ρ σ Q hI hQ s ht F => wpAny_pyIter_tupleiter (t := a) (i := i) ⟨oi, F.get (.head _), hI⟩ (Post.now F hQ)
theorem w_forTuple {a : Addr} {o : Obj} {vs : List Value} {target : Expr} {body orelse : List Stmt} {Q : Flow → Rho → Led → Prop} (hh : A.handled = none) (hk : Kn h₀ σ a o) (x : TObj o vs) {σ₃ : Led} (hsub : σ₃.Sublist σ) (J : Nat → Rho → Led → Prop) (j0 : J 0 ρ σ₃)
    (hok : ∀ i ρ σ, J i ρ σ → Kn h₀ σ a o)
    (turn : ∀ i v I oi ρ σ, i < vs.length → vs[i]? = some v → J i ρ σ → W w A h₀ env ρ ((I, oi) :: σ) (PySem.assign target env v) fun _ ρ' σ' => W w A h₀ env ρ' σ' (execs body env) (FlI I oi (J (i + 1)) Q))
    (done : ∀ ρ σ, J vs.length ρ σ → W w A h₀ env ρ σ (execs orelse env) Q) :
    W w A h₀ env ρ σ (pyIter (.ref a)) fun it ρ'' σ'' => LoopAt w A h₀ env target body orelse Q it ρ'' σ'' := fun s ht F =>
  wpAny_pyIter_tuple (x.isTuple (F.kn hk)) ⟨ρ, _, _, s.toks, rfl, F.push _ rfl, _, _, _, _, J, _, _, σ₃, proto_tuple hh x, rfl, List.Sublist.cons_cons _ hsub, ⟨rfl, rfl⟩, j0, hok, fun i v I o ρ σ hi pv _ hJ => turn i v I o ρ σ hi pv hJ, done⟩

/-! stores in fields -/
theorem w_augAttr {o value : Expr} {attr : Str} {tpos pos : Pos} {op : Operator} {Q : Flow → Rho → Led → Prop}
    (h : W w A h₀ env ρ σ (eval o env) fun ov ρ₁ σ₁ => W w A h₀ env ρ₁ σ₁ (getAttr ov attr true) fun old ρ₂ σ₂ => W w A h₀ env ρ₂ σ₂ (eval value env) fun v ρ₃ σ₃ => W w A h₀ env ρ₃ σ₃ (inplaceOp op old v) fun new ρ₄ σ₄ => W w A h₀ env ρ₄ σ₄ (setAttr ov attr new) fun _ => Q .next) :
    W w A h₀ env ρ σ (exec (.AugAssign (.Attribute o attr tpos) op value pos) env) Q := fun s ht F =>
  wpAny_AugAssign_AttributeAny (W.step h ht F fun _ _ _ _ _ htk _ F' q => W.step q htk F' fun _ _ _ _ _ htk _ F' q => W.step q htk F' fun _ _ _ _ _ htk _ F' q => W.step q htk F' fun _ _ _ _ _ htk _ F' q => wpAny_mono (q.at htk F') (fun _ _ p => p) fun _ _ x => x)
theorem w_assign2t {t₁ t₂ value : Expr} {pos : Pos} {Q : Flow → Rho → Led → Prop}
    (h : W w A h₀ env ρ σ (eval value env) fun v ρ₁ σ₁ => W w A h₀ env ρ₁ σ₁ (PySem.assign t₁ env v) fun _ ρ₂ σ₂ => W w A h₀ env ρ₂ σ₂ (PySem.assign t₂ env v) fun _ => Q .next)
    (he : (assignEach [t₁, t₂] env).map (·.2) = [PySem.assign t₁ env, PySem.assign t₂ env] := by with_unfolding_all rfl) (hw : swappedStores [t₁, t₂] value env = pure none := by with_unfolding_all rfl) : W w A h₀ env ρ σ (exec (.Assign [t₁, t₂] value pos) env) Q := fun s ht F =>
  wpAny_Assign_two (W.step h ht F fun _ _ _ _ _ htk _ F' q => W.step q htk F' fun _ _ _ _ _ htk _ F' q => wpAny_mono (q.at htk F') (fun _ _ p => p) fun _ _ x => x) he hw

/-! a def with a star -/
theorem enterS {f : Addr} {name qual : Str} {params : Arguments} {body : List Stmt} {scope : Scope} {dV kV doc pm cdv ct oc : Value} {an od : Option Addr} {osl : Array (Option Value)} {args rest : List Value} {binds : Value → List (Str × Value)} {P : Led → Value → Prop} {σ₀ : Led} {k : Nat}
    (ho : (KB w.params).lookup f = some ⟨oc, od, .func (fnOf name qual params body scope dV kV doc pm an cdv ct), osl⟩) (hcd : codeIn (KB w.params) cdv qual = true)
    (hbind : bindArgs (fnOf name qual params body scope dV kV doc pm an cdv ct) ⟨args, []⟩ = (do let t ← newTuple rest; pure (binds t))) (hloc : ∀ T : Value, (binds T).all (fun x => decide (scope.names.lookup x.1 = some .local)) = true) (hz : rest.length ≤ 1000000)
    (h : ∀ A L T o ρ, Ok w loose mean mg mb k A (envOf qual scope L f cdv) h₀ → (∀ x v, (binds (.ref T)).reverse.lookup x = some v → ρ x = some v) → TObj o rest → W w A h₀ (envOf qual scope L f cdv) ρ ((T, o) :: σ₀) (execs body (envOf qual scope L f cdv))
      fun fl ρ σ => ∃ σ', σ'.Sublist σ ∧ P σ' (retOf fl))
    (hcell : ∀ x ∈ scope.names, x.2 ≠ .cell := by decide) (hco : scope.isCoroutine = false := by rfl) (hgen : scope.isGenerator = false := by rfl) (hk : scope.kind = .function := by rfl) :
    MutC w loose mean mg mb (k + 1) (.ref f) args h₀ σ₀ P := by
  intro dp un gd fr s RR hs hsz hnew ht a hret
  obtain ⟨base, B⟩ := a.b
  have h1 := a.dp
  have h2 := a.un
  refine codeAny_call_function (fd := fnOf name qual params body scope dV kV doc pm an cdv ct) (body := body) (Nat.lt_of_le_of_lt (Nat.le_add_right _ _) a.dp) (hs _ _ (a.x _ _ ho)) rfl hco hgen rfl (codeRec_of (fun b o e => hs b o (a.x b o e)) hcd) ?_
  rw [hbind]
  refine wpAny_bind (wpAny_newTuple (wpAny_pure ?_) (by rw [sizeLine_eq]; lia))
  have hpush : s.heap.StaysIn (s.heap.push { cls := .type "tuple", data := .seq rest.toArray }) := fun b o e => Heap.get?_push_of_some _ e
  have hno : ∀ n, s.heap.objs.size ≤ n → s.heap.get? n = none := fun n hn => by
    cases e : s.heap.get? n with
    | none => rfl
    | some o => exact absurd (Heap.lt_size e) (Nat.not_lt.mpr hn)
  have hno' : ∀ n, s.heap.objs.size ≤ n → h₀.get? n = none := fun n hn => by
    cases e : h₀.get? n with
    | none => rfl
    | some o => have := hs _ _ e; rw [hno n hn] at this; cases this
  have gT : (s.heap.push { cls := .type "tuple", data := .seq rest.toArray }).get? s.heap.objs.size = some { cls := .type "tuple", data := .seq rest.toArray } := Heap.get?_push_size _ rfl
  have hsz1 : (s.heap.push { cls := .type "tuple", data := .seq rest.toArray }).objs.size = s.heap.objs.size + 1 := Heap.size_push ..
  generalize hH : s.heap.push { cls := .type "tuple", data := .seq rest.toArray } = H at *
  have hO : Ok w loose mean mg mb k ((ar dp un gd fr).deeper (envOf qual scope H.objs.size f cdv)) (envOf qual scope H.objs.size f cdv) h₀ :=
    ⟨a.x, a.t, rfl, bel_of B (by show _ ≤ H.objs.size; lia) rfl hk, ar_d1 a.dp, ar_u1 a.un, hk, rfl, rfl⟩
  refine wpAny_newFunctionEnv hcell (locs (hloc (.ref s.heap.objs.size))) (fun h₁ hns hsb => ⟨((a.t.nolimit.keeps hs).keeps hpush).fresh _ hsb, codeAny_func ?_⟩) hk
  have hk₁ : ∀ b o, H.get? b = some o → h₁.get? b = some o := fun b o e => hsb.extBut b o (Nat.ne_of_lt (Heap.lt_size e)) (Heap.get?_push_of_some _ e)
  have F₁ : FS h₀ (envOf qual scope H.objs.size f cdv) (fun y => (binds (.ref s.heap.objs.size)).reverse.lookup y) ((s.heap.objs.size, { cls := .type "tuple", data := .seq rest.toArray }) :: σ₀) h₁ := by
    refine ⟨fun b o e => hk₁ b o (hpush b o (hs b o e)), ⟨_, hns, fun _ _ => rfl⟩, fun _ _ h => (by cases h), hno' _ (by show s.heap.objs.size ≤ H.objs.size; lia), fun _ _ _ _ h => (by cases h), fun _ _ h => (by cases h), fun _ _ _ h => (by cases h), fun p hp => ?_, ?_⟩
    · rcases List.mem_cons.mp hp with rfl | hp
      · exact ⟨hk₁ _ _ gT, hno' _ (Nat.le_refl _), by show s.heap.objs.size ≠ H.objs.size; lia, fun _ _ h => (nomatch h)⟩
      · refine ⟨hk₁ _ _ (hpush _ _ (hnew.1 p hp).1), (hnew.1 p hp).2, fun e => ?_, fun _ _ h => (nomatch h)⟩
        have := Heap.lt_size (hnew.1 p hp).1
        rw [show p.1 = H.objs.size from e, hsz1] at this
        exact absurd this (Nat.not_lt.mpr (Nat.le_succ _))
    · rw [List.map_cons, List.nodup_cons]
      refine ⟨fun hm => ?_, hnew.2⟩
      obtain ⟨p, hp, e⟩ := List.mem_map.mp hm
      have := Heap.lt_size (hnew.1 p hp).1
      rw [e] at this
      exact absurd this (Nat.lt_irrefl _)
  refine wpAny_mono (W.step (s := { s with heap := h₁, toks := s.toks + (binds (.ref s.heap.objs.size)).length }) (h _ _ s.heap.objs.size _ (fun y => (binds (.ref s.heap.objs.size)).reverse.lookup y) hO (fun _ _ e => e) ⟨rfl, 0, rfl⟩) (Nat.lt_of_lt_of_le ht (Nat.le_add_right _ _)) F₁ (R := fun fl s' => RR (.ok (.ret (match fl with | .ret v => v | _ => .none))) s') ?_) (fun fl s' q => q) fun _ _ x => x.elim
  intro fl ρ' σ' h' tk htk hle F' ⟨σ₁, hsub, p⟩
  have := hret (retOf fl) σ₁ h' tk F'.keep ⟨fun q hq => ⟨(F'.led q (hsub.subset hq)).1, (F'.led q (hsub.subset hq)).2.1⟩, (hsub.map _).nodup F'.nd⟩ (Nat.le_trans (Nat.le_add_right _ _) hle) p
  cases fl <;> exact this
/-- `xs[-1] = v` -/
theorem setItem_last {prog : Program} {E : Value → Shared → Prop} {s : Shared} {l : Addr} {items : Array Value} {t : Tok} {v : Value} {Q : Unit → Shared → Prop} (hl : s.heap.IsList l items) (h1 : 0 < items.size)
    (hQ : ∀ h', h'.IsList l (items.setIfInBounds (items.size - 1) v) → Heap.SameBut l s.heap h' → Q () { s with heap := h' }) :
    wpAny (model prog w) A (setItem (.ref l) (.int (-1) t) v) Q E s := by
  obtain ⟨o, ho, hc, ne, hd⟩ := id hl
  unfold setItem
  try with_reducible refine wpAny_holding ?_
  first | refine wpAny_bind (wpAny_pure ?_) | skip
  refine wpAny_bind (wpAny_sequenceKey hl.typeIs (by decide) ?_)
  refine wpAny_bind (wpAny_callSpecial?_slot (name := Str.ofString "__setitem__") hl.typeIs slot_list_setitem
    (wpAny_call_entry slot_list_setitem hl.typeIs entry_list_setitem ?_ (args_list_setitem _ _ _)))
  show wpAny _ _ (Builtin.List.listSubscript? (.int (-1) t) >>= _) _ _ s
  refine wpAny_bind (wpAny_listSubscript_int (by decide) ?_)
  show wpAny _ _ ((Builtin.List.listItems (.ref l) >>= fun xs => pure ((seqIndex? (-1) xs.size).bind fun i => xs[i]?.map (i, ·))) >>= _) _ _ s
  refine wpAny_bind (wpAny_bind ?_)
  show wpAny _ _ (seqItems? (.ref l) >>= _) _ _ s
  refine wpAny_bind (wpAny_seqItems ho hd (wpAny_pure (wpAny_pure ?_)))
  have hidx : seqIndex? (-1 : Int) items.size = some (items.size - 1) := seq_last (by assumption)
  have hx : items[items.size - 1]? = some items[items.size - 1] := Array.getElem?_eq_getElem (by exact Nat.sub_lt_sub_left (by assumption) (Nat.lt_succ_self _))
  rw [hidx]
  simp only [Option.bind_some, hx, Option.map_some]
  show wpAny _ _ (setSeqItemAt l (items.size - 1) v >>= _) _ _ s
  obtain ⟨n', hd'⟩ := Obj.data_mapSeq hd (·.setIfInBounds (items.size - 1) v)
  have hfin : (s.heap.update l (Obj.mapSeq (·.setIfInBounds (items.size - 1) v))).IsList l (items.setIfInBounds (items.size - 1) v) :=
    ⟨_, Heap.get?_update_self _ ho (Obj.isFreed_of_seq hd'), (Obj.cls_mapSeq ..).trans hc, n', hd'⟩
  refine wpAny_bind (wpAny_setSeqItemAt ho hd ?_)
  first
    | exact wpAny_bind (wpAny_pure (wpAny_pure ⟨.none, rfl, wpAny_pure (hQ _ hfin (Heap.SameBut.update ..))⟩))
    | exact wpAny_pure ⟨.none, rfl, wpAny_pure (hQ _ hfin (Heap.SameBut.update ..))⟩
theorem w_setLast {D : Addr} {o : Obj} {vs : List Value} {f : Obj → Led} {u v : Value} {t : Tok} {Q : Unit → Rho → Led → Prop} (hL : LW o (vs ++ [u])) (U : ∀ o', Upd D o o' σ (f o'))
    (h : ∀ o', LW o' (vs ++ [v]) → Q () ρ (f o')) : W w A h₀ env ρ σ (setItem (.ref D) (.int (-1) t) v) Q := fun s ht F => by
  have ho := F.get (U { cls := .none, data := .freed }).mem
  refine setItem_last (hL.isList ho) (by simp) fun h' hl' hs => ?_
  obtain ⟨o', d1, d2, d3, d4⟩ := hl'
  exact ⟨ρ, _, h', s.toks, rfl, F.put U hs d1, h o' ⟨d2, d3, by rw [d4]; simp⟩⟩
/-- `o[i] = v` as one of two targets -/
theorem w_asSub {o i : Expr} {pos : Pos} {v : Value} {Q : Unit → Rho → Led → Prop}
    (h : W w A h₀ env ρ σ (eval o env) fun ov ρ₂ σ₂ => W w A h₀ env ρ₂ σ₂ (eval i env) fun iv ρ₃ σ₃ => W w A h₀ env ρ₃ σ₃ (setItem ov iv v) Q) : W w A h₀ env ρ σ (PySem.assign (.Subscript o i pos) env v) Q := fun s ht F => by
  rw [assign_Subscript]
  refine wpAny_bind (wpAny_holding (W.step h ht F fun ov _ _ _ _ htk _ F' q => wpAny_bind (wpAny_holding (W.step q htk F' fun iv _ _ _ _ htk _ F' q => wpAny_bind (wpAny_standAt (wpAny_bind (wpAny_holding (wpAny_mono (q.at htk F') (fun _ s' p => ?_) fun _ _ x => x))))))))
  exact wpAny_release p
end
end Mine
end

section
open PySem PySem.W PyProof.Rows PySem.Calls
set_option maxRecDepth 100000
set_option maxHeartbeats 4000000
set_option linter.unusedVariables false
namespace Mine
section
variable {w : World} {A : Around} {h₀ h h' : Heap} {env : Env} {ρ : Rho} {σ : Led} {loose : List Str} {mean : ExcName → Option Value} {mg mb : Str → Option Value} {need : Nat}
/-- a part of the ledger turned -/
theorem FS.turns {ls ls' : Led} (F : FS h₀ env ρ (ls ++ σ) h) (hk : ∀ c o, c ∉ ls.map (·.1) → h.get? c = some o → h'.get? c = some o) (hg : ∀ p ∈ ls', h'.get? p.1 = some p.2 ∧ (p.1 ∈ ls.map (·.1) ∨ h.get? p.1 = none)) (hn : (ls'.map (·.1)).Nodup) : FS h₀ env ρ (ls' ++ σ) h' := by
  have nd := F.nd
  rw [List.map_append] at nd
  obtain ⟨nd1, nd2, nd3⟩ := List.nodup_append.mp nd
  have inls : ∀ c, c ∈ ls.map (·.1) → h₀.get? c = none ∧ c ≠ env.locals ∧ (∀ x d, env.cells.lookup x = some d → c ≠ d) ∧ c ∉ σ.map (·.1) := fun c hc => by
    obtain ⟨p, hp, e⟩ := List.mem_map.mp hc
    obtain ⟨_, a, b, d⟩ := F.led p (List.mem_append_left _ hp)
    subst e
    exact ⟨a, b, d, fun hm => nd3 _ hc _ hm rfl⟩
  have gone : ∀ c, h.get? c = none → h₀.get? c = none ∧ c ≠ env.locals ∧ (∀ x d, env.cells.lookup x = some d → c ≠ d) ∧ c ∉ σ.map (·.1) := fun c hc => by
    refine ⟨?_, fun e => ?_, fun x d hd e => ?_, fun hm => ?_⟩
    · cases e : h₀.get? c with
      | none => rfl
      | some o => have := F.keep _ _ e; rw [hc] at this; cases this
    · obtain ⟨m, ⟨o, _, _, e1, _⟩, _⟩ := F.ns
      rw [← e, hc] at e1; cases e1
    · obtain ⟨o, e1, _⟩ := F.cell x d hd
      rw [← e, hc] at e1; cases e1
    · obtain ⟨p, hp, e⟩ := List.mem_map.mp hm
      have := (F.led p (List.mem_append_right _ hp)).1
      rw [show p.1 = c from e, hc] at this; cases this
  refine ⟨fun b o e => hk b o (fun hm => by have := (inls b hm).1; rw [e] at this; cases this) (F.keep b o e), ?_, fun x c hc => ?_, F.off, F.coff, F.cne, F.cnd, fun p hp => ?_, ?_⟩
  · obtain ⟨m, ⟨o, es, ep, e1, e2⟩, r⟩ := F.ns
    exact ⟨m, ⟨o, es, ep, hk _ _ (fun hm => (inls _ hm).2.1 rfl) e1, e2⟩, r⟩
  · obtain ⟨o, e1, e2⟩ := F.cell x c hc
    exact ⟨o, hk _ _ (fun hm => (inls _ hm).2.2.1 x c hc rfl) e1, e2⟩
  · rcases List.mem_append.mp hp with hp | hp
    · obtain ⟨g, hh⟩ := hg p hp
      rcases hh with hh | hh
      · have := inls _ hh; exact ⟨g, this.1, this.2.1, this.2.2.1⟩
      · have := gone _ hh; exact ⟨g, this.1, this.2.1, this.2.2.1⟩
    · refine ⟨hk _ _ (fun hm => (inls _ hm).2.2.2 (List.mem_map.mpr ⟨p, hp, rfl⟩)) (F.led p (List.mem_append_right _ hp)).1, (F.led p (List.mem_append_right _ hp)).2⟩
  · rw [List.map_append]
    refine List.nodup_append.mpr ⟨hn, nd2, fun a ha b hb e => ?_⟩
    subst e
    obtain ⟨p, hp, e⟩ := List.mem_map.mp ha
    subst e
    rcases (hg p hp).2 with hh | hh
    · exact (inls _ hh).2.2.2 hb
    · exact (gone _ hh).2.2.2 hb

/-! zip -/
noncomputable abbrev zipO (f0 : Value) (TI TO : Addr) : Obj := { cls := .type "zip", dict := none, data := .fields #[f0, .bool false, .bool false, .ref TI, .ref TO], slots := #[] }
noncomputable abbrev pairO (a b : Value) : Obj := { cls := .type "tuple", data := .seq #[a, b] }
/-- a zip's objects before its i-th pair -/
inductive ZSt (z l1 l2 : Addr) (i : Nat) (f0 : Value) (ls : Led) : Prop
  | mk (TI : _) (TO : _) (i1 : _) (i2 : _) (a : _) (b : _) (o1 : _) (o2 : _) (y1 : ls = [(z, zipO f0 TI TO), (TI, pairO (.ref i1) (.ref i2)), (TO, pairO a b), (i1, o1), (i2, o2)]) (y2 : ItL l1 i o1) (y3 : ItL l2 i o2) : ZSt z l1 l2 i f0 ls
theorem ZSt.mem {z l1 l2 : Addr} {i : Nat} {f0 : Value} {ls : Led} (h : ZSt z l1 l2 i f0 ls) : ∃ TI TO, (z, zipO f0 TI TO) ∈ ls := by
  obtain ⟨TI, TO, _, _, _, _, _, _, rfl, _⟩ := h
  exact ⟨TI, TO, .head _⟩
theorem FS.apart {l : Addr} {ol : Obj} {ls : Led} (F : FS h₀ env ρ (ls ++ σ) h) (k : Kn h₀ σ l ol) : l ∉ ls.map (·.1) := fun hm => by
  obtain ⟨p, hp, e⟩ := List.mem_map.mp hm
  rcases k with k | k
  · have nd := F.nd
    rw [List.map_append] at nd
    exact (List.nodup_append.mp nd).2.2 _ hm _ (List.mem_map.mpr ⟨_, k, rfl⟩) rfl
  · have := (F.led p (List.mem_append_left _ hp)).2.1
    rw [show p.1 = l from e, k] at this; cases this
theorem zip_apart {z TI TO i1 i2 l1 l2 : Addr} {f0 a b : Value} {o1 o2 ol1 ol2 : Obj} (F : FS h₀ env ρ ([(z, zipO f0 TI TO), (TI, pairO (.ref i1) (.ref i2)), (TO, pairO a b), (i1, o1), (i2, o2)] ++ σ) h) (k1 : Kn h₀ σ l1 ol1) (k2 : Kn h₀ σ l2 ol2) : ZipApart z TI TO i1 i2 l1 l2 := by
  have a1 := F.apart k1
  have a2 := F.apart k2
  have nd := F.nd
  simp only [List.map_cons, List.map_nil, List.mem_cons, List.not_mem_nil, or_false, not_or] at a1 a2
  simp only [List.cons_append, List.map_cons, List.nodup_cons, List.mem_cons, not_or] at nd
  obtain ⟨⟨n1, n2, n3, n4, _⟩, ⟨n5, n6, n7, _⟩, ⟨n8, n9, _⟩, ⟨n10, _⟩, _⟩ := nd
  exact ⟨Ne.symm n1, Ne.symm n2, Ne.symm n3, Ne.symm n4, n5, n6, n7, n8, n9, n10, a1.1, a1.2.2.1, a1.2.2.2.1, a1.2.2.2.2, a2.1, a2.2.2.1, a2.2.2.2.1, a2.2.2.2.2⟩
theorem zip_item {z l1 l2 : Addr} {ol1 ol2 : Obj} {vs1 vs2 : List Value} {i : Nat} {x y : Value} {ls : Led} {Q : Option Value → Rho → Led → Prop} (hst : ZSt z l1 l2 i .none ls) (k1 : Kn h₀ σ l1 ol1) (k2 : Kn h₀ σ l2 ol2) (h1 : LObj ol1 vs1) (h2 : LObj ol2 vs2) (hx : vs1[i]? = some x) (hy : vs2[i]? = some y)
    (hQ : ∀ (T : Addr) ls', ZSt z l1 l2 (i + 1) (rawInt T) ls' → Q (some (.ref T)) ρ ((T, pairO x y) :: ls' ++ σ)) : W w A h₀ env ρ (ls ++ σ) (pyNext (.ref z)) Q := fun s ht F => by
  obtain ⟨TI, TO, i1, i2, a, b, o1, o2, rfl, hi1, hi2⟩ := hst
  have D := zip_apart F k1 k2
  have g1 := F.get (a := z) (.head _)
  have g2 := F.get (a := TI) (.tail _ (.head _))
  have g3 := F.get (a := TO) (.tail _ (.tail _ (.head _)))
  have g4 := F.get (a := i1) (.tail _ (.tail _ (.tail _ (.head _))))
  have g5 := F.get (a := i2) (.tail _ (.tail _ (.tail _ (.tail _ (.head _)))))
  refine wpAny_pyNext_zip_item D g1 g2 g3 ⟨o1, g4, hi1⟩ ⟨o2, g5, hi2⟩ (h1.isList (F.kn (k1.imp (List.mem_append_right _) id))) (h2.isList (F.kn (k2.imp (List.mem_append_right _) id))) (by simpa using hx) (by simpa using hy) fun h' a1 a2 qq3 qq4 a5 a6 a7 => ?_
  obtain ⟨p1, a3, a3'⟩ := qq3
  obtain ⟨p2, a4, a4'⟩ := qq4
  have hno : s.heap.get? s.heap.objs.size = none := by
    cases e : s.heap.get? s.heap.objs.size with
    | none => rfl
    | some o => exact absurd (Heap.lt_size e) (Nat.lt_irrefl _)
  have lt : ∀ {c o}, s.heap.get? c = some o → s.heap.objs.size ≠ c := fun e => Nat.ne_of_gt (Heap.lt_size e)
  refine ⟨ρ, _, h', s.toks, rfl, F.turns (ls' := [(s.heap.objs.size, pairO x y), (z, zipO (rawInt s.heap.objs.size) TI TO), (TI, pairO (.ref i1) (.ref i2)), (TO, pairO x y), (i1, p1), (i2, p2)]) (fun c o hc e => ?_) (fun p hp => ?_) ?_, hQ _ _ ⟨TI, TO, i1, i2, x, y, p1, p2, rfl, a3', a4'⟩⟩
  · simp only [List.map_cons, List.map_nil, List.mem_cons, List.not_mem_nil, or_false, not_or] at hc
    exact a7 c o hc.1 hc.2.2.1 hc.2.2.2.1 hc.2.2.2.2 e
  · simp only [List.mem_cons, List.not_mem_nil, or_false] at hp
    rcases hp with rfl | rfl | rfl | rfl | rfl | rfl
    · exact ⟨a5, .inr hno⟩
    · exact ⟨a1, .inl (by simp)⟩
    · exact ⟨a7 _ _ D.TIz D.TITO D.TIi1 D.TIi2 g2, .inl (by simp)⟩
    · exact ⟨a2, .inl (by simp)⟩
    · exact ⟨a3, .inl (by simp)⟩
    · exact ⟨a4, .inl (by simp)⟩
  · simp only [List.map_cons, List.map_nil, List.nodup_cons, List.mem_cons, List.not_mem_nil, or_false, not_or, not_false_eq_true, and_true, List.nodup_nil]
    exact ⟨⟨lt g1, lt g2, lt g3, lt g4, lt g5⟩, ⟨D.TIz.symm, D.TOz.symm, D.i1z.symm, D.i2z.symm⟩, ⟨D.TITO, D.TIi1, D.TIi2⟩, ⟨D.TOi1, D.TOi2⟩, D.i12⟩
theorem zip_done {z l1 l2 : Addr} {ol1 ol2 : Obj} {vs1 vs2 : List Value} {i : Nat} {ls : Led} {Q : Option Value → Rho → Led → Prop} (hh : A.handled = none) (hst : ZSt z l1 l2 i .none ls) (k1 : Kn h₀ σ l1 ol1) (k2 : Kn h₀ σ l2 ol2) (h1 : LObj ol1 vs1) (h2 : LObj ol2 vs2) (hx : vs1[i]? = none ∨ vs2[i]? = none)
    (hQ : Q none ρ σ) : W w A h₀ env ρ (ls ++ σ) (pyNext (.ref z)) Q := fun s ht F => by
  obtain ⟨TI, TO, i1, i2, a, b, o1, o2, rfl, hi1, hi2⟩ := hst
  have D := zip_apart F k1 k2
  have g1 := F.get (a := z) (.head _)
  have g2 := F.get (a := TI) (.tail _ (.head _))
  have g3 := F.get (a := TO) (.tail _ (.tail _ (.head _)))
  have g4 := F.get (a := i1) (.tail _ (.tail _ (.tail _ (.head _))))
  have g5 := F.get (a := i2) (.tail _ (.tail _ (.tail _ (.tail _ (.head _)))))
  refine wpAny_pyNext_zip_end hh D g1 g2 g3 ⟨o1, g4, hi1⟩ ⟨o2, g5, hi2⟩ (h1.isList (F.kn (k1.imp (List.mem_append_right _) id))) (h2.isList (F.kn (k2.imp (List.mem_append_right _) id))) (by simpa using hx) fun h' a7 => ?_
  refine ⟨ρ, σ, h', s.toks, rfl, F.turns (ls' := []) (fun c o hc e => ?_) (fun p hp => nomatch hp) List.nodup_nil, hQ⟩
  simp only [List.map_cons, List.map_nil, List.mem_cons, List.not_mem_nil, or_false, not_or] at hc
  exact a7 c o hc.1 hc.2.2.1 hc.2.2.2.1 hc.2.2.2.2 e
theorem zip_self {z l1 l2 : Addr} {i : Nat} {f0 : Value} {ls : Led} {Q : Value → Rho → Led → Prop} (hst : ZSt z l1 l2 i f0 ls) (hQ : Q (.ref z) ρ (ls ++ σ)) : W w A h₀ env ρ (ls ++ σ) (pyIter (.ref z)) Q := fun s ht F => by
  obtain ⟨TI, TO, hm⟩ := hst.mem
  exact wpAny_pyIter_zip (F.get (List.mem_append_left _ hm)) (Post.now F hQ)
theorem zip_go {z l1 l2 T : Addr} {oT : Obj} {i : Nat} {ls : Led} {elts : List Expr} {k : Nat} {pos : Pos} {Q : Unit → Rho → Led → Prop} (hst : ZSt z l1 l2 i (rawInt T) ls)
    (hQ : ∀ ls', ZSt z l1 l2 i .none ls' → Q () ρ ((T, oT) :: ls' ++ σ)) : W w A h₀ env ρ ((T, oT) :: ls ++ σ) (letOwnedTupleGo (.Tuple elts k pos) (.ref z) (.ref T)) Q := fun s ht F => by
  obtain ⟨TI, TO, i1, i2, a, b, o1, o2, rfl, hi1, hi2⟩ := hst
  have g1 := F.get (a := z) (.tail _ (.head _))
  refine wpAny_letOwnedTupleGo_zip g1 fun h' hz hs => ?_
  have F0 : FS h₀ env ρ ([(z, zipO (rawInt T) TI TO)] ++ ((T, oT) :: (TI, pairO (.ref i1) (.ref i2)) :: (TO, pairO a b) :: (i1, o1) :: (i2, o2) :: σ)) s.heap := F.sub swap_mem (swap_nd F.nd)
  have F1 := F0.turns (h' := h') (ls' := [(z, zipO .none TI TO)]) (fun c o hc e => (hs.2 c (by simpa using hc)).trans e) (fun p hp => by rw [List.mem_singleton.mp hp]; exact ⟨hz, .inl (by simp)⟩) (by simp)
  exact ⟨ρ, _, h', s.toks, rfl, F1.sub swap_mem (swap_nd F1.nd), hQ _ ⟨TI, TO, i1, i2, a, b, o1, o2, rfl, hi1, hi2⟩⟩
theorem w_zip {l1 l2 : Addr} {ol1 ol2 : Obj} {vs1 vs2 : List Value} {Q : Value → Rho → Led → Prop} (k1 : Kn h₀ σ l1 ol1) (k2 : Kn h₀ σ l2 ol2) (h1 : LObj ol1 vs1) (h2 : LObj ol2 vs2)
    (hQ : ∀ z ls, ZSt z l1 l2 0 .none ls → Q (.ref z) ρ (ls ++ σ)) : W w A h₀ env ρ σ (PySem.call (.type "zip") [.ref l1, .ref l2]) Q := fun s ht F => by
  refine call_zip_2 (h1.isList (F.kn k1)) (h2.isList (F.kn k2)) fun h' a1 a2 a3 qq4 qq5 a6 a7 => ?_
  obtain ⟨p1, a4, a4'⟩ := qq4
  obtain ⟨p2, a5, a5'⟩ := qq5
  have hno : ∀ n, s.heap.objs.size ≤ n → s.heap.get? n = none := fun n hn => by
    cases e : s.heap.get? n with
    | none => rfl
    | some o => exact absurd (Heap.lt_size e) (Nat.not_lt.mpr hn)
  refine ⟨ρ, _, h', s.toks, rfl, F.add (tl := [(s.heap.objs.size + 4, zipO .none (s.heap.objs.size + 2) (s.heap.objs.size + 3)), (s.heap.objs.size + 2, pairO (.ref s.heap.objs.size) (.ref (s.heap.objs.size + 1))), (s.heap.objs.size + 3, pairO .none .none), (s.heap.objs.size, p1), (s.heap.objs.size + 1, p2)]) a7 (fun p hp => ?_) ?_, hQ _ _ ⟨_, _, _, _, _, _, p1, p2, rfl, a4', a5'⟩⟩
  · simp only [List.mem_cons, List.not_mem_nil, or_false] at hp
    rcases hp with rfl | rfl | rfl | rfl | rfl
    · exact ⟨a1, hno _ (Nat.le_add_right _ _)⟩
    · exact ⟨a2, hno _ (Nat.le_add_right _ _)⟩
    · exact ⟨a3, hno _ (Nat.le_add_right _ _)⟩
    · exact ⟨a4, hno _ (Nat.le_refl _)⟩
    · exact ⟨a5, hno _ (Nat.le_add_right _ _)⟩
  · simp [List.nodup_cons]
end
end Mine
end

section
open PySem PySem.W PyProof.Rows PySem.Calls
set_option maxRecDepth 100000
set_option maxHeartbeats 4000000
set_option linter.unusedVariables false
namespace Mine
section
variable {w : World} {A : Around} {h₀ h h' : Heap} {env : Env} {ρ : Rho} {σ : Led} {loose : List Str} {mean : ExcName → Option Value} {mg mb : Str → Option Value} {need : Nat}
noncomputable def InnerL (w : World) (loose : List Str) (mean : ExcName → Option Value) (mg mb : Str → Option Value) (need : Nat) (A : Around) (h₀ : Heap) (env : Env) (own : Option Str) (scope : Scope) (cl : List (Str × Addr)) (elt target iter : Expr) (ifs : List Expr) (gs : List Comprehension) (pos : Pos) (ρ : Rho) (σ : Led) (I : Addr) (ls : Led) (RF : List Value → Prop) : Prop :=
  ∀ base C D oD ρc, Sees h₀ σ base → Ok w loose mean mg mb need A (compEnvO own scope cl C env) base → (∀ x c u, cl.lookup x = some c → ρ x = some u → ρc x = some u) → base.get? (C + 1) = none → LObj oD [] →
      (∀ Q : Value → Rho → Led → Prop, Q (.ref I) ρc (ls ++ [(D, oD)]) → W w A base (compEnvO own scope cl C env) ρc (ls ++ [(D, oD)]) (pyIter (.ref I)) Q) ∧
      WC w A base (compEnvO own scope cl C env) ρc (ls ++ [(D, oD)]) (.compLoop (.ListComp elt (⟨target, iter, ifs, 0⟩ :: gs) scope pos) 0 (.ref I) (.ref D) (compEnvO own scope cl C env)) (fun ρ' σ' => ∃ o rs, (D, o) ∈ σ' ∧ LObj o rs ∧ RF rs)
theorem w_listCompL {own : Option Str} {elt target iter : Expr} {ifs : List Expr} {gs : List Comprehension} {scope : Scope} {cl : List (Str × Addr)} {pos : Pos} {Q : Value → Rho → Led → Prop}
    (O : Ok w loose mean mg mb need A env h₀) (hclos : closureFor scope env = pure cl)
    (hcl : ∀ x c, cl.lookup x = some c → env.cells.lookup x = some c) (hclk : ∀ x c, cl.lookup x = some c → (relabel scope env).names.lookup x ≠ some .local)
    (hown : ∀ n, cellsFrom n scope.names cl = ownCells own n cl) (hpush : ∀ h, pushCells h scope.names = ownPush own h) (hownk : ∀ x, own = some x → (relabel scope env).names.lookup x ≠ some .local ∧ cl.lookup x = none)
    (hkind : scope.kind = .function) (hnames : ∀ x ∈ scope.names, x.2 = .local → scope.names.lookup x.1 = some .local)
    (hs : ∀ x, foldedSetIterable iter env x = pure x)
    (h : W w A h₀ env ρ σ (eval iter env) fun v ρ' σ' => W w A h₀ env ρ' σ' (pyIter v) fun it ρ'' σ'' => ∃ I ls σ₃ RF, it = .ref I ∧ (ls ++ σ₃).Sublist σ'' ∧ InnerL w loose mean mg mb need A h₀ env own scope cl elt target iter ifs gs pos ρ'' σ₃ I ls RF ∧ ∀ D o rs, LObj o rs → RF rs → Q (.ref D) ρ'' ((D, o) :: σ₃)) :
    W w A h₀ env ρ σ (eval (.ListComp elt (⟨target, iter, ifs, 0⟩ :: gs) scope pos) env) Q := fun s ht F => by
  rw [eval_ListComp]
  refine wpAny_comprehension_free (use := none) rfl hs hclos hkind hnames (W.step h ht F fun v ρ' σ' h' tk htk _ F' q => W.step q htk F' fun it ρ₂ σ₂ h₂ tk₂ htk₂ _ F₂ qq8 => ?_)
  obtain ⟨I, ls, σ₃, RF, e, hsub, hin, hfin⟩ := qq8
  subst e
  refine wpAny_mono (comp_inL (s := { s with heap := h₂, toks := tk₂ }) (RR := fun acc C => compPost (model PP w) A (fun _ _ => False) none (Post h₀ env s Q) acc C) O htk₂ (F₂.sublist hsub) hcl hclk hown hpush hownk hkind hin ?_) (fun cenv s' q => wpAny_mono q (fun _ _ q => q) fun _ _ x => x.elim) fun _ _ x => x.elim
  intro D C o oC rs h₅ tk₅ hD hR ht₅ F₅ ⟨m, hm⟩
  refine ⟨m, hm, fun h₆ hs₆ => ?_⟩
  exact ⟨ρ₂, _, h₆, tk₅, rfl, F₅.gone hs₆.extBut, hfin D o rs hD hR⟩

inductive FinZ (z : Addr) (ρ : Rho) (σ : Led) : Value → Rho → Led → Prop
  | mk : FinZ z ρ σ (.ref z) ρ σ
theorem zip_end {vs1 vs2 : List Value} {i : Nat} (h : min vs1.length vs2.length ≤ i) : vs1[i]? = none ∨ vs2[i]? = none := by
  rcases Nat.le_total vs1.length vs2.length with e | e
  · exact .inl (List.getElem?_eq_none (by rw [Nat.min_eq_left e] at h; exact h))
  · exact .inr (List.getElem?_eq_none (by rw [Nat.min_eq_right e] at h; exact h))
inductive ZC (z l1 l2 D : Addr) (n : Nat) (V : Nat → Value → Prop) (N : Rho → Prop) : Nat → Rho → Led → Prop
  | mk {rs : List Value} {ρ : Rho} {oD : Obj} {ls : Led} : rs.length ≤ n → ZSt z l1 l2 rs.length .none ls → N ρ → LObj oD rs → (∀ j u, rs[j]? = some u → V j u) → ZC z l1 l2 D n V N (n - rs.length) ρ (ls ++ [(D, oD)])
theorem snoc_at {rs : List Value} {u : Value} {V : Nat → Value → Prop} (h : ∀ j u, rs[j]? = some u → V j u) (hu : V rs.length u) (j : Nat) (v : Value) (e : (rs ++ [u])[j]? = some v) : V j v := by
  rcases Nat.lt_trichotomy j rs.length with q | q | q
  · rw [List.getElem?_append_left q] at e; exact h j v e
  · subst q
    rw [List.getElem?_concat_length] at e
    cases e; exact hu
  · rw [List.getElem?_eq_none (by rw [List.length_append]; exact q)] at e; cases e
/-- a clause over a zip -/
theorem wc_zip {elt : Expr} {gens : List Comprehension} {scope : Scope} {pos : Pos} {d : Nat} {D : Addr} {oD : Obj} {elts : List Expr} {tk : Nat} {tpos p : Pos} {z l1 l2 : Addr} {ol1 ol2 : Obj} {vs1 vs2 : List Value} {ls : Led} {n : Nat} {V : Nat → Value → Prop} (N : Rho → Prop)
    (ht : compTurn (.ListComp elt gens scope pos) d (.ref z) (.ref D) env = turnOf (.Tuple elts tk tpos) [] p (restOf elt (.ref D) env) (.ref z) env (.compLoop (.ListComp elt gens scope pos) d (.ref z) (.ref D) env))
    (hh : A.handled = none) (hz : ZSt z l1 l2 0 .none ls) (k1 : h₀.get? l1 = some ol1) (k2 : h₀.get? l2 = some ol2) (h1 : LObj ol1 vs1) (h2 : LObj ol2 vs2) (hn : n = min vs1.length vs2.length) (hsz : n ≤ 1000000) (hN : N ρ) (hD : LObj oD [])
    (turn : ∀ i x y T σ' ρ', vs1[i]? = some x → vs2[i]? = some y → N ρ' → (T, pairO x y) ∈ σ' → W w A h₀ env ρ' σ' (PySem.assign (.Tuple elts tk tpos) env (.ref T)) fun _ ρ1 σ1 => W w A h₀ env ρ1 σ1 (PySem.eval elt env) fun u ρ3 σ3 => V i u ∧ N ρ3 ∧ σ'.Sublist σ3) :
    WC w A h₀ env ρ (ls ++ [(D, oD)]) (.compLoop (.ListComp elt gens scope pos) d (.ref z) (.ref D) env) (fun ρ' σ' => ∃ oD' rs, (D, oD') ∈ σ' ∧ LObj oD' rs ∧ rs.length = n ∧ ∀ j u, rs[j]? = some u → V j u) := by
  refine wc_core (ZC z l1 l2 D n V N) ht ?_ n (.mk (rs := []) (Nat.zero_le _) hz hN hD fun j u h => by cases h)
  intro k ρ₃ σ₃ H
  cases H with | mk hi hI hN' hD' hV =>
  rename_i rs oD' ls'
  by_cases hin : rs.length < n
  · have b1 : rs.length < vs1.length := Nat.lt_of_lt_of_le hin (hn ▸ Nat.min_le_left _ _)
    have b2 : rs.length < vs2.length := Nat.lt_of_lt_of_le hin (hn ▸ Nat.min_le_right _ _)
    refine zip_item hI (.inr k1) (.inr k2) h1 h2 (List.getElem?_eq_getElem b1) (List.getElem?_eq_getElem b2) fun T ls'' q => ?_
    refine zip_go q fun ls₅ q => ?_
    refine (turn rs.length _ _ T _ _ (List.getElem?_eq_getElem b1) (List.getElem?_eq_getElem b2) hN' (.head _)).mono fun _ ρ₅ σ₅ q₅ => w_tests0 (ite_t rfl (W.bind (W.bind (q₅.mono fun u ρ₆ σ₆ q₆ => ?_))))
    refine W.bind (W.sub (w_append (v := u) (f := fun o'' => (T, pairO vs1[rs.length] vs2[rs.length]) :: ls₅ ++ [(D, o'')]) hD' (Nat.le_trans hi hsz) (fun o'' => Upd.app ((T, pairO vs1[rs.length] vs2[rs.length]) :: ls₅)) fun o'' hD'' => W.done (W.sub (W.done ⟨rfl, n - (rs.length + 1), Nat.sub_lt_sub_left hin (Nat.lt_succ_self _), ?_⟩) (.cons _ (.refl _)))) q₆.2.2)
    have e : (rs ++ [u]).length = rs.length + 1 := List.length_append
    rw [← e]
    exact .mk (by rw [e]; exact hin) (by rw [e]; exact q) q₆.2.1 hD'' (snoc_at hV q₆.1)
  · have e := Nat.le_antisymm hi (Nat.le_of_not_lt hin)
    exact zip_done hh hI (.inr k1) (.inr k2) h1 h2 (zip_end (Nat.le_of_eq (hn ▸ e ▸ rfl))) ⟨oD', rs, .head _, hD', e, hV⟩
/-- a loop over a zip -/
noncomputable abbrev FlZ (ls : Led) (J : Rho → Led → Prop) (Q : Flow → Rho → Led → Prop) (f : Flow) (ρ : Rho) (σ : Led) : Prop := match f with
  | .next | .cont => ∃ σ₃, (σ₃ ++ ls).Sublist σ ∧ J ρ σ₃
  | .brk => Q .next ρ σ
  | .ret v => Q (.ret v) ρ σ
inductive LoopZ (w : World) (A : Around) (h₀ : Heap) (env : Env) (elts : List Expr) (k : Nat) (tpos : Pos) (body : List Stmt) (Q : Flow → Rho → Led → Prop) (v : Value) (ρ : Rho) (σ : Led) : Prop
  | mk (z l1 l2 : Addr) (ol1 ol2 : Obj) (vs1 vs2 : List Value) (ls σ₃ : Led) (n : Nat) (J : Nat → Rho → Led → Prop) (y1 : v = .ref z) (y2 : (ls ++ σ₃).Sublist σ) (y3 : ZSt z l1 l2 0 .none ls) (y4 : LObj ol1 vs1) (y5 : LObj ol2 vs2) (y6 : n = min vs1.length vs2.length) (y7 : J 0 ρ σ₃)
    (y8 : ∀ i ρ σ, J i ρ σ → Kn h₀ σ l1 ol1 ∧ Kn h₀ σ l2 ol2)
    (y9 : ∀ i x y T ls' ρ σ, vs1[i]? = some x → vs2[i]? = some y → J i ρ σ → W w A h₀ env ρ ((T, pairO x y) :: (σ ++ ls')) (PySem.assign (.Tuple elts k tpos) env (.ref T)) fun _ ρ1 σ1 => W w A h₀ env ρ1 σ1 (execs body env) (FlZ ls' (J (i + 1)) Q))
    (y10 : ∀ ρ σ, J n ρ σ → Q .next ρ σ) : LoopZ w A h₀ env elts k tpos body Q v ρ σ
inductive ZJ (h₀ : Heap) (z l1 l2 : Addr) (n : Nat) (J : Nat → Rho → Led → Prop) : Nat → Heap → Rho → Led → Prop
  | mk {i : Nat} {ρ : Rho} {σ ls σ' : Led} : i ≤ n → ZSt z l1 l2 i .none ls → J i ρ σ → (σ ++ ls).Sublist σ' → ZJ h₀ z l1 l2 n J (n - i) h₀ ρ σ'
theorem w_forZ {elts : List Expr} {k : Nat} {tpos : Pos} {iter : Expr} {body : List Stmt} {pos : Pos} {Q : Flow → Rho → Led → Prop} (hh : A.handled = none)
    (hiter : W w A h₀ env ρ σ (eval iter env) fun v ρ' σ' => LoopZ w A h₀ env elts k tpos body Q v ρ' σ')
    (hs : ∀ x, foldedSetIterable iter env x = pure x := by intro _; rfl) :
    W w A h₀ env ρ σ (exec (.For (.Tuple elts k tpos) iter body [] pos) env) Q := W.ofWF fun s ht F => by
  refine wpAny_For (W.step hiter ht F fun v ρ₁ σ₁ h₁ tk₁ ht₁ _ F₁ q => ?_) hs
  cases q with | mk z l1 l2 ol1 ol2 vs1 vs2 ls σ₃ n J e hsub hst hl1 hl2 hn hJ0 hok turn done =>
  subst e
  refine wpF (W.step (s := { s with heap := h₁, toks := tk₁ }) (zip_self (σ := σ₃) (Q := FinZ z ρ₁ (ls ++ σ₃)) hst .mk) ht₁ (F₁.sublist hsub) fun v ρ₂ σ₂ h₂ tk₂ ht₂ _ F₂ q => ?_) fun _ _ x => x
  cases q
  have F₃ := F₂.perm (List.perm_append_comm (l₁ := ls) (l₂ := σ₃))
  refine for_core (ZJ h₀ z l1 l2 n J) ?_ (fun _ _ x => x) n (.mk (i := 0) (Nat.zero_le _) hst hJ0 (.refl _)) ht₂ F₃
  intro k h₃ ρ₃ σ₃ H
  cases H with | mk hi hI hJ hs₃ =>
  rename_i i σ₄ ls₄
  have kn := hok i _ _ hJ
  refine W.sub (W.perm ?_ (List.perm_append_comm (l₁ := ls₄) (l₂ := σ₄))) hs₃
  by_cases hin : i < n
  · have b1 : i < vs1.length := Nat.lt_of_lt_of_le hin (hn ▸ Nat.min_le_left _ _)
    have b2 : i < vs2.length := Nat.lt_of_lt_of_le hin (hn ▸ Nat.min_le_right _ _)
    refine zip_item hI kn.1 kn.2 hl1 hl2 (List.getElem?_eq_getElem b1) (List.getElem?_eq_getElem b2) fun T ls'' q => ?_
    refine zip_go q fun ls₅ q => ?_
    refine W.perm (σ' := (T, pairO vs1[i] vs2[i]) :: (σ₄ ++ ls₅)) ?_ (List.Perm.cons _ List.perm_append_comm)
    refine (turn i _ _ T ls₅ _ _ (List.getElem?_eq_getElem b1) (List.getElem?_eq_getElem b2) hJ).mono fun _ ρ' σ' r => WF.ofW (r.mono fun f ρ'' σ'' r => ?_)
    cases f with
    | next => exact r.elim fun σ₆ x => ⟨n - (i + 1), Nat.sub_lt_sub_left hin (Nat.lt_succ_self i), .mk hin q x.2 x.1⟩
    | cont => exact r.elim fun σ₆ x => ⟨n - (i + 1), Nat.sub_lt_sub_left hin (Nat.lt_succ_self i), .mk hin q x.2 x.1⟩
    | brk => exact ⟨rfl, r⟩
    | ret v => exact ⟨rfl, r⟩
  · have e := Nat.le_antisymm hi (Nat.le_of_not_lt hin)
    refine zip_done hh hI kn.1 kn.2 hl1 hl2 (zip_end (Nat.le_of_eq (hn ▸ e ▸ rfl))) ?_
    subst e
    exact WF.ofW (W.execs_nil ⟨rfl, done _ _ hJ⟩)
end
end Mine
end

section
open PySem PySem.W PyProof.Rows PySem.Calls
set_option maxRecDepth 100000
set_option maxHeartbeats 4000000
set_option linter.unusedVariables false
namespace Mine
/-! frames whose slots are turned by a raise -/
/-- a heap's part -/
noncomputable def restr (h : Heap) (p : Addr → Bool) : Heap := hides h ((List.range h.objs.size).filter fun b => !p b)
theorem restr_in {h : Heap} {p : Addr → Bool} {b : Addr} (hp : p b = true) : (restr h p).get? b = h.get? b := hides_ne _ fun hm => by
  have := (List.mem_filter.mp hm).2
  rw [hp] at this; cases this
theorem restr_out {h : Heap} {p : Addr → Bool} {b : Addr} (hp : p b = false) : (restr h p).get? b = none := by
  cases e : (restr h p).get? b with
  | none => rfl
  | some o =>
    have e' := of_hides _ e
    have : (restr h p).get? b = none := hides_mem _ (List.mem_filter.mpr ⟨List.mem_range.mpr (Heap.lt_size e'), by rw [hp]; rfl⟩)
    rw [e] at this; cases this
theorem restr_of {h : Heap} {p : Addr → Bool} {b : Addr} {o : Obj} (e : (restr h p).get? b = some o) : p b = true ∧ h.get? b = some o := by
  cases hp : p b with
  | true => exact ⟨rfl, by rw [restr_in hp] at e; exact e⟩
  | false => rw [restr_out hp] at e; cases e
theorem ktsHeap_up : ∀ (l : List Addr) {h g : Heap} {b : Addr} {o : Obj}, g.get? b = some o → ∃ sl, (ktsHeap h l g).get? b = some { o with slots := sl }
  | [], _, _, _, o, e => ⟨o.slots, e⟩
  | a :: r, h, g, b, o, e => by
    obtain ⟨sl, e1⟩ := ktsHeap_up r (h := h) e
    rw [ktsHeap_cons]
    by_cases q : b = a
    · subst q
      have z := Heap.get?_update_self (fun o => { o with slots := ((h.get? b).map (·.slots)).getD o.slots }) e1 ((kts_isFreed _ _).trans (Heap.get?_some_iff.mp e1).2)
      exact ⟨_, z⟩
    · exact ⟨sl, by rw [Heap.get?_update_other _ _ (Ne.symm q)]; exact e1⟩
theorem funFrames_of {h h' base base' : Heap} : ∀ {l : List Env}, h.FunFrames base l → (∀ b ∈ l.filterMap (·.frame), base'.get? b = none ∧ ∀ o, h.get? b = some o → (∀ vs, o.data ≠ .fields vs) → ∃ o', h'.get? b = some o' ∧ o'.data = o.data) → h'.FunFrames base' l
  | [], _, _ => trivial
  | env :: rest, hl, k => by
    obtain ⟨hk, ⟨L, o, hf, hn, ho, hd⟩, hr⟩ := hl
    obtain ⟨n', k'⟩ := k L (by rw [List.filterMap_cons, hf]; exact .head _)
    obtain ⟨o', ho', hd'⟩ := k' o ho hd
    exact ⟨hk, ⟨L, o', hf, n', ho', fun vs => hd' ▸ hd vs⟩, funFrames_of hr fun b hb => k b (by rw [List.filterMap_cons, hf]; exact .tail _ hb)⟩
theorem ns_up {h h' : Heap} {L : Addr} {m : Str → Option Value} (n : h.Ns L m) (k : ∀ o, h.get? L = some o → ∃ sl, h'.get? L = some { o with slots := sl }) : h'.Ns L m := by
  obtain ⟨o, es, ep, e1, e2, r⟩ := n
  obtain ⟨sl, e3⟩ := k o e1
  exact ⟨_, es, ep, e3, e2, r⟩
section
variable {w : World} {A : Around} {h₀ h h' : Heap} {env : Env} {ρ : Rho} {σ : Led} {loose : List Str} {mean : ExcName → Option Value} {mg mb : Str → Option Value} {need : Nat}
/-- where the frames lie -/
structure FrAt (w : World) (loose : List Str) (mean : ExcName → Option Value) (mg mb : Str → Option Value) (A : Around) (h₀ : Heap) (env : Env) (base : Heap) (fr : List Env) : Prop where
  frs : A.frames = some fr
  x : (KB w.params).In base
  t : Tp loose mean mg mb base
  st : base.StaysIn h₀
  none_ : ∀ b ∈ fsOf A, base.get? b = none
  inn : ∀ b ∈ fsOf A, b = env.locals ∨ ∃ o, h₀.get? b = some o
  fun_ : ∀ h, h₀.StaysIn h → (∃ m, h.Ns env.locals m) → h.FunFrames base fr
theorem frAt (O : Ok w loose mean mg mb need A env h₀) (F : FS h₀ env ρ σ h) (hL : env.locals ∈ fsOf A) : ∃ base fr, FrAt w loose mean mg mb A h₀ env base fr := by
  obtain ⟨m, n, _⟩ := F.ns
  have k0 : h₀.StaysIn (restr h fun b => (h₀.get? b).isSome || b == env.locals) := fun b o e => by rw [restr_in (by simp [e])]; exact F.keep b o e
  have nL : (restr h fun b => (h₀.get? b).isSome || b == env.locals).Ns env.locals m := by
    obtain ⟨ob, es, ep, e1, e2⟩ := n
    exact ⟨ob, es, ep, by rw [restr_in (by simp)]; exact e1, e2⟩
  obtain ⟨base, fr, hfr, B⟩ := O.bel _ k0 ⟨m, nL⟩
  have hfs : fsOf A = fr.filterMap (·.frame) := by unfold fsOf; rw [hfr]; rfl
  have hn : ∀ b ∈ fsOf A, base.get? b = none := fun b hb => (B.b.frames.mem (hfs ▸ hb)).1
  have hi : ∀ b ∈ fsOf A, b = env.locals ∨ ∃ o, h₀.get? b = some o := fun b hb => by
    obtain ⟨_, o, e, _⟩ := B.b.frames.mem (hfs ▸ hb)
    obtain ⟨hp, _⟩ := restr_of e
    simp only [Bool.or_eq_true, beq_iff_eq, Option.isSome_iff_exists] at hp
    rcases hp with ⟨o', e'⟩ | e'
    · exact .inr ⟨o', e'⟩
    · exact .inl e'
  have hst : base.StaysIn h₀ := fun b o e => by
    have e1 := B.b.stays b o e
    obtain ⟨hp, e2⟩ := restr_of e1
    simp only [Bool.or_eq_true, beq_iff_eq, Option.isSome_iff_exists] at hp
    rcases hp with ⟨o', e'⟩ | e'
    · have := F.keep _ _ e'; rw [e2] at this; cases this; exact e'
    · subst e'
      rw [hn _ hL] at e; cases e
  refine ⟨base, fr, hfr, B.x, B.t, hst, hn, hi, fun h' st ns => ?_⟩
  obtain ⟨base', fr', hfr', B'⟩ := O.bel h' st ns
  rw [hfr] at hfr'
  cases hfr'
  exact funFrames_of B'.b.frames fun b hb => ⟨hn b (hfs ▸ hb), fun o e _ => ⟨o, e, rfl⟩⟩
/-- a place kept through a turn -/
theorem Ok.turn {h₁ : Heap} (O : Ok w loose mean mg mb need A env h₀) (F : FS h₀ env ρ σ h) (hL : env.locals ∈ fsOf A) (T : Turn (fsOf A) h₀ h₁) : Ok w loose mean mg mb need A env h₁ := by
  obtain ⟨base, fr, R⟩ := frAt O F hL
  have hfs : fsOf A = fr.filterMap (·.frame) := by unfold fsOf; rw [R.frs]; rfl
  have st : base.StaysIn h₁ := fun b o e => T.other b o (R.st b o e) fun hb => by rw [R.none_ b hb] at e; cases e
  refine ⟨R.x.keeps st, R.t.keeps st, O.hh, fun g sg ⟨m, ng⟩ => ⟨base, fr, R.frs, ⟨R.frs, fun b o e => sg b o (st b o e), ?_⟩, R.x, R.t⟩, O.dp, O.un, O.ek, O.eg, O.eb⟩
  have s0 : h₀.StaysIn (ktsHeap h₀ (fsOf A) g) := fun b o e => by
    by_cases hb : b ∈ fsOf A
    · obtain ⟨sl, e1⟩ := T.frame b o e hb
      exact ktsHeap_some (fsOf A) (o := { o with slots := sl }) (sl := o.slots) hb (sg _ _ e1) e
    · rw [ktsHeap_ne _ hb]
      exact sg _ _ (T.other b o e hb)
  have n0 : (ktsHeap h₀ (fsOf A) g).Ns env.locals m := ns_up ng fun o e => ktsHeap_up _ e
  refine funFrames_of (R.fun_ _ s0 ⟨m, n0⟩) fun b hb => ⟨R.none_ b (hfs ▸ hb), fun o e _ => ?_⟩
  have hg : ∃ o', g.get? b = some o' := by
    rcases R.inn b (hfs ▸ hb) with e' | ⟨o', e'⟩
    · obtain ⟨ob, _, _, e1, _⟩ := ng
      exact ⟨ob, e' ▸ e1⟩
    · obtain ⟨sl, e1⟩ := T.frame b o' e' (hfs ▸ hb)
      exact ⟨_, sg _ _ e1⟩
  obtain ⟨o', e1⟩ := hg
  obtain ⟨sl, e2⟩ := ktsHeap_up (h := h₀) (fsOf A) e1
  rw [e] at e2
  refine ⟨o', e1, ?_⟩
  cases e2
  rfl

/-! the frame seen after a turn of the frames -/
theorem FS.turned (F : FS h₀ env ρ σ h) {fs : List Addr} (hin : ∀ b ∈ fs, b = env.locals ∨ ∃ o, h₀.get? b = some o) (hcell : ∀ x c, env.cells.lookup x = some c → h₀.get? c = none) {σ' : Led} (hnd : (σ'.map (·.1)).Nodup)
    (other : ∀ b o, h.get? b = some o → b ∉ fs → b ∉ σ.map (·.1) → h'.get? b = some o) (frame : ∀ b o, h.get? b = some o → b ∈ fs → ∃ sl, h'.get? b = some { o with slots := sl })
    (led : ∀ p ∈ σ', h'.get? p.1 = some p.2 ∧ (p.1 ∈ σ.map (·.1) ∨ h.get? p.1 = none)) :
    ∃ h₁, Turn fs h₀ h₁ ∧ FS h₁ env ρ σ' h' ∧ h₁.StaysIn h' := by
  have Lnot : env.locals ∉ σ.map (·.1) := fun hm => by
    obtain ⟨p, hp, e⟩ := List.mem_map.mp hm
    exact (F.led p hp).2.2.1 e
  have anyat : ∀ b o, h.get? b = some o → b ∉ σ.map (·.1) → ∃ sl, h'.get? b = some { o with slots := sl } := fun b o e hs => by
    by_cases hb : b ∈ fs
    · exact frame b o e hb
    · exact ⟨o.slots, other b o e hb hs⟩
  have outσ : ∀ b o, h₀.get? b = some o → b ∉ σ.map (·.1) := fun b o e hm => by
    obtain ⟨p, hp, e'⟩ := List.mem_map.mp hm
    have := (F.led p hp).2.1
    rw [e', e] at this; cases this
  have cellAt : ∀ x c, env.cells.lookup x = some c → h'.IsCell c (ρ x) := fun x c hc => by
    obtain ⟨oc, e1, e2⟩ := F.cell x c hc
    refine ⟨oc, other c oc e1 (fun hb => ?_) (fun hm => ?_), e2⟩
    · rcases hin c hb with e | ⟨o, e⟩
      · exact F.cne x c hc e
      · rw [hcell x c hc] at e; cases e
    · obtain ⟨p, hp, e⟩ := List.mem_map.mp hm
      exact (F.led p hp).2.2.2 x c hc e
  have get1 : ∀ b, (restr h' fun b => (h₀.get? b).isSome).get? b = if (h₀.get? b).isSome then h'.get? b else none := fun b => by
    cases e : (h₀.get? b).isSome with
    | true => rw [restr_in e]; rfl
    | false => rw [restr_out e]; rfl
  refine ⟨restr h' fun b => (h₀.get? b).isSome, ⟨fun b e => ?_, fun b o e hb => ?_, fun b o e hb => ?_⟩, ⟨fun b o e => (restr_of e).2, ?_, cellAt, ?_, fun _ x c _ hc => ?_, F.cne, F.cnd, fun p hp => ?_, hnd⟩, fun b o e => (restr_of e).2⟩
  · rw [get1, e]; rfl
  · rw [get1, e]; exact other b o (F.keep b o e) hb (outσ b o e)
  · rw [get1, e]; exact frame b o (F.keep b o e) hb
  · obtain ⟨m, n, r⟩ := F.ns
    exact ⟨m, ns_up n fun o e => anyat _ o e Lnot, r⟩
  · rw [get1, F.off]; rfl
  · rw [get1, hcell x c hc]; rfl
  · obtain ⟨e1, e2⟩ := led p hp
    have none0 : h₀.get? p.1 = none := by
      rcases e2 with e2 | e2
      · cases e : h₀.get? p.1 with
        | none => rfl
        | some o => exact absurd e2 (outσ _ _ e)
      · cases e : h₀.get? p.1 with
        | none => rfl
        | some o => have := F.keep _ _ e; rw [e2] at this; cases this
    refine ⟨e1, by rw [get1, none0]; rfl, fun e => ?_, fun x c hc e => ?_⟩
    · rcases e2 with e2 | e2
      · exact Lnot (e ▸ e2)
      · obtain ⟨m, ⟨ob, _, _, e3, _⟩, _⟩ := F.ns
        rw [← e, e2] at e3; cases e3
    · rcases e2 with e2 | e2
      · obtain ⟨q, hq, e'⟩ := List.mem_map.mp e2
        exact (F.led q hq).2.2.2 x c hc (e'.trans e)
      · obtain ⟨oc, e3, _⟩ := F.cell x c hc
        rw [← e, e2] at e3; cases e3

end
end Mine
end

section
open PySem PySem.W PyProof.Rows PySem.Calls
set_option maxRecDepth 100000
set_option maxHeartbeats 4000000
set_option linter.unusedVariables false
namespace Mine
/-- a call that may turn the frames' slots too -/
noncomputable def MutF (w : World) (loose : List Str) (mean : ExcName → Option Value) (mg mb : Str → Option Value) (need : Nat) (f : Value) (args : List Value) (h₀ : Heap) (σ₀ : List (Addr × Obj)) (P : List (Addr × Obj) → Value → Prop) : Prop :=
  ∀ (dp un : Nat) (gd : Option (List Code)) (fr : List Env) (s : Shared) (R : Result → Shared → Prop), h₀.StaysIn s.heap → h₀.objs.size ≤ s.heap.objs.size → Newly h₀ s.heap σ₀ → 0 < s.toks →
    Amb w loose mean mg mb need dp un gd fr h₀ →
    (∀ v tl h₁ h' tk, Turn (fr.filterMap (·.frame)) h₀ h₁ → h₁.StaysIn h' → Newly h₁ h' tl → s.toks ≤ tk → P tl v → R (.ok (.ret v)) { s with heap := h', toks := tk }) →
    codeAny (model PP w) (ar dp un gd fr) (.call f ⟨args, []⟩) R s
section
variable {w : World} {h₀ : Heap} {loose : List Str} {mean : ExcName → Option Value} {mg mb : Str → Option Value} {k : Nat}
  {f : Addr} {name qual : Str} {params : Arguments} {body : List Stmt} {scope : Scope} {dV kV doc pm cdv ct oc : Value} {an od : Option Addr} {osl : Array (Option Value)} {args : List Value} {binds : List (Str × Value)}
  {P : Led → Value → Prop} {σ₀ : Led}
/-- a def without cells, walked where the frames may turn -/
theorem enterF (ho : (KB w.params).lookup f = some ⟨oc, od, .func (fnOf name qual params body scope dV kV doc pm an cdv ct), osl⟩) (hcd : codeIn (KB w.params) cdv qual = true)
    (hbind : ∀ s : Shared, h₀.StaysIn s.heap → BindsTo s (fnOf name qual params body scope dV kV doc pm an cdv ct) ⟨args, []⟩ binds) (hloc : (binds.all fun x => decide (scope.names.lookup x.1 = some .local)) = true)
    (h : ∀ A L ρ outer, Ok w loose mean mg mb k A (envOf qual scope L f cdv) h₀ → A.frames = some (envOf qual scope L f cdv :: outer) → (∀ x v, binds.reverse.lookup x = some v → ρ x = some v) → WF w A h₀ (envOf qual scope L f cdv) ρ σ₀ (execs body (envOf qual scope L f cdv))
      fun _ fl ρ σ => ∃ σ', σ'.Sublist σ ∧ P σ' (retOf fl))
    (hcell : ∀ x ∈ scope.names, x.2 ≠ .cell := by decide) (hco : scope.isCoroutine = false := by rfl) (hgen : scope.isGenerator = false := by rfl) (hk : scope.kind = .function := by rfl) :
    MutF w loose mean mg mb (k + 1) (.ref f) args h₀ σ₀ P := by
  intro dp un gd fr s RR hs hsz hnew ht a hret
  obtain ⟨base, B⟩ := a.b
  have h1 := a.dp
  have h2 := a.un
  have hO : Ok w loose mean mg mb k ((ar dp un gd fr).deeper (envOf qual scope s.heap.objs.size f cdv)) (envOf qual scope s.heap.objs.size f cdv) h₀ :=
    ⟨a.x, a.t, rfl, bel_of B hsz rfl hk, ar_d1 a.dp, ar_u1 a.un, hk, rfl, rfl⟩
  have hno : s.heap.get? s.heap.objs.size = none := by
    cases e : s.heap.get? s.heap.objs.size with
    | none => rfl
    | some o => exact absurd (Heap.lt_size e) (Nat.lt_irrefl _)
  refine codeAny_call_def (R := RR) (fd := fnOf name qual params body scope dV kV doc pm an cdv ct) (body := body) (binds := binds) (Nat.lt_of_le_of_lt (Nat.le_add_right _ _) a.dp) (hs _ _ (a.x _ _ ho)) rfl (a.t.nolimit.keeps hs) (codeRec_of (fun b o e => hs b o (a.x b o e)) hcd) rfl (hbind s hs) hcell (locs hloc) (fun h₁ hns hk₁ => ?_) hco hgen hk
  have hno' : h₀.get? s.heap.objs.size = none := by
    cases e : h₀.get? s.heap.objs.size with
    | none => rfl
    | some o => have := hs _ _ e; rw [hno] at this; cases this
  have F₁ : FS h₀ (envOf qual scope s.heap.objs.size f cdv) (fun y => binds.reverse.lookup y) σ₀ h₁ :=
    ⟨fun b o e => hk₁ b o (hs b o e), ⟨_, hns, fun _ _ => rfl⟩, fun _ _ h => (by cases h), hno', fun _ _ _ _ h => (by cases h), fun _ _ h => (by cases h), fun _ _ _ h => (by cases h), fun p hp => ⟨hk₁ _ _ (hnew.1 p hp).1, (hnew.1 p hp).2, (fun e => by
      have := (hnew.1 p hp).1
      rw [show p.1 = s.heap.objs.size from e, hno] at this; cases this), fun _ _ h => (nomatch h)⟩, hnew.2⟩
  refine wpAny_mono (WF.step (s := { s with heap := h₁, toks := s.toks + binds.length }) (h _ _ (fun y => binds.reverse.lookup y) fr hO rfl fun _ _ e => e) (Nat.lt_of_lt_of_le ht (Nat.le_add_right _ _)) F₁ (R := fun fl s' => RR (.ok (.ret (match fl with | .ret v => v | _ => .none))) s') ?_) (fun fl s' q => q) fun _ _ x => x.elim
  intro fl g ρ' σ' h' tk htk hle T F' ⟨σ₁, hsub, p⟩
  have T' : Turn (fr.filterMap (·.frame)) h₀ g := ⟨T.none_, fun b o e hb => T.other b o e fun hm => by
    have hm : b ∈ s.heap.objs.size :: fr.filterMap (·.frame) := hm
    rcases List.mem_cons.mp hm with q | q
    · rw [q, hno'] at e; cases e
    · exact hb q, fun b o e hb => T.frame b o e (List.mem_cons_of_mem _ hb)⟩
  have := hret (retOf fl) σ₁ g h' tk T' F'.keep ⟨fun q hq => ⟨(F'.led q (hsub.subset hq)).1, (F'.led q (hsub.subset hq)).2.1⟩, (hsub.map _).nodup F'.nd⟩ (Nat.le_trans (Nat.le_add_right _ _) hle) p
  cases fl <;> exact this
/-- a contract used that turns `σ₀` and the frames -/
theorem WF.mutF {A : Around} {env : Env} {ρ : Rho} {σ : Led} {need : Nat} (O : Ok w loose mean mg mb need A env h₀) (hL : env.locals ∈ fsOf A) (hcell : ∀ x c, env.cells.lookup x = some c → h₀.get? c = none) {k : Nat} {f : Value} {args : List Value} {Q : Heap → Value → Rho → Led → Prop}
    (C : ∀ h, h₀.StaysIn h → (∀ p ∈ σ, h.get? p.1 = some p.2) → MutF w loose mean mg mb k f args h σ₀ P) (hk : k ≤ need) (hq : ∀ h₁ v tl, Ok w loose mean mg mb need A env h₁ → P tl v → Q h₁ v ρ (tl ++ σ)) : WF w A h₀ env ρ (σ₀ ++ σ) (PySem.call f args) Q := fun s ht F => by
  obtain ⟨base₀, fr₀, R⟩ := frAt O F hL
  obtain ⟨m, hn, r⟩ := F.ns
  have hLd : ∀ p ∈ σ₀, p.1 ≠ env.locals := fun p hp => (F.led p (List.mem_append_left _ hp)).2.2.1
  have out : ∀ a, a ∉ σ₀.map (·.1) → (hides s.heap (σ₀.map (·.1))).get? a = s.heap.get? a := fun a ha => hides_ne _ ha
  have nL : env.locals ∉ σ₀.map (·.1) := fun h1 => by
    obtain ⟨p, hp, e⟩ := List.mem_map.mp h1
    exact hLd p hp e
  have nd := F.nd
  rw [List.map_append] at nd
  obtain ⟨nd1, nd2, nd3⟩ := List.nodup_append.mp nd
  have notled : ∀ b o, h₀.get? b = some o → b ∉ σ₀.map (·.1) := fun b o e h1 => by
    obtain ⟨p, hp, e'⟩ := List.mem_map.mp h1
    have := (F.led p (List.mem_append_left _ hp)).2.1
    rw [e', e] at this; cases this
  have st₀ : h₀.StaysIn (hides s.heap (σ₀.map (·.1))) := fun b o e => by
    rw [out b (notled b o e)]
    exact F.keep b o e
  have inσ : ∀ p ∈ σ, (hides s.heap (σ₀.map (·.1))).get? p.1 = some p.2 := fun p hp => by
    rw [out p.1 fun h1 => nd3 _ h1 _ (List.mem_map.mpr ⟨p, hp, rfl⟩) rfl]
    exact (F.led p (List.mem_append_right _ hp)).1
  have hn' : (hides s.heap (σ₀.map (·.1))).Ns env.locals m := by
    obtain ⟨ob, es, ep, e1, e2⟩ := hn
    exact ⟨ob, es, ep, by rw [out _ nL]; exact e1, e2⟩
  have fsled : ∀ b ∈ fsOf A, ∀ p ∈ σ₀ ++ σ, p.1 ≠ b := fun b hb p hp e => by
    rcases R.inn b hb with e' | ⟨o, e'⟩
    · exact (F.led p hp).2.2.1 (e.trans e')
    · have := (F.led p hp).2.1; rw [e, e'] at this; cases this
  obtain ⟨base, fr, hfr, B⟩ := O.bel _ st₀ ⟨m, hn'⟩
  have hfs : fsOf A = fr.filterMap (·.frame) := by unfold fsOf; rw [hfr]; rfl
  obtain ⟨hd, dp, fr', gd, un⟩ := A
  obtain rfl : hd = none := O.hh
  obtain rfl : fr' = some fr := hfr
  have h1 := O.dp
  have h2 := O.un
  dsimp only at h1 h2
  refine wpAny_call (C _ st₀ inσ dp un gd fr s _ (fun _ _ e => of_hides _ e) (by rw [hides_size]; exact Nat.le_refl _) ⟨fun p hp => ⟨(F.led p (List.mem_append_left _ hp)).1, hides_mem _ (List.mem_map.mpr ⟨p, hp, rfl⟩)⟩, nd1⟩ ht
    ⟨fun b o e => st₀ b o (O.x b o e), O.t.keeps st₀, ⟨base, B⟩, ar_d2 h1 hk, ar_u2 h2 hk⟩ fun v tl H₁ h' tk T st nw htk p => ?_)
  have back : ∀ b, H₁.get? b = none → (hides s.heap (σ₀.map (·.1))).get? b = none := fun b e => by
    cases e1 : (hides s.heap (σ₀.map (·.1))).get? b with
    | none => rfl
    | some o =>
      by_cases hb : b ∈ fr.filterMap (·.frame)
      · obtain ⟨sl, e2⟩ := T.frame b o e1 hb; rw [e] at e2; cases e2
      · have := T.other b o e1 hb; rw [e] at this; cases this
  have σH : ∀ p ∈ σ, H₁.get? p.1 = some p.2 := fun p hp => T.other _ _ (inσ p hp) fun hb => fsled _ hb p (List.mem_append_right _ hp) rfl
  have q1 : ((tl ++ σ).map (·.1)).Nodup := by
    rw [List.map_append]
    refine List.nodup_append.mpr ⟨nw.2, nd2, fun a ha b hb e => ?_⟩
    obtain ⟨p, hp, rfl⟩ := List.mem_map.mp ha
    obtain ⟨q, hq, rfl⟩ := List.mem_map.mp hb
    have h1 := (nw.1 p hp).2
    rw [e, σH q hq] at h1; cases h1
  have q2 : ∀ b o, s.heap.get? b = some o → b ∉ fsOf (ar dp un gd fr) → b ∉ (σ₀ ++ σ).map (·.1) → h'.get? b = some o := by
    intro b o e hb hs
    rw [List.map_append, List.mem_append, not_or] at hs
    exact st _ _ (T.other b o (by rw [out b hs.1]; exact e) hb)
  have q3 : ∀ b o, s.heap.get? b = some o → b ∈ fsOf (ar dp un gd fr) → ∃ sl, h'.get? b = some { o with slots := sl } := by
    intro b o e hb
    have hm : b ∉ σ₀.map (·.1) := fun hm => by
      obtain ⟨p, hp, e'⟩ := List.mem_map.mp hm
      exact fsled b hb p (List.mem_append_left _ hp) e'
    obtain ⟨sl, e2⟩ := T.frame b o (by rw [out b hm]; exact e) hb
    exact ⟨sl, st _ _ e2⟩
  have q4 : ∀ p ∈ tl ++ σ, h'.get? p.1 = some p.2 ∧ (p.1 ∈ (σ₀ ++ σ).map (·.1) ∨ s.heap.get? p.1 = none) := by
    intro p hp
    rcases List.mem_append.mp hp with hp | hp
    · refine ⟨(nw.1 p hp).1, ?_⟩
      have e1 := back _ (nw.1 p hp).2
      by_cases hm : p.1 ∈ σ₀.map (·.1)
      · left; rw [List.map_append]; exact List.mem_append_left _ hm
      · right; rw [out _ hm] at e1; exact e1
    · exact ⟨st _ _ (σH p hp), .inl (List.mem_map.mpr ⟨p, List.mem_append_right _ hp, rfl⟩)⟩
  obtain ⟨h₁, T₁, F₁, _⟩ := F.turned (fs := fsOf (ar dp un gd fr)) R.inn hcell q1 q2 q3 q4
  exact ⟨h₁, ρ, tl ++ σ, h', tk, rfl, T₁, F₁, hq h₁ v tl (O.turn F hL T₁) p⟩
end
end Mine
end

section
open PySem PySem.W PyProof.Rows PySem.Calls PySem.Builtin
set_option maxRecDepth 100000
set_option maxHeartbeats 2000000
set_option linter.unusedVariables false
namespace Mine
noncomputable abbrev mwO (id : String) (self : Value) : Obj := { cls := .type "method-wrapper", data := .fields #[.builtin id, self] }
theorem slot_wdget : Slot "wrapper_descriptor" "__get__" "wrapper_descriptor.__get__" :=
  .of (owner := "wrapper_descriptor") (n := "__get__") (by rw [typeLookup_type, builtinLookup_eq_fast]; kernel_rfl) (by decide +kernel) (by decide +kernel) (by decide +kernel)
    (by first | exact .inl (by decide +kernel) | exact .inr (by decide +kernel)) (by rw [isSubtype_type]; kernel_rfl)
theorem entry_wdget : entryFor table "wrapper_descriptor.__get__" = some Builtin.«wrapper_descriptor.__get__» := entryFor_of_tree (by kernel_rfl)
theorem args_wdget (a b c : Value) : argsOk "wrapper_descriptor.__get__" ⟨[a, b, c], []⟩ := by unfold argsOk; rw [S.signatureZ_eq, PySem.W.Fast.te16078263539434579649]; kernel_rfl
theorem wd_set : typeLookup (.type "wrapper_descriptor") "__set__" = pure none := by rw [typeLookup_type, builtinLookup_eq_fast]; kernel_rfl
theorem wd_del : typeLookup (.type "wrapper_descriptor") "__delete__" = pure none := by rw [typeLookup_type, builtinLookup_eq_fast]; kernel_rfl
theorem li_no_getattr : typeLookup (.type "list_iterator") "__getattr__" = pure none := by rw [typeLookup_type, builtinLookup_eq_fast]; kernel_rfl
theorem slot_li_ga : Slot "list_iterator" "__getattribute__" "object.__getattribute__" :=
  .of (owner := "object") (n := "__getattribute__") (by rw [typeLookup_type, builtinLookup_eq_fast]; kernel_rfl) (by decide +kernel) (by decide +kernel) (by decide +kernel)
    (by first | exact .inl (by decide +kernel) | exact .inr (by decide +kernel)) (by rw [isSubtype_type]; kernel_rfl)
theorem entry_li_ga : entryFor table "object.__getattribute__" = some Builtin.«object.__getattribute__» := entryFor_of_tree (by kernel_rfl)
theorem args_li_ga (a b : Value) : argsOk "object.__getattribute__" ⟨[a, b], []⟩ := by unfold argsOk; rw [S.signatureZ_eq, PySem.W.Fast.te16078263539434579649]; kernel_rfl
theorem type_li_next : typeOf (.builtin "list_iterator.__next__") = pure (.type "wrapper_descriptor") := by show builtinType _ = _; rw [builtinType_eq_fast]; kernel_rfl
theorem sub_li : isSubtype (.type "list_iterator") (.type "list_iterator") = pure true := by rw [isSubtype_type]; kernel_rfl
theorem sub_lim : isSubtype (.type "list_iterator") (.type "module") = pure false := by rw [isSubtype_type]; kernel_rfl
theorem kind_li_next : builtinKind "list_iterator.__next__" = some .slot := by rw [PySem.W.Fast.te11380579304954806539]; kernel_rfl
theorem gb_next {prog : Program} {w : World} {A : Around} {E : Value → Shared → Prop} {s : Shared} {a : Addr} {vs : Array Value} {Q : Value → Shared → Prop} (ho : s.heap.get? a = some { cls := .type "list_iterator", data := .fields vs })
    (h : ∀ tk, Q (.ref s.heap.objs.size) { s with heap := s.heap.push (mwO "list_iterator.__next__" (.ref a)), toks := tk }) : wpAny (model prog w) A (getAttr (.ref a) "__next__" true) Q E s := by
  obtain ⟨hp, g, d, tk, os⟩ := s
  have hT : ∀ tk', (⟨hp, g, d, tk', os⟩ : Shared).TypeIs (.ref a) "list_iterator" := fun _ => ⟨_, ho, rfl⟩
  have f3 := slot_li_ga.lookup
  have f4 := slot_li_ga.bind (.ref a)
  have f5 := li_no_getattr
  have f6 := slot_listiter_next.lookup
  have f7 := type_li_next
  have f8 := slot_wdget.lookup
  have f9 := wd_set
  have f10 := wd_del
  unfold getAttr getAttrBy
  repeat' (first | (first | with_reducible (first | refine wpAny_pure ?_ | refine wpAny_bind ?_ | refine wpAny_holding ?_ | refine wpAny_of_eq (by assumption) ?_ | refine wpAny_rule ?_ | refine wpAny_specialOf_val (by assumption) (by assumption) ?_ | refine wpAny_fresh' ?_ | refine wpAny_alloc' ?_ | refine wpAny_attempt ?_ | refine wpAny_call ?_ | refine wpAny_loadPart' (by assumption) ?_ | refine wpAny_load' (by assumption) ?_ | refine wpAny_typeOf (by assumption) ?_ | refine wpAny_specialOf (by assumption) (by assumption) ?_ | refine wpAny_isInstance_val (by assumption) (by assumption) ?_ | refine wpAny_isInstance (by assumption) (by assumption) ?_ | refine wpAny_standAt ?_ | refine wpAny_point ?_ | refine wpAny_letGo ?_ | refine wpAny_runValue ?_ | refine wpAny_run ?_) | ((with_reducible refine wpAny_ite_false ?_ ?_); focus (rfl; done)) | ((with_reducible refine wpAny_ite_true ?_ ?_); focus (rfl; done)) | wp_delta | with_reducible_and_instances (first | refine wpAny_pure ?_ | refine wpAny_bind ?_)) | with_reducible assumption | with_reducible exact hT _)
  refine codeAny_call_builtin slot_li_ga.plain entry_li_ga (slot_li_ga.check _ _ _ _ _ _ _ _ (hT _) (args_li_ga _ _) ?_)
  unfold Builtin.«object.__getattribute__»
  repeat' (first | (first | with_reducible (first | refine wpAny_pure ?_ | refine wpAny_bind ?_ | refine wpAny_holding ?_ | refine wpAny_of_eq (by assumption) ?_ | refine wpAny_rule ?_ | refine wpAny_specialOf_val (by assumption) (by assumption) ?_ | refine wpAny_fresh' ?_ | refine wpAny_alloc' ?_ | refine wpAny_attempt ?_ | refine wpAny_call ?_ | refine wpAny_loadPart' (by assumption) ?_ | refine wpAny_load' (by assumption) ?_ | refine wpAny_typeOf (by assumption) ?_ | refine wpAny_specialOf (by assumption) (by assumption) ?_ | refine wpAny_isInstance_val (by assumption) (by assumption) ?_ | refine wpAny_isInstance (by assumption) (by assumption) ?_ | refine wpAny_standAt ?_ | refine wpAny_point ?_ | refine wpAny_letGo ?_ | refine wpAny_runValue ?_ | refine wpAny_run ?_) | ((with_reducible refine wpAny_ite_false ?_ ?_); focus (rfl; done)) | ((with_reducible refine wpAny_ite_true ?_ ?_); focus (rfl; done)) | wp_delta | with_reducible_and_instances (first | refine wpAny_pure ?_ | refine wpAny_bind ?_)) | with_reducible assumption | with_reducible exact hT _)
  refine codeAny_call_builtin slot_wdget.plain entry_wdget (slot_wdget.check _ _ _ _ _ _ _ _ type_li_next (args_wdget _ _ _) ?_)
  unfold Builtin.«wrapper_descriptor.__get__»
  repeat' (first | (first | with_reducible (first | refine wpAny_pure ?_ | refine wpAny_bind ?_ | refine wpAny_holding ?_ | refine wpAny_of_eq (by assumption) ?_ | refine wpAny_rule ?_ | refine wpAny_specialOf_val (by assumption) (by assumption) ?_ | refine wpAny_fresh' ?_ | refine wpAny_alloc' ?_ | refine wpAny_attempt ?_ | refine wpAny_call ?_ | refine wpAny_loadPart' (by assumption) ?_ | refine wpAny_load' (by assumption) ?_ | refine wpAny_typeOf (by assumption) ?_ | refine wpAny_specialOf (by assumption) (by assumption) ?_ | refine wpAny_isInstance_val (by assumption) (by assumption) ?_ | refine wpAny_isInstance (by assumption) (by assumption) ?_ | refine wpAny_standAt ?_ | refine wpAny_point ?_ | refine wpAny_letGo ?_ | refine wpAny_runValue ?_ | refine wpAny_run ?_) | ((with_reducible refine wpAny_ite_false ?_ ?_); focus (rfl; done)) | ((with_reducible refine wpAny_ite_true ?_ ?_); focus (rfl; done)) | wp_delta | with_reducible_and_instances (first | refine wpAny_pure ?_ | refine wpAny_bind ?_)) | with_reducible assumption | with_reducible exact hT _)
  have hown : ".".intercalate ("list_iterator.__next__".cutAt '.').dropLast = "list_iterator" := by decide +kernel
  rw [hown]
  have f11 := sub_li
  repeat' (first | (first | with_reducible (first | refine wpAny_pure ?_ | refine wpAny_bind ?_ | refine wpAny_holding ?_ | refine wpAny_of_eq (by assumption) ?_ | refine wpAny_rule ?_ | refine wpAny_specialOf_val (by assumption) (by assumption) ?_ | refine wpAny_fresh' ?_ | refine wpAny_alloc' ?_ | refine wpAny_attempt ?_ | refine wpAny_call ?_ | refine wpAny_loadPart' (by assumption) ?_ | refine wpAny_load' (by assumption) ?_ | refine wpAny_typeOf (by assumption) ?_ | refine wpAny_specialOf (by assumption) (by assumption) ?_ | refine wpAny_isInstance_val (by assumption) (by assumption) ?_ | refine wpAny_isInstance (by assumption) (by assumption) ?_ | refine wpAny_standAt ?_ | refine wpAny_point ?_ | refine wpAny_letGo ?_ | refine wpAny_runValue ?_ | refine wpAny_run ?_) | ((with_reducible refine wpAny_ite_false ?_ ?_); focus (rfl; done)) | ((with_reducible refine wpAny_ite_true ?_ ?_); focus (rfl; done)) | wp_delta | with_reducible_and_instances (first | refine wpAny_pure ?_ | refine wpAny_bind ?_)) | with_reducible assumption | with_reducible exact hT _)
  exact h _
end Mine
end

section
open PySem PySem.W PyProof.Rows PySem.Calls PySem.Builtin
set_option maxRecDepth 100000
set_option maxHeartbeats 2000000
set_option linter.unusedVariables false
namespace Mine
/-- a new StopIteration -/
inductive StopAt (h : Heap) (e : Addr) : Prop
  | mk (o : _) (vs : _) (a0 : _) (y1 : h.get? e = some o) (y2 : o.cls = .type "StopIteration") (y3 : o.data = .fields vs) (y4 : vs[0]? = some a0) (y5 : vs[1]? = some .none) : StopAt h e
theorem lnext_stop {prog : Program} {w : World} {A : Around} {E : Value → Shared → Prop} {s : Shared} {it l : Addr} {i : Nat} {items : Array Value} {Q : PySem.Fin → Shared → Prop} (hh : A.handled = none) (hit : s.heap.IsListIter it l i) (hl : s.heap.IsList l items) (hx : items[i]? = none)
    (hE : ∀ h' e, Heap.ExtBut it s.heap h' → StopAt h' e → s.heap.get? e = none → E (.ref e) { s with heap := h' }) : wpAny (model prog w) A (Builtin.«list_iterator.__next__» ⟨[.ref it], []⟩) Q E s := by
  obtain ⟨o, ho, hc, hd⟩ := id hit
  obtain ⟨ol, hol, _, nl, hdl⟩ := hl
  show wpAny _ _ (field (.ref it) 0 >>= _) _ _ s
  refine wpAny_bind (wpAny_field ho hd (x := .ref l) rfl ?_)
  show wpAny _ _ (if (Value.ref l == Value.none) = true then _ else _) _ _ s
  rw [if_neg (show ¬ ((Value.ref l == Value.none) = true) from Bool.false_ne_true)]
  show wpAny _ _ (field (.ref it) 1 >>= _) _ _ s
  refine wpAny_bind (wpAny_field ho hd (x := .int i 0) rfl ?_)
  show wpAny _ _ (seqItems? (.ref l) >>= _) _ _ s
  refine wpAny_bind (wpAny_seqItems hol hdl ?_)
  simp only [Int.toNat_natCast, hx]
  refine wpAny_bind (wpAny_rule (wpAny_bind (wpAny_setField ho hd (by simp) ?_)))
  show wpAny _ _ (newExc (.type "StopIteration") [] >>= _) _ _ _
  refine wpAny_bind ?_
  simp only [newExc, newTuple]
  refine wpAny_bind (wpAny_newObj_type ?_ (by size_fits))
  refine wpAny_bind (m := firstArgMember _ _) (wpAny_of_eq (a := Value.none) (by first | rfl | (simp only [firstArgMember]; rfl)) ?_)
  refine wpAny_newObj_type ?_ (by size_fits)
  simp only [raiseNew]
  refine wpAny_bind (wpAny_handled ?_)
  rw [hh]
  refine wpAny_bind (wpAny_pure (wpAny_throw ?_))
  refine hE _ _ (((Heap.SameBut.update ..).extBut.push _).push _) ⟨_, _, _, Heap.get?_push_size _ rfl, rfl, rfl, rfl, rfl⟩ ?_
  cases e : s.heap.get? _ with
  | none => rfl
  | some o' =>
    have := Heap.lt_size e
    rw [Heap.size_push] at this
    rw [(Heap.SameBut.update ..).1] at this
    exact absurd this (Nat.not_lt.mpr (Nat.le_succ _))
theorem args_li_next (a : Value) : argsOk "list_iterator.__next__" ⟨[a], []⟩ := by unfold argsOk; rw [S.signatureZ_eq, PySem.W.Fast.te16078263539434579649]; kernel_rfl
theorem mw_call {prog : Program} {w : World} {A : Around} {s : Shared} {B I a : Addr} {i : Nat} {oi : Obj} {R : Result → Shared → Prop} (hB : s.heap.get? B = some (mwO "list_iterator.__next__" (.ref I))) (hI : s.heap.get? I = some oi) (hi : ItL a i oi)
    (h : codeAny (model prog w) A (.builtin "list_iterator.__next__" ⟨[.ref I], []⟩) R s) : codeAny (model prog w) A (.call (.ref B) ⟨[], []⟩) R s := by
  obtain ⟨c, dct, dat, sl⟩ := oi
  obtain ⟨h1, h2⟩ := hi
  dsimp only at h1 h2
  subst h1 h2
  refine codeAny_of_tree ?_
  show wpAny _ _ (callAny (.ref B) _) _ _ _
  unfold callAny
  refine wpAny_bind (wpAny_load hB ?_)
  dsimp only
  show wpAny _ _ (checkBoundCall "list_iterator.__next__" ⟨[.ref I], []⟩ >>= _) _ _ _
  with_reducible refine wpAny_bind (cb_slot kind_li_next (args_li_next _) ?_)
  exact wpAny_pure ⟨Code.quiet_builtin _ (by decide +kernel), h⟩
theorem keeps_mw {M : Model} {id : String} {self : Value} {B : Addr} (h : Heap) (X : h.get? B = some (mwO id self)) : ∃ k, (k = Keeper.frame ∨ k = Keeper.machine ∨ k = Keeper.boundFrame) ∧ Looks M h (keeperOf (.ref B)) k :=
  ⟨.machine, .inr (.inl rfl), (Looks.ld (part := none) X).andThen .now⟩
/-- a frame noted first, of whatever stack -/
theorem note_first {M : Model} {A : Around} {E : Value → Shared → Prop} {s : Shared} {base : Heap} {env : Env} {outer : List Env} {L e : Addr} {oe : Obj} {vs : Array Value} {a0 : Value} {Q : Unit → Shared → Prop}
    (hfr : A.frames = some (env :: outer)) (hl : s.heap.FunFrames base (env :: outer)) (hf : env.frame = some L)
    (he : s.heap.get? e = some oe) (hkb : base.StaysIn s.heap) (hen : base.get? e = none) (hd : oe.data = .fields vs) (h1 : vs[1]? = some .none) (h0 : vs[0]? = some a0)
    (h : ∀ h', Heap.NotedW base (env :: outer) e oe.cls a0 (rawInt L) s.heap h' → Q () { s with heap := h' }) : wpAny M A (noteFrame (.ref e) env) Q E s := by
  unfold noteFrame
  simp only [hf]
  refine wpAny_bind (wpAny_field he hd h1 ?_)
  rw [if_neg (by decide)]
  exact wpAny_entryW hfr hl hf he hkb hen hd (Array.getElem?_eq_some_iff.mp h1).1 h0 h
theorem stop_exc : isSubtype (.type "StopIteration") (.type "BaseException") = pure true := by rw [isSubtype_type]; kernel_rfl
theorem stop_meta : isSubtype (.type ((Manifest.find? "StopIteration").elim "type" fun x => x.metatype)) (.type "tuple") = pure false := by
  rw [show ((Manifest.find? "StopIteration").elim "type" fun x => x.metatype) = "type" from by decide +kernel, isSubtype_type]; kernel_rfl
section
variable {w : World} {A : Around} {h₀ h h' : Heap} {env : Env} {ρ : Rho} {σ : Led} {loose : List Str} {mean : ExcName → Option Value} {mg mb : Str → Option Value} {need : Nat}
/-- `iter(xs)` -/
theorem w_iter {a : Addr} {o : Obj} {vs : List Value} {Q : Value → Rho → Led → Prop} (hk : Kn h₀ σ a o) (hl : LObj o vs) (h : ∀ I, Q (.ref I) ρ ((I, { cls := .type "list_iterator", data := .fields #[.ref a, .int 0 0] }) :: σ)) : W w A h₀ env ρ σ (PySem.call (.builtin "iter") [.ref a]) Q := fun s ht F => by
  refine call_function_entry (by decide +kernel) (by decide +kernel) kdk_entry_iter (kdk_args_iter _) ?_
  unfold Builtin.«iter»
  refine wpAny_bind (m := someArgs "iter" 1 2 _) (wpAny_of_eq (a := [Value.ref a]) (by first | rfl | kernel_rfl!) ?_)
  show wpAny _ _ (pyIter (.ref a) >>= _) _ _ _
  refine wpAny_bind (wpAny_pyIter_list (hl.isList (F.kn hk)) ?_)
  exact wpAny_pure ⟨_, rfl, ρ, _, _, s.toks, rfl, F.push _ rfl, h _⟩
theorem w_boundNext {I : Addr} {vs : Array Value} {Q : Value → Rho → Led → Prop} (hk : Kn h₀ σ I { cls := .type "list_iterator", data := .fields vs }) (h : ∀ B, Q (.ref B) ρ ((B, mwO "list_iterator.__next__" (.ref I)) :: σ)) : W w A h₀ env ρ σ (getAttr (.ref I) "__next__" true) Q := fun s ht F =>
  gb_next (F.kn hk) fun tk => ⟨ρ, _, _, tk, rfl, F.push _ rfl, h _⟩
theorem W.cont {pos : Pos} {Q : Flow → Rho → Led → Prop} (h : Q .cont ρ σ) : W w A h₀ env ρ σ (exec (.Continue pos) env) Q := fun s _ F => wpAny_Continue ⟨ρ, σ, s.heap, s.toks, rfl, F, h⟩
/-- the step of a bound `__next__`, where it may stop -/
theorem call_mw {B I a : Addr} {o oi : Obj} {vs : List Value} {i : Nat} {Q : Value → Shared → Prop} {E : Value → Shared → Prop} {s : Shared} (hh : A.handled = none) (F : FS h₀ env ρ ((I, oi) :: (B, mwO "list_iterator.__next__" (.ref I)) :: σ) s.heap) (hk : Kn h₀ σ a o) (hl : LObj o vs) (hi : ItL a i oi)
    (item : ∀ v o' h', vs[i]? = some v → ItL a (i + 1) o' → FS h₀ env ρ ((I, o') :: (B, mwO "list_iterator.__next__" (.ref I)) :: σ) h' → Q v { s with heap := h' })
    (stop : vs[i]? = none → ∀ h' e, Heap.ExtBut I s.heap h' → StopAt h' e → s.heap.get? e = none → E (.ref e) { s with heap := h' }) : wpAny (model PP w) A (PySem.call (.ref B) []) Q E s := by
  have hI := F.get (a := I) (.head _)
  have hB := F.get (a := B) (.tail _ (.head _))
  have hL := hl.isList (F.kn (hk.imp (fun h => .tail _ (.tail _ h)) id))
  refine wpAny_call (mw_call hB hI hi (codeAny_builtin entry_listiter_next ?_))
  rw [Around.under_plainId (by decide +kernel) _]
  cases hx : vs[i]? with
  | some v =>
    refine wpAny_mono (lnext_item ⟨oi, hI, hi⟩ hL (by simpa using hx) (Q := fun v' s' => Q v' s') fun h' ⟨o', ho', hi'⟩ hs => item v o' h' hx hi' (F.same hs ho')) (fun fin s' q => ?_) fun _ _ x => x
    obtain ⟨v', rfl, q⟩ := q
    exact q
  | none => exact lnext_stop (by exact hh) ⟨oi, hI, hi⟩ hL (by simpa using hx) fun h' e hs hst hn => stop hx h' e hs hst hn
end
end Mine
end

section
open PySem PySem.W PyProof.Rows PySem.Calls PySem.Builtin
set_option maxRecDepth 100000
set_option maxHeartbeats 2000000
set_option linter.unusedVariables false
namespace Mine
section
variable {w : World} {A : Around} {h₀ h h' : Heap} {env : Env} {ρ : Rho} {σ : Led} {loose : List Str} {mean : ExcName → Option Value} {mg mb : Str → Option Value} {need : Nat}
/-- `try: x = f()` / `break` / `except StopIteration: ..` with a bound `__next__` -/
theorem wf_tryNext {x : Str} {xp cpos apos bpos hpos pos tp : Pos} {func : Expr} {b₀ : Stmt} {suite : List Stmt} {B I a : Addr} {o oi : Obj} {vs : List Value} {i : Nat} {Q : Heap → Flow → Rho → Led → Prop} {outer : List Env}
    (O : Ok w loose mean mg mb need A env h₀) (hA : A.frames = some (env :: outer)) (hf : env.frame = some env.locals) (hcell : ∀ x c, env.cells.lookup x = some c → h₀.get? c = none)
    (hk : Kn h₀ σ a o) (hl : LObj o vs) (hi : ItL a i oi)
    (hfunc : W w A h₀ env ρ ((I, oi) :: (B, mwO "list_iterator.__next__" (.ref I)) :: σ) (eval func env) fun v ρ' σ' => v = .ref B ∧ ρ = ρ' ∧ σ' = (I, oi) :: (B, mwO "list_iterator.__next__" (.ref I)) :: σ)
    (item : ∀ v o', vs[i]? = some v → ItL a (i + 1) o' → W w A h₀ env ρ ((I, o') :: (B, mwO "list_iterator.__next__" (.ref I)) :: σ) (storeName env x v) fun _ ρ' σ' => Q h₀ .brk ρ' σ')
    (stop : vs[i]? = none → ∀ h₁ e, Ok w loose mean mg mb need A env h₁ → W w (A.mark (some (.ref e))) h₁ env ρ ((B, mwO "list_iterator.__next__" (.ref I)) :: σ) (execs (b₀ :: suite) env) (Q h₁))
    (hsi : nsIn (KB w.params) mainGlobals "StopIteration" = some none) (hkd : env.kindOf "StopIteration" = some .globalImplicit := by rfl)
    (hs : swapsWith (.Call func [] [] cpos) (some (.Name x xp)) apos.line env = pure false := by rfl)
    (he : eval (.Call func [] [] cpos) env = (do callWith cpos (← eval func env) [] (backTo cpos (starEach [] env)) (backToKw cpos (keywordEach [] env))) := by rfl) :
    WF w A h₀ env ρ ((I, oi) :: (B, mwO "list_iterator.__next__" (.ref I)) :: σ) (exec (.Try [.Assign [.Name x xp] (.Call func [] [] cpos) apos, .Break bpos] [.ExceptHandler (some (.Name "StopIteration" tp)) none (b₀ :: suite) hpos] [] [] pos) env) Q := fun s ht F => by
  have hfs : fsOf A = (env :: outer).filterMap (·.frame) := by unfold fsOf; rw [hA]; rfl
  have hL : env.locals ∈ fsOf A := by rw [hfs, List.filterMap_cons, hf]; exact .head _
  have hh := O.hh
  refine wpAny_Try_except (wpAny_execs_cons (wpAny_Assign_Name (Call_ (wpAny_mono (W.step hfunc ht F (R := fun v s₁ => wpAny (model PP w) A (callWith cpos v [] (backTo cpos (starEach [] env)) []) _ _ s₁) ?_) (fun _ _ q => q) fun _ _ x => x.elim) he) hs))
  rintro _ _ _ h' tk htk _ F' ⟨rfl, rfl, rfl⟩
  refine callWith_of (P := fun h => h.get? B = some (mwO "list_iterator.__next__" (.ref I))) rfl (fun h X => keeps_mw h X) (evalArgs_nil3 ⟨F'.get (.tail _ (.head _)), ?_⟩)
  refine call_mw (s := { s with heap := h', toks := tk }) hh F' hk hl hi (fun v o' h₂ hv hi' F₂ => ?_) (fun hv h₂ e hx hst hnew => ?_)
  · refine wpAny_mono (W.step (s := { s with heap := h₂, toks := tk }) (item v o' hv hi') htk F₂ (R := fun _ s₁ => wpAny (model PP w) A (execs [.Break bpos] env) _ _ s₁) fun _ ρ₃ σ₃ h₃ tk₃ ht₃ _ F₃ q₃ => ?_) (fun _ _ q => q) fun _ _ x => x.elim
    exact wpAny_execs_cons (wpAny_Break ⟨h₀, ρ₃, σ₃, h₃, tk₃, rfl, .refl, F₃, q₃⟩)
  · obtain ⟨base, fr, R⟩ := frAt O F' hL
    obtain rfl : fr = env :: outer := by have := R.frs; rw [hA] at this; exact (Option.some.inj this).symm
    obtain ⟨oe, ws, a0, e1, e2, e3, e4, e5⟩ := hst
    have F₂ := F'.gone hx
    obtain ⟨m, nm, _⟩ := F₂.ns
    have funs : h₂.FunFrames base (env :: outer) := R.fun_ h₂ F₂.keep ⟨m, nm⟩
    have eno : ∀ b ∈ fsOf A, b ≠ e := fun b hb q => by
      obtain ⟨_, o', e6, hd⟩ := funs.mem (hfs ▸ hb)
      rw [q, e1] at e6
      cases e6
      exact hd ws e3
    have known : ∀ b o', h'.get? b = some o' → b ≠ e := fun b o' q z => by rw [z] at q; exact absurd (q.symm.trans hnew) (by simp)
    have Bget : ∀ b, b ≠ e → b ∉ fsOf A → (hides h₂ (e :: fsOf A)).get? b = h₂.get? b := fun b h1 h2 => hides_ne _ fun hm => by
      rcases List.mem_cons.mp hm with q | q
      · exact h1 q
      · exact h2 q
    have base2 : ∀ g, (hides h₂ (e :: fsOf A)).StaysIn g → base.StaysIn g := fun g sg b o' q => by
      have hb : b ∉ fsOf A := fun hm => by rw [R.none_ b hm] at q; cases q
      have q1 := F₂.keep _ _ (R.st b o' q)
      exact sg b o' ((Bget b (known b o' (F'.keep _ _ (R.st b o' q))) hb).trans q1)
    have lB : h₂.FunFrames (hides h₂ (e :: fsOf A)) (env :: outer) := funFrames_of funs fun b hb => ⟨hides_mem _ (List.mem_cons_of_mem _ (hfs ▸ hb)), fun o' q _ => ⟨o', q, rfl⟩⟩
    refine note_first hA lB hf e1 (fun b o' q => of_hides _ q) (hides_mem _ (.head _)) e3 e5 e4 fun h₃ qq1 => ?_
    obtain ⟨n1, n2, n3, n4⟩ := qq1
    refine wpAny_landsW (base := hides h₂ (e :: fsOf A)) (l := env :: outer) (L := env.locals) ⟨n1, hides_mem _ (.head _), n2, n3⟩ fun h₄ fl₄ up₄ => ?_
    refine wpAny_handleBy_builtin stop_exc stop_meta isSubtype_stop (b := true) ?_
    have st4 := base2 _ fl₄.1
    have hd : (Str.ofString "StopIteration" == ("__debug__" : Str)) = false := by decide
    refine Name_function_global O.ek hkd (loadGlobal_builtin (O.eg ▸ R.t.g.keeps st4) (mg_none_of R.x R.t.g hsi) (O.eb ▸ R.t.b.keeps st4) ((R.t.builtins _ (by decide)).trans PyProof.Rows.Boot.«StopIteration») ⟨rfl, ?_, ?_⟩) hd
    · obtain ⟨ob, q1, q2⟩ := fl₄.there
      exact ⟨ob, q1, q2.trans e2⟩
    show wpAny _ _ _ _ _ _
    refine lands_againW fl₄ fun h₅ fl₅ up₅ => ?_
    have up : h₂.UpToSlots h₅ := (Heap.UpToSlots.trans (fun b o' q hd => n4 b o' q hd) (up₄.trans up₅))
    have inB : ∀ b o', h'.get? b = some o' → b ∉ fsOf A → b ≠ I → h₅.get? b = some o' := fun b o' q h1 h2 => fl₅.1 b o' ((Bget b (known b o' q) h1).trans (hx b o' h2 q))
    have nd := F'.nd
    have ledfs : ∀ b ∈ fsOf A, ∀ p ∈ (I, oi) :: (B, mwO "list_iterator.__next__" (.ref I)) :: σ, p.1 ≠ b := fun b hb p hp q => by
      rcases R.inn b hb with z | ⟨o', z⟩
      · exact (F'.led p hp).2.2.1 (q.trans z)
      · have := (F'.led p hp).2.1; rw [q, z] at this; cases this
    obtain ⟨h₁, T₁, F₁, _⟩ := F'.turned (fs := fsOf A) (h' := h₅) R.inn hcell (σ' := (B, mwO "list_iterator.__next__" (.ref I)) :: σ) (List.nodup_cons.mp nd).2
      (fun b o' q h1 h2 => inB b o' q h1 fun z => h2 (z ▸ .head _))
      (fun b o' q hb => by
        have hbI : b ≠ I := fun z => ledfs b hb _ (.head _) z.symm
        have q2 := hx b o' hbI q
        obtain ⟨_, o'', q3, hd⟩ := funs.mem (hfs ▸ hb)
        rw [q2] at q3
        cases q3
        exact up b o' q2 hd)
      (fun p hp => by
        have hpI : p.1 ≠ I := fun z => (List.nodup_cons.mp nd).1 (List.mem_map.mpr ⟨p, hp, z⟩)
        exact ⟨inB _ _ (F'.led p (.tail _ hp)).1 (fun hb => ledfs _ hb p (.tail _ hp) rfl) hpI, .inl (List.mem_map.mpr ⟨p, .tail _ hp, rfl⟩)⟩)
    refine wpAny_mono (W.step (s := { s with heap := h₅, toks := tk }) (stop hv h₁ e (O.turn F' hL T₁)) htk F₁ (R := fun f s₁ => PostF A h₀ env s Q f s₁) fun f ρ₆ σ₆ h₆ tk₆ ht₆ _ F₆ q₆ => ⟨h₁, ρ₆, σ₆, h₆, tk₆, rfl, T₁, F₆, q₆⟩) (fun _ _ q => q) fun _ _ x => x.elim
end
end Mine
end

section
open PySem PySem.W PyProof.Rows PySem.Calls
set_option maxRecDepth 100000
set_option maxHeartbeats 4000000
set_option linter.unusedVariables false
namespace Mine
theorem Upd.pre {a : Addr} {o o' : Obj} {l l' : Led} : ∀ p : Led, Upd a o o' l l' → Upd a o o' (p ++ l) (p ++ l')
  | [], u => u
  | x :: p, u => .tail x (Upd.pre p u)
section
variable {w : World} {A : Around} {h₀ h h' : Heap} {env : Env} {ρ : Rho} {σ : Led} {d : Addr} {o : Obj} {kvs : List (Str × Value)} {k : Str} {t : Tok}
theorem w_delSub {e i : Expr} {sp pos : Pos} {Q : Flow → Rho → Led → Prop} (h : W w A h₀ env ρ σ (eval e env) fun ov ρ₁ σ₁ => W w A h₀ env ρ₁ σ₁ (eval i env) fun iv ρ₂ σ₂ => W w A h₀ env ρ₂ σ₂ (delItem ov iv) fun _ => Q .next) :
    W w A h₀ env ρ σ (exec (.Delete [.Subscript e i sp] pos) env) Q := fun s ht F =>
  wpAny_Delete (wpAny_deleteEach_cons (wpAny_delete_Subscript (W.step h ht F fun _ _ _ _ _ htk _ F' q => W.step q htk F' fun _ _ _ _ _ htk _ F' q => wpAny_mono (q.at htk F') (fun _ _ p => wpAny_deleteEach_nil p) fun _ _ x => x)))
theorem w_delItemD {f : Obj → Led} {Q : Unit → Rho → Led → Prop} (hd : DD w o kvs) (hz : kvs.length ≤ 1000000) (hv : (valueAt kvs k).isSome = true) (U : ∀ o', Upd d o o' σ (f o')) (h : ∀ o', DD w o' (without kvs k) → Q () ρ (f o')) : W w A h₀ env ρ σ (delItem (.ref d) (.str k t)) Q := fun s ht F => by
  have ho := F.get (U { cls := .none, data := .freed }).mem
  have hD := hd.at ho
  unfold delItem
  try with_reducible refine wpAny_holding ?_
  refine wpAny_bind (wpAny_sequenceKey hD.typeIs (by decide) ?_)
  refine wpAny_bind (wpAny_callSpecial?_slot (name := Str.ofString "__delitem__") hD.typeIs PySem.F.slot_dict_delitem
    (call_meetsIn PySem.F.slot_dict_delitem hD.typeIs PySem.F.entry_dict_delitem (PySem.F.args_dict_delitem_2 _ _) (meets_dict_delitem_pairs (PySem.strKind PP w) d (strKind_is PP w k t)) ⟨kvs, hD, (by rw [sizeLine_eq]; omega), hv, fun h' hmm hs => ?_⟩))
  obtain ⟨o', ho', hd'⟩ := Heap.dictOf_iff.mp hmm
  exact wpAny_pure ⟨ρ, _, h', _, rfl, F.put U hs ho', h o' hd'⟩
theorem w_iterKeys {Q : Value → Rho → Led → Prop} (hk : Kn h₀ σ d o) (hs : (d == sysModules) = false) (hd : DD w o kvs) (h : ∀ I oi ep, DA w o kvs ep → ItK d kvs.length ep 0 oi → Q (.ref I) ρ ((I, oi) :: σ)) : W w A h₀ env ρ σ (pyIter (.ref d)) Q := fun s ht F => by
  obtain ⟨ep, ha⟩ := hd.da
  exact wpAny_pyIter_dict hs (ha.at (F.kn hk)) ⟨ρ, _, _, s.toks, rfl, F.push _ rfl, h _ _ ep ha ⟨rfl, rfl⟩⟩
end
end Mine
end

section
open PySem PySem.W PyProof.Rows PySem.Calls
set_option maxRecDepth 100000
set_option maxHeartbeats 4000000
set_option linter.unusedVariables false
namespace Mine
section
variable {w : World} {A : Around} {h₀ : Heap} {env : Env} {ρ : Rho} {σ : Led} {loose : List Str} {mean : ExcName → Option Value} {mg mb : Str → Option Value} {need : Nat}
/-- statements and calls whose last step turns the frames -/
theorem WF.assign {x : Str} {pos' pos : Pos} {value : Expr} {Q : Heap → Flow → Rho → Led → Prop} (h : WF w A h₀ env ρ σ (eval value env) fun h₁ v ρ' σ' => W w A h₁ env ρ' σ' (storeName env x v) fun _ => Q h₁ .next)
    (hs : swapsWith value (some (.Name x pos')) pos.line env = pure false := by rfl) : WF w A h₀ env ρ σ (exec (.Assign [.Name x pos'] value pos) env) Q := fun s ht F =>
  wpAny_Assign_Name (WF.step h ht F fun _ h₁ _ _ _ _ htk _ T F' q => wpAny_mono ((WF.ofW (Q := fun h₂ _ => Q h₂ .next) q).at T htk F') (fun _ _ p => p) fun _ _ x => x) hs
theorem WF.expr {e : Expr} {pos : Pos} {Q : Heap → Flow → Rho → Led → Prop} (h : WF w A h₀ env ρ σ (eval e env) fun h₁ _ => Q h₁ .next) (hi : interactive env = false := by rfl) (hs : swapsWith e none pos.line env = pure false := by rfl) :
    WF w A h₀ env ρ σ (exec (.Expr e pos) env) Q := fun s ht F => wpAny_Expr_any (wpAny_mono (h s ht F) (fun _ _ p => p) fun _ _ x => x) hi hs
theorem WF.method {o : Expr} {name : Str} {apos pos : Pos} {args : List Expr} {pl : Sem Bool} {Q : Heap → Value → Rho → Led → Prop}
    (h : W w A h₀ env ρ σ (eval o env) fun ov ρ₁ σ₁ => W w A h₀ env ρ₁ σ₁ (getMethod ov name pl) fun fx ρ₂ σ₂ => WF w A h₀ env ρ₂ σ₂ (callWith pos fx.1 fx.2 (backTo pos (starEach args env)) []) Q)
    (he : eval (.Call (.Attribute o name apos) args [] pos) env = (do
      let ov ← eval o env
      standAt apos.atName
      let (f, first) ← holding [ov] (getMethod ov name pl)
      callWith pos f first (backTo pos (starEach args env)) []) := by rfl) : WF w A h₀ env ρ σ (eval (.Call (.Attribute o name apos) args [] pos) env) Q := fun s ht F =>
  MethodCall_ (W.step h ht F fun _ _ _ _ _ htk _ F' q => W.step q htk F' fun _ _ _ _ _ htk _ F' q => q.at .refl htk F') he
theorem WF.call {func : Expr} {args : List Expr} {pos : Pos} {Q : Heap → Value → Rho → Led → Prop}
    (h : W w A h₀ env ρ σ (eval func env) fun f ρ₁ σ₁ => WF w A h₀ env ρ₁ σ₁ (callWith pos f [] (backTo pos (starEach args env)) []) Q)
    (he : eval (.Call func args [] pos) env = (do callWith pos (← eval func env) [] (backTo pos (starEach args env)) (backToKw pos (keywordEach [] env))) := by rfl) : WF w A h₀ env ρ σ (eval (.Call func args [] pos) env) Q := fun s ht F =>
  Call_ (W.step h ht F fun _ _ _ _ _ htk _ F' q => q.at .refl htk F') he
theorem wf_callK0 (O : Ok w loose mean mg mb need A env h₀) {pos : Pos} {f : Value} {first : List Value} {Q : Heap → Value → Rho → Led → Prop} (hk : keepIn (KB w.params) f = true) (h : WF w A h₀ env ρ σ (PySem.call f first) Q) :
    WF w A h₀ env ρ σ (callWith pos f first (backTo pos (starEach [] env)) []) Q := fun s ht F =>
  callWith_K0 (K := KB w.params) (O.x.keeps F.keep) hk (by rw [List.append_nil]; exact h s ht F)
theorem WF.callD (O : Ok w loose mean mg mb need A env h₀) {pos : Pos} {f : Addr} {oc : Value} {od : Option Addr} {fd : FuncData} {osl : Array (Option Value)} {e : Expr} {rest : List Expr} {Q : Heap → Value → Rho → Led → Prop}
    (ho : (KB w.params).lookup f = some ⟨oc, od, .func fd, osl⟩)
    (h : W w A h₀ env ρ σ (spliced (backTo pos (starEach (e :: rest) env))) fun vs ρ₁ σ₁ => WF w A h₀ env ρ₁ σ₁ (PySem.call (.ref f) vs) Q)
    (he : starEach (e :: rest) env = (false, eval e env) :: starEach rest env := by rfl) : WF w A h₀ env ρ σ (callWith pos (.ref f) [] (backTo pos (starEach (e :: rest) env)) []) Q := fun s ht F =>
  callWith_def (o := ⟨oc, od, .func fd, osl⟩) rfl (W.step h ht F fun _ _ _ _ _ htk _ F' q => ⟨F'.keep _ _ (O.x _ _ ho), q.at .refl htk F'⟩) he
end
/-! the values of a dict -/
section
variable {w : World} {A : Around} {h₀ h h' : Heap} {env : Env} {ρ : Rho} {σ : Led} {d : Addr} {o : Obj} {kvs : List (Str × Value)}
noncomputable abbrev valsO (d : Addr) : Obj := { cls := .type "dict_values", data := .fields #[.ref d] }
noncomputable abbrev valIt (d : Addr) (n ep : Nat) : Obj := { cls := .type "dict_valueiterator", data := .fields #[.ref d, .int 0 0, .int n 0, .int ep 0] }
theorem w_values {Q : Value → Rho → Led → Prop} (hds : (d == sysModules) = false) (hk : Kn h₀ σ d o) (hd : DD w o kvs) (h : ∀ V, Q (.ref V) ρ ((V, valsO d) :: σ)) : W w A h₀ env ρ σ (PySem.call (.builtin "dict.values") [.ref d]) Q := fun s ht F =>
  call_meetsIn PySem.F.slot_dict_values (hd.at (F.kn hk)).typeIs PySem.F.entry_dict_values (PySem.F.args_dict_values_1 _) (meets_dict_values (PySem.strKind PP w) d hds) ⟨⟨_, hd.at (F.kn hk)⟩, ⟨ρ, _, _, _, rfl, F.push _ rfl, h _⟩⟩
theorem w_iterValues {V : Addr} {ep : Nat} {Q : Value → Rho → Led → Prop} (hV : Kn h₀ σ V (valsO d)) (hk : Kn h₀ σ d o) (hd : DA w o kvs ep) (h : ∀ I, Q (.ref I) ρ ((I, valIt d kvs.length ep) :: σ)) : W w A h₀ env ρ σ (pyIter (.ref V)) Q := fun s ht F =>
  wpAny_pyIter_values ⟨_, F.kn hV, rfl, rfl⟩ (hd.at (F.kn hk)) ⟨ρ, _, _, _, rfl, F.push _ rfl, h _⟩
end
end Mine
end

section
open PySem PySem.W PyProof.Rows PySem.Calls
set_option maxRecDepth 100000
set_option maxHeartbeats 4000000
set_option linter.unusedVariables false
namespace Mine
/-! a method called with a star: the bound method is made -/
section
variable {w : World} {A : Around} {h₀ : Heap} {env : Env} {ρ : Rho} {σ : Led} {loose : List Str} {mean : ExcName → Option Value} {mg mb : Str → Option Value} {need : Nat}
theorem w_bound {C x dx f : Addr} {es : List DictEntry} {n : Nat} {name : Str} {Q : Value → Rho → Led → Prop} (O : Ok w loose mean mg mb need A env h₀) (hx : Kn h₀ σ x (instObj C dx)) (hdx : Kn h₀ σ dx (dictOf es n)) (hg : plainGet (KB w.params) C name = true) (hh : hasDictIn (KB w.params) C = true)
    (ha : findIn (KB w.params) (.ref C) name = some (some (.ref f))) (hf : isFn (KB w.params) (.ref f) = true) (hgf : specialIn (KB w.params) (.ref f) "__get__" = some (some (.builtin "function.__get__"))) (ht : takesIn (KB w.params) (.ref f) = some false)
    (hl : getL name es = some none) (h : ∀ q, Q (.ref q) ρ ((q, methodObj (.ref f) (.ref x)) :: σ)) (hc : copiedNames.contains name = false := by decide) : W w A h₀ env ρ σ (getAttr (.ref x) name true) Q := fun s hts F => by
  have X : (KB w.params).In s.heap := O.x.keeps F.keep
  refine get_bind X (inst_at F hx hdx) (plainGet_of hg).1 (findObj_fn hh ha hgf ht hc (by show lookIn name (dictOf es n) = _; rw [lookIn_dict, hl])) (plainGet_of hg).2
    (wpAny_call (fn_get (s := { s with toks := s.toks + 1 }) X (beq_iff_eq.mp hf) (handed_on rfl ⟨ρ, _, _, _, rfl, F.push _ rfl, h _⟩)))
theorem w_methodS {o : Expr} {name : Str} {apos pos : Pos} {args : List Expr} {Q : Value → Rho → Led → Prop}
    (h : W w A h₀ env ρ σ (eval o env) fun ov ρ₁ σ₁ => W w A h₀ env ρ₁ σ₁ (getAttr ov name true) fun f ρ₂ σ₂ => W w A h₀ env ρ₂ σ₂ (callWith pos f [] (backTo pos (starEach args env)) []) Q)
    (he : eval (.Call (.Attribute o name apos) args [] pos) env = (do
      let ov ← eval o env
      standAt apos.atName
      let (f, first) ← holding [ov] (do pure (← getAttr ov name true, []))
      let cp ← (pure pos : Sem Pos)
      callWith cp f first (backTo pos (starEach args env)) []) := by rfl) : W w A h₀ env ρ σ (eval (.Call (.Attribute o name apos) args [] pos) env) Q := fun s ht F => by
  rw [he]
  exact wpAny_bind (W.step h ht F fun _ _ _ _ _ htk _ F' q => wpAny_bind (wpAny_standAt (wpAny_bind (wpAny_holding (wpAny_bind (W.step q htk F' fun _ _ _ _ _ htk _ F' q => wpAny_pure (wpAny_bind (wpAny_pure (q.at htk F')))))))))
theorem w_callSM (O : Ok w loose mean mg mb need A env h₀) {pos : Pos} {q g : Addr} {self : Value} {e : Expr} {rest : List Expr} {Q : Value → Rho → Led → Prop} (hf : fnIn (KB w.params) g = true)
    (h : W w A h₀ env ρ σ (spliced (backTo pos (starEach (e :: rest) env))) fun vs ρ₁ σ₁ => Kn h₀ σ₁ q (methodObj (.ref g) self) ∧ W w A h₀ env ρ₁ σ₁ (PySem.call (.ref q) vs) Q)
    (he : starEach (e :: rest) env = (false, eval e env) :: starEach rest env := by rfl) (hst : (backTo pos (starEach rest env)).any (·.1) = true := by rfl) :
    W w A h₀ env ρ σ (callWith pos (.ref q) [] (backTo pos (starEach (e :: rest) env)) []) Q := fun s ht F => by
  have h' : wpAny (model PP w) A (spliced (backTo pos (starEach (e :: rest) env))) (fun vs s₁ => MethP (KB w.params) q g self s₁.heap ∧ wpAny (model PP w) A (PySem.call (.ref q) vs) (Post h₀ env s Q) (fun _ _ => False) s₁) (fun _ _ => False) s :=
    W.step h ht F fun vs ρ' σ' h' tk htk _ F' p => ⟨⟨F'.kn p.1, O.x.keeps F'.keep⟩, p.2.at htk F'⟩
  rw [he] at h' ⊢
  exact ks_call (P := MethP (KB w.params) q g self) (by show (false || (backTo pos (starEach rest env)).any (·.1)) = true; rw [hst]; rfl) (keeps_M hf) (evalArgs_plain h')
theorem MutC.meth {k : Nat} {q : Addr} {g self : Value} {args : List Value} {σ₀ : Led} {P : Led → Value → Prop} (hq : h₀.get? q = some (methodObj g self)) (C : MutC w loose mean mg mb k g (self :: args) h₀ σ₀ P) : MutC w loose mean mg mb k (.ref q) args h₀ σ₀ P :=
  fun dp un gd fr s R i1 i2 i3 i4 i5 i6 => method_call (i1 _ _ hq) (C dp un gd fr s R i1 i2 i3 i4 i5 i6)
end
end Mine
end

section
open PySem PySem.W PyProof.Rows PySem.Calls
set_option maxRecDepth 100000
set_option maxHeartbeats 4000000
set_option linter.unusedVariables false
namespace Mine
section
variable {w : World} {A : Around} {h₀ h h' : Heap} {env : Env} {ρ : Rho} {σ : Led} {loose : List Str} {mean : ExcName → Option Value} {mg mb : Str → Option Value} {need : Nat}
/-- `range(n)` where no token may have been given yet -/
theorem eval_range0 (O : Ok w loose mean mg mb need A env h₀) {s : Shared} (F : FS h₀ env ρ σ s.heap) {n : Int} {k : Nat} {p1 p2 pos : Pos} {R : Value → Shared → Prop}
    (h : ∀ D o tk, 0 < tk → ROk o 0 n → FS h₀ env ρ ((D, o) :: σ) (s.heap.push o) → R (.ref D) { s with heap := s.heap.push o, toks := tk })
    (e : nsIn (KB w.params) mainGlobals "range" = some none) (hv : bootBuiltins "range" = some (.type "range"))
    (he : eval (.Call (.Name "range" p1) [.Constant (.int n) k p2] [] pos) env = (do callWith pos (← eval (.Name "range" p1) env) [] (backTo pos (starEach [.Constant (.int n) k p2] env)) (backToKw pos (keywordEach [] env))) := by rfl)
    (hx : env.kindOf "range" = some .globalImplicit := by rfl) : wpAny (model PP w) A (eval (.Call (.Name "range" p1) [.Constant (.int n) k p2] [] pos) env) R (fun _ _ => False) s :=
  Call_ (Name_function_global O.ek hx (loadGlobal_builtin (O.eg ▸ O.t.g.keeps F.keep) (mg_none_of O.x O.t.g e) (O.eb ▸ O.t.b.keeps F.keep) ((O.t.builtins "range" (by decide)).trans hv)
    (callWith_type1 (args_cons (wpAny_Constant_int (args_nil (call_range_1 (h _ _ _ (Nat.succ_pos _) ⟨_, _, _, rfl⟩ (F.push _ rfl)))))))) (by decide)) he
/-- the first statement: a list made over `range(n)` -/
theorem wf_first {elt target : Expr} {n : Int} {k : Nat} {p1 p2 ipos : Pos} {ifs : List Expr} {scope : Scope} {cl : List (Str × Addr)} {pos spos : Pos} {y : Str} {py : Pos} {rest : List Stmt} {Q : Heap → Flow → Rho → Led → Prop}
    (O : Ok w loose mean mg mb need A env h₀) {s : Shared} (F : FS h₀ env ρ σ s.heap) (hsw : swapsWith (.ListComp elt [⟨target, .Call (.Name "range" p1) [.Constant (.int n) k p2] [] ipos, ifs, 0⟩] scope pos) (some (.Name y py)) spos.line env = pure true)
    (hclos : closureFor scope env = pure cl)
    (hcl : ∀ x c, cl.lookup x = some c → env.cells.lookup x = some c) (hclk : ∀ x c, cl.lookup x = some c → (relabel scope env).names.lookup x ≠ some .local)
    (hcell : ∀ x ∈ scope.names, x.2 ≠ .cell) (hkind : scope.kind = .function) (hnames : ∀ x ∈ scope.names, x.2 = .local → scope.names.lookup x.1 = some .local)
    (hs : ∀ x, foldedSetIterable (.Call (.Name "range" p1) [.Constant (.int n) k p2] [] ipos) env x = pure x) (hgo : ∀ I v, letOwnedTupleGo target (.ref I) v = pure ())
    (hy : env.kindOf y = some .local) (hyc : env.cells.lookup y = none) (hk : env.scope.kind = .function)
    (e : nsIn (KB w.params) mainGlobals "range" = some none) (hv : bootBuiltins "range" = some (.type "range"))
    (he : eval (.Call (.Name "range" p1) [.Constant (.int n) k p2] [] ipos) env = (do callWith ipos (← eval (.Name "range" p1) env) [] (backTo ipos (starEach [.Constant (.int n) k p2] env)) (backToKw ipos (keywordEach [] env))))
    (hx : env.kindOf "range" = some .globalImplicit)
    (h : ∀ D o, ROk o 0 n → W w A h₀ env ρ ((D, o) :: σ) (pyIter (.ref D)) fun it ρ'' σ'' => CompAt w loose mean mg mb need A h₀ env scope cl target elt ifs (fun v ρ σ => WF w A h₀ env (upd ρ y v) σ (execs rest env) Q) it ρ'' σ'') :
    wpAny (model PP w) A (execs (.Assign [.Name y py] (.ListComp elt [⟨target, .Call (.Name "range" p1) [.Constant (.int n) k p2] [] ipos, ifs, 0⟩] scope pos) spos :: rest) env) (PostF A h₀ env s Q) (fun _ _ => False) s := by
  refine wpAny_execs_cons ?_
  rw [exec_Assign_Name_used _ _ _ _ hsw]
  refine wpAny_bind (wpAny_standAt (wpAny_bind ?_))
  show wpAny _ A (do let _ ← comprehension (.ListComp elt [⟨target, .Call (.Name "range" p1) [.Constant (.int n) k p2] [] ipos, ifs, 0⟩] scope pos) scope env _ (newList []) false (eval (.Call (.Name "range" p1) [.Constant (.int n) k p2] [] ipos) env) (some (PySem.assign (.Name y py) env))) _ _ s
  let PP2 : Shared → Prop := fun s' => ∃ ρ' σ' h' tk, s' = { s with heap := h', toks := tk } ∧ 0 < tk ∧ FS h₀ env ρ' σ' h' ∧ WF w A h₀ env ρ' σ' (execs rest env) Q
  refine wpAny_bind (wpAny_mono (wpAny_comprehension_free (use := some (PySem.assign (.Name y py) env)) (Q := fun _ s' => PP2 s') rfl hs hclos hkind hnames
    (eval_range0 O F (fun D o tk htk hr F' => W.step (s := { s with heap := s.heap.push o, toks := tk }) (h D o hr) htk F' fun it ρ₂ σ₂ h₂ tk₂ htk₂ _ F₂ T => ?_) e hv he hx)) (fun _ s' hq => wpAny_pure (wpAny_pure ?_)) fun _ _ e => e)
  · refine wpAny_mono (compStart_of (s := { s with heap := h₂, toks := tk₂ }) (RR := fun acc C => compPost (model PP w) A (fun _ _ => False) (some (PySem.assign (.Name y py) env)) (fun _ s' => PP2 s') acc C) O htk₂ F₂ T hcl hclk hcell hkind ?_ hgo) (fun cenv s' q => wpAny_mono q (fun _ _ q => q) fun _ _ x => x.elim) fun _ _ x => x.elim
    intro D C o oC h₅ tk₅ σ₃ hQ ht₅ F₅ ⟨m, hm⟩
    refine W.step (s := { s with heap := h₅, toks := tk₅ }) (Q₁ := fun _ ρ' σ' => ρ' = upd ρ₂ y (.ref D) ∧ σ' = (C, oC) :: (D, o) :: σ₃) (fun s' ht' F' => wpAny_assign_Name (W.store (A := A) (Q := fun _ ρ' σ' => ρ' = upd ρ₂ y (.ref D) ∧ σ' = (C, oC) :: (D, o) :: σ₃) ⟨rfl, rfl⟩ hy hyc hk s' ht' F')) ht₅ F₅ ?_
    rintro _ _ _ h₆ tk₆ ht₆ _ F₆ ⟨rfl, rfl⟩
    refine ⟨m, ?_, fun h₇ hs₇ => ?_⟩
    · obtain ⟨ob, es, ep, e1, e2⟩ := hm
      have e5 := F₅.get (.head _)
      rw [e5] at e1; cases e1
      exact ⟨oC, es, ep, F₆.get (.head _), e2⟩
    · exact ⟨_, _, h₇, tk₆, rfl, ht₆, F₆.gone hs₇.extBut, hQ⟩
  · obtain ⟨ρ', σ', h', tk, rfl, htk, F', q⟩ := hq
    exact q.at .refl htk F'
end
/-! the law's own frame -/
section
variable {h₀ h₁ : Heap} {name : Str} {scope : Scope} {L f : Addr} {cd : Value} {binds : List (Str × Value)} {cells news : List (Addr × Obj)}
theorem cells_at {cm : Str → Option Value} {cs : List (Str × Addr)} {cells : List (Addr × Obj)} (h : CellsAre cm cs cells) {x : Str} {c : Addr} (hm : (x, c) ∈ cs) : ∃ o, (c, o) ∈ cells ∧ o.data = .cell (cm x) := by
  induction h with
  | nil => cases hm
  | cons hd r ih =>
    cases hm with
    | head => exact ⟨_, .head _, hd⟩
    | tail _ hm =>
      obtain ⟨o, h1, h2⟩ := ih hm
      exact ⟨o, .tail _ h1, h2⟩
theorem cells_map {cm : Str → Option Value} {cs : List (Str × Addr)} {cells : List (Addr × Obj)} (h : CellsAre cm cs cells) : cells.map (·.1) = cs.map (·.2) := by
  induction h with
  | nil => rfl
  | cons _ _ ih => rw [List.map_cons, List.map_cons, ih]
theorem top_fs (F : Fr h₀ L h₁ (bindL (envOfC name scope L f cd).kindOf binds fun _ => none)) (N : News h₀ L h₁ (cells ++ news)) (Y : CellsAre (bindC (envOfC name scope L f cd).kindOf binds fun _ => none) (cellsFrom (L + 1) scope.names []) cells)
    (hnl : ((cellsFrom (L + 1) scope.names []).all fun p => scope.names.lookup p.1 == some .cell) = true) (hnd : ((cells ++ news).map (·.1)).Nodup) :
    FS h₀ (envOfC name scope L f cd) (fun y => binds.reverse.lookup y) news h₁ := by
  rw [List.map_append] at hnd
  obtain ⟨nd1, nd2, nd3⟩ := List.nodup_append.mp hnd
  have hcl : ∀ y c, (envOfC name scope L f cd).cells.lookup y = some c → (y, c) ∈ cellsFrom (L + 1) scope.names [] := fun y c hc => mem_of_lookup hc
  have cm : ∀ y c, (envOfC name scope L f cd).cells.lookup y = some c → ∃ o, (c, o) ∈ cells ∧ o.data = .cell (bindC (envOfC name scope L f cd).kindOf binds (fun _ => none) y) := fun y c hc => cells_at Y (hcl y c hc)
  refine ⟨F.keep, ⟨_, F.ns, fun y hy => (bindL_lookup _ _ _ _ hy).trans (by simp)⟩, fun y c hc => ?_, ?_, fun _ y c _ hc => ?_, fun y c hc => ?_, fun y z c hy hz => ?_, fun p hp => ⟨(N p (List.mem_append_right _ hp)).1, (N p (List.mem_append_right _ hp)).2.2, (N p (List.mem_append_right _ hp)).2.1, fun y c hc e => ?_⟩, nd2⟩
  · obtain ⟨o, h1, h2⟩ := cm y c hc
    have hk := List.all_eq_true.mp hnl _ (hcl y c hc)
    have e := bindC_lookup (envOfC name scope L f cd).kindOf binds (fun _ => none) y (by show scope.names.lookup y ≠ _; rw [beq_iff_eq.mp hk]; decide)
    have e' : (binds.reverse.lookup y).or none = binds.reverse.lookup y := by simp
    exact ⟨o, (N _ (List.mem_append_left _ h1)).1, by rw [h2, e, e']⟩
  · cases e : h₀.get? L with
    | none => exact e
    | some o => exact absurd (Heap.lt_size e) (Nat.not_lt.mpr F.above)
  · obtain ⟨o, h1, _⟩ := cm y c hc
    exact (N _ (List.mem_append_left _ h1)).2.2
  · obtain ⟨o, h1, _⟩ := cm y c hc
    exact (N _ (List.mem_append_left _ h1)).2.1
  · have nd4 : ((cellsFrom (L + 1) scope.names []).map (·.2)).Nodup := by rw [← cells_map Y]; exact nd1
    exact name_of_addr (List.pairwise_map.mp nd4) (hcl y c hy) (hcl z c hz)
  · obtain ⟨o, h1, _⟩ := cm y c hc
    exact nd3 _ (List.mem_map.mpr ⟨_, h1, rfl⟩) _ (List.mem_map.mpr ⟨_, hp, rfl⟩) e.symm
end
end Mine
end

section
open PySem PySem.W PyProof.Rows PySem.Calls PySem.Builtin PySem.Builtin.Str
set_option maxRecDepth 100000
set_option maxHeartbeats 4000000
set_option linter.unusedVariables false
namespace Mine
/-! texts as lists of signs, for the kernel -/
noncomputable abbrev mk (l : List Nat) : Str := ⟨l.toArray⟩
theorem pre_iff : ∀ (ys xs : List Nat), pre ys xs = (xs.take ys.length == ys)
  | [], xs => by simp [pre]
  | y :: ys, [] => by simp [pre]
  | y :: ys, x :: xs => by
    unfold pre
    rw [pre_iff ys xs]
    simp only [List.length_cons, List.take_succ_cons, List.cons_beq_cons]
    congr 1
    rw [Bool.eq_iff_iff, Nat.beq_eq, beq_iff_eq]
    exact eq_comm
theorem mk_len (l : List Nat) : (mk l).length = l.length := rfl
theorem subAt_mk (xs ys : List Nat) (i : Nat) : subAt (mk xs) (mk ys) i = ((xs.drop i).take ys.length == ys) := by
  unfold subAt
  rw [Bool.eq_iff_iff, beq_iff_eq, beq_iff_eq]
  constructor
  · intro h
    have := congrArg Array.toList h
    simpa [mk_len] using this
  · intro h
    apply Array.toList_inj.mp
    simpa [mk_len] using h
theorem occ_step (xs ys : List Nat) (hi limit : Nat) (hys : ys ≠ []) (hhi : hi = xs.length) : ∀ (suf : List Nat) (i c free : Nat) (st : Array Nat), xs.drop i = suf → st.size = c →
    (forIn (List.range' i (hi + 1 - i)) (st, free) (StrLaws.occBody (mk xs) (mk ys) hi limit)).run.fst.toList = st.toList ++ occS ys ys.length limit suf i c free := by
  intro suf
  induction suf with
  | nil =>
    intro i c free st hd hc
    have hle : xs.length ≤ i := by
      have := congrArg List.length hd
      rw [List.length_drop] at this
      simp at this
      lia
    have no : ∀ (l : List Nat) (st : Array Nat), (∀ j ∈ l, xs.length ≤ j) → (forIn l (st, free) (StrLaws.occBody (mk xs) (mk ys) hi limit)).run.fst.toList = st.toList := by
      intro l
      induction l with
      | nil => intro st _; rfl
      | cons j l ih =>
        intro st hj
        rw [List.forIn_cons]
        unfold StrLaws.occBody
        rw [if_neg]
        · exact ih st fun k hk => hj k (.tail _ hk)
        · rintro ⟨⟨_, h2⟩, _⟩
          have h3 := hj j (.head _)
          have : 0 < ys.length := List.length_pos_iff.mpr hys
          rw [mk_len] at h2
          lia
    rw [no _ _ fun j hj => by have := List.mem_range'_1.mp hj; lia]
    simp [occS]
  | cons x suf ih =>
    intro i c free st hd hc
    have hlt : i < xs.length := by
      rcases Nat.lt_or_ge i xs.length with h | h
      · exact h
      · rw [List.drop_eq_nil_of_le h] at hd; cases hd
    have hd' : xs.drop (i + 1) = suf := by
      have := List.drop_eq_getElem_cons hlt
      rw [hd] at this
      injection this with _ h2
      exact h2.symm
    have e : hi + 1 - i = (hi + 1 - (i + 1)) + 1 := by lia
    rw [e, List.range'_succ, List.forIn_cons]
    unfold StrLaws.occBody occS
    rw [subAt_mk, hd, ← pre_iff]
    by_cases hp : pre ys (x :: suf) = true
    · have hl : i + ys.length ≤ hi := by
        rw [pre_iff, beq_iff_eq] at hp
        have := congrArg List.length hp
        rw [List.length_take, ← hd, List.length_drop] at this
        lia
      by_cases hcond : c < limit ∧ free ≤ i
      · rw [if_pos ⟨⟨⟨by rw [hc]; exact hcond.1, hcond.2⟩, hl⟩, hp⟩]
        have hb : (Nat.blt c limit && Nat.ble free i && pre ys (x :: suf)) = true := by
          rw [hp, Bool.and_true, Bool.and_eq_true]
          exact ⟨(Nat.ble_eq.mpr hcond.1 : Nat.ble (c + 1) limit = true), Nat.ble_eq.mpr hcond.2⟩
        rw [if_pos hb]
        have := ih (i + 1) (c + 1) (i + ys.length) (st.push i) hd' (by simp [hc])
        unfold StrLaws.occBody at this
        refine Eq.trans this ?_
        simp
      · rw [if_neg fun h => hcond ⟨by rw [← hc]; exact h.1.1.1, h.1.1.2⟩]
        have hb : ¬ (Nat.blt c limit && Nat.ble free i && pre ys (x :: suf)) = true := by
          rw [hp, Bool.and_true, Bool.and_eq_true]
          rintro ⟨h1, h2⟩
          exact hcond ⟨Nat.ble_eq.mp (h1 : Nat.ble (c + 1) limit = true), Nat.ble_eq.mp h2⟩
        rw [if_neg hb]
        have := ih (i + 1) c free st hd' hc
        unfold StrLaws.occBody at this
        exact this
    · rw [if_neg fun h => hp h.2]
      have hb : ¬ (Nat.blt c limit && Nat.ble free i && pre ys (x :: suf)) = true := by
        rw [Bool.and_eq_true]
        exact fun h => hp h.2
      rw [if_neg hb]
      have := ih (i + 1) c free st hd' hc
      unfold StrLaws.occBody at this
      exact this
theorem occ_mk (xs ys : List Nat) (lo limit : Nat) (hys : ys ≠ []) : occurrences (mk xs) (mk ys) lo (mk xs).length limit = occS ys ys.length limit (xs.drop lo) lo 0 lo := by
  rw [StrLaws.occ_eq, mk_len, occ_step xs ys xs.length limit hys rfl (xs.drop lo) lo 0 lo #[] rfl rfl]
  rfl
theorem sub_mk (xs : List Nat) (i j : Nat) : strSub (mk xs) i j = mk ((xs.drop i).take (j - i)) := by
  unfold strSub
  congr 1
  apply Array.toList_inj.mp
  simp
theorem app_mk (a b : List Nat) : mk a ++ mk b = mk (a ++ b) := by
  show (⟨a.toArray ++ b.toArray⟩ : Str) = _
  simp
theorem parts_mk (xs cuts : List Nat) (n : Nat) : partsBetween (mk xs) cuts n = (partsL xs cuts n).map mk := by
  unfold partsBetween partsL
  rw [List.map_map, mk_len]
  refine List.map_congr_left fun p _ => ?_
  exact sub_mk xs p.1 p.2
theorem glued_mk (g : List Nat) (ps : List (List Nat)) : glued (mk g) (ps.map mk) = mk (gluedL g ps) := by
  have h : ∀ (l : List (List Nat)) (acc : List Nat), (l.map mk).foldl (fun (acc : Array Nat) p => acc ++ (mk g).cps ++ p.cps) acc.toArray = (l.foldl (fun acc p => acc ++ g ++ p) acc).toArray := by
    intro l
    induction l with
    | nil => intro acc; rfl
    | cons p l ih =>
      intro acc
      rw [List.map_cons, List.foldl_cons, List.foldl_cons, ← ih]
      congr 1
      simp
  unfold glued gluedL
  cases ps with
  | nil => rfl
  | cons p l => simpa using h l p
theorem repl_mk (xs ys zs : List Nat) (hys : ys ≠ []) : Txt.replace (mk xs) (mk ys) (mk zs) = mk (replL xs ys zs) := by
  unfold Txt.replace replL
  rw [occ_mk xs ys 0 _ hys, List.drop_zero, mk_len]
  have hn : ((mk ys).length == 0) = false := by
    rw [mk_len, beq_eq_false_iff_ne]
    exact fun e => hys (List.length_eq_zero_iff.mp e)
  rw [hn]
  cases h : occS ys ys.length (xs.length + 1) xs 0 0 0 with
  | nil => simp
  | cons i r =>
    simp only [List.isEmpty_cons, Bool.false_and, Bool.or_false, Bool.false_eq_true, if_false]
    rw [parts_mk, glued_mk]
    rfl
theorem split_mk (xs : List Nat) (c : Nat) (hc : c < 256) : Txt.split (mk xs) (mk [c]) = (splitL xs c).map mk := by
  have k1 : Str.strKind (mk [c]) = 1 := by
    unfold Str.strKind
    rw [if_pos]
    simp [hc]
  have k2 : ¬ Str.strKind (mk xs) < Str.strKind (mk [c]) := by
    rw [k1]
    unfold Str.strKind
    split
    · lia
    · split <;> decide
  unfold Txt.split splitL
  rw [occ_mk xs [c] 0 _ (by simp), List.drop_zero, mk_len]
  cases h : occS [c] [c].length (xs.length + 1) xs 0 0 0 with
  | nil =>
    split <;> simp
  | cons i r =>
    rw [if_neg, if_neg (by simp)]
    · exact parts_mk xs (i :: r) 1
    · rw [Bool.or_eq_true, decide_eq_true_eq, decide_eq_true_eq, not_or]
      refine ⟨fun hl => ?_, k2⟩
      have hx : xs = [] := List.length_eq_zero_iff.mp (by
        have : xs.length < 1 := hl
        lia)
      subst hx
      simp [occS] at h
theorem part_mk (xs : List Nat) (c : Nat) : Txt.partition (mk xs) (mk [c]) = (mk (partL xs c).1, if (partL xs c).2.1 then mk [c] else Str.empty, mk (partL xs c).2.2) := by
  unfold Txt.partition partL
  rw [occ_mk xs [c] 0 _ (by simp), List.drop_zero]
  cases h : occS [c] [c].length 1 xs 0 0 0 with
  | nil =>
    rfl
  | cons i r =>
    dsimp only
    rw [sub_mk, sub_mk, if_pos rfl, mk_len, mk_len]
    simp [List.take_of_length_le]
theorem find_mk (xs ys : List Nat) (i : Nat) (hys : ys ≠ []) : Txt.find3 (mk xs) (mk ys) i = match findL xs ys i with | some k => (k : Int) | none => -1 := by
  unfold Txt.find3 findL
  have e : fromIndex (mk xs).length (i : Int) = i := by
    unfold fromIndex
    rw [if_neg (by lia)]
    simp
  rw [e, occ_mk xs ys i 1 hys]
  cases occS ys ys.length 1 (xs.drop i) i 0 i <;> rfl
theorem starts_mk (xs ys : List Nat) : Txt.startswith (mk xs) (mk ys) = pre ys xs := by
  unfold Txt.startswith
  rw [subAt_mk, pre_iff, mk_len, mk_len, List.drop_zero]
  by_cases h : ys.length ≤ xs.length
  · simp [h]
  · have : ¬ (xs.take ys.length == ys) = true := by
      rw [beq_iff_eq]
      intro e
      have := congrArg List.length e
      rw [List.length_take] at this
      lia
    simp only [Bool.not_eq_true] at this
    rw [this]; simp
theorem ends_mk (xs ys : List Nat) : Txt.endswith (mk xs) (mk ys) = endsL xs ys := by
  unfold Txt.endswith endsL
  rw [subAt_mk, pre_iff, mk_len, mk_len]
  congr 1
  rw [Bool.eq_iff_iff, decide_eq_true_eq, Nat.ble_eq]
  lia
theorem cont_mk (xs ys : List Nat) (hys : ys ≠ []) : Txt.contains (mk xs) (mk ys) = (findL xs ys 0).isSome := by
  unfold Txt.contains findL
  rw [occ_mk xs ys 0 1 hys]
  cases occS ys ys.length 1 (xs.drop 0) 0 0 0 <;> rfl
end Mine
end

section
open PySem PySem.W PyProof.Rows PySem.Calls PySem.Spec
set_option maxRecDepth 100000
set_option maxHeartbeats 4000000
set_option linter.unusedVariables false
namespace Mine
/-! sorted(list of texts) -/
noncomputable abbrev leS (a b : Str) : Prop := a.cps.toList ≤ b.cps.toList
theorem leS_of {a b : Str} (h : ltCps b.cps.toList a.cps.toList = false) : leS a b := by
  rw [ltCps_eq, decide_eq_false_iff_not] at h
  exact h
theorem rising_le : ∀ (p : Str) (l : List Str), risingS p l = true → (∀ x ∈ l, leS p x) ∧ l.Pairwise leS
  | p, [], _ => ⟨fun _ h => (nomatch h), .nil⟩
  | p, x :: r, h => by
    unfold risingS at h
    rw [Bool.and_eq_true, Bool.not_eq_true'] at h
    have h1 := leS_of h.1
    obtain ⟨h2, h3⟩ := rising_le x r h.2
    refine ⟨fun y hy => ?_, .cons h2 h3⟩
    rcases List.mem_cons.mp hy with rfl | hy
    · exact h1
    · exact List.le_trans h1 (h2 y hy)
theorem sorted_le : ∀ {l : List Str}, sortedS l = true → l.Pairwise leS
  | [], _ => .nil
  | x :: r, h => let ⟨a, b⟩ := rising_le x r h; .cons a b
theorem sorted_uniq {l l' : List Str} (h : sortedS l = true) (h' : sortedS l' = true) (p : l.Perm l') : l = l' :=
  List.Perm.eq_of_pairwise (le := leS) (fun a b _ _ h1 h2 => by
    have : a.cps.toList = b.cps.toList := List.le_antisymm h1 h2
    obtain ⟨a⟩ := a
    obtain ⟨b⟩ := b
    congr 1
    exact Array.toList_inj.mp this) (sorted_le h) (sorted_le h') p
theorem strsAre_of {ss : List Str} {vs : List Value} (h : Al IsS ss vs) : StrsAre vs ss := by
  induction h with
  | nil => exact .nil
  | cons a _ ih => obtain ⟨t, rfl⟩ := a; exact .cons _ t ih
theorem of_strsAre {ss : List Str} {vs : List Value} (h : StrsAre vs ss) : Al IsS ss vs := by
  induction h with
  | nil => exact .nil
  | cons _ t _ ih => exact .cons ⟨t, rfl⟩ ih
section
variable {w : World} {A : Around} {h₀ h h' : Heap} {env : Env} {ρ : Rho} {σ : Led}
theorem w_sorted {a : Addr} {o : Obj} {ss : List Str} {Q : Value → Rho → Led → Prop} (hk : Kn h₀ σ a o) (hl : SL o ss) (hz : ss.length < 64) (h : ∀ D o' ss', SL o' ss' → ss'.Perm ss → sortedS ss' = true → Q (.ref D) ρ ((D, o') :: σ)) :
    W w A h₀ env ρ σ (PySem.call (.builtin "sorted") [.ref a]) Q := fun s ht F => by
  obtain ⟨vs, hv, hal⟩ := hl.al
  refine sorted_strs (hv.isList (F.kn hk)) (strsAre_of hal) (by rw [hal.len]; exact hz) fun out ss' a1 a2 a3 => ?_
  obtain ⟨e, he⟩ := sortedAll_at s.heap vs out
  have F' : FS h₀ env ρ σ (sortedAll s.heap vs out) := F.stays fun _ _ => sortedAll_old
  refine ⟨ρ, _, _, s.toks, rfl, F.adopt F' he ?_, h _ _ ss' ?_ a2 a3⟩
  · cases e : s.heap.get? (s.heap.objs.size + 1) with
    | none => rfl
    | some o => exact absurd (Heap.lt_size e) (Nat.not_lt.mpr (Nat.le_succ _))
  · exact SL.of (vs := out.toList) ⟨e, rfl⟩ (of_strsAre a1)
end
end Mine
end

section
open PySem PySem.W PyProof.Rows PySem.Calls PySem.Builtin PySem.Builtin.Str
set_option maxRecDepth 100000
set_option maxHeartbeats 4000000
set_option linter.unusedVariables false
set_option compiler.extract_closed false
namespace Mine
local macro_rules | `(tactic| walk_at "look") => `(tactic| (with_reducible first | assumption | exact look_here | (refine' look_there ?lk1 ?lk2; (case lk1 => decide +kernel); (case lk2 => walk_at "look"))))
local macro_rules | `(tactic| walk_at "w") => `(tactic| (with_reducible first
  | ((fail_if_success (fail_if_success (refine g_w ?_))); first
  | ((fail_if_success (fail_if_success (refine g_eval ?_))); first
    | ((fail_if_success (fail_if_success (refine g_name ?_))); first
    | refine W.local (by walk_at "look") ?_
    | refine W.cellM (by walk_at "look") ?_
    | refine W.boot (by assumption) (by k_is) (by boot_by_name) ?_ (by decide)
    | refine W.glob (by assumption) (by k_is) ?_)
    | (refine W.cInt ?_; intro _ _)
    | ((fail_if_success (fail_if_success (refine g_call ?_))); first
    | refine W.replace (by decide) (by decide) ?_
    | refine W.method ?_
    | refine W.call ?_)
    | ((fail_if_success (fail_if_success (refine g_attr ?_))); refine W.attr ?_)
    | refine W.sub1 ?_
    | (refine W.cStr ?_; intro _ _)
    | ((fail_if_success (fail_if_success (refine g_cmp ?_))); refine W.cmp1 ?_)
    | refine w_fstr ?_
    | refine w_fval ?_
    | refine w_list ?_
    | refine w_tuple ?_
    | refine W.cNone ?_
    | refine W.cBool ?_
    | refine W.binop ?_
    | refine W.and1 ?_
    | refine W.and ?_
    | refine W.or ?_
    | refine W.unary ?_
    | refine W.ifExp ?_
    | refine w_slice ?_
    | refine W.named ?_
    | refine w_dict0 (by assumption) ?_
    | refine w_dict1 (by assumption) ?_)
  | ((fail_if_success (fail_if_success (refine g_spliced ?_))); first
    | refine W.argsE ?_
    | refine W.args0 ?_
    | refine W.args ?_)
  | ((fail_if_success (fail_if_success (refine g_callWith ?_))); first
    | refine W.callB ?_
    | refine W.callT ?_
    | refine W.callM1 ?_
    | refine W.callM0 ?_
    | refine W.callD (by assumption) (by k_is) ?_
    | refine w_callK0 (by assumption) (by k_is) ?_
    | refine w_callK (by assumption) (by k_is) ?_)
  | ((fail_if_success (fail_if_success (refine g_exec ?_))); first
    | ((fail_if_success (fail_if_success (refine g_assign ?_))); first
    | refine W.assignL ?_
    | refine W.assign ?_
    | refine w_assignAttr ?_
    | refine w_assignSub ?_
    | refine w_assignT ?_
    | refine w_assign2t ?_)
    | refine W.aug ?_
    | refine w_augAttr ?_
    | refine W.ifs ?_
    | refine W.ret ?_
    | refine W.brk ?_
    | refine W.cont ?_
    | refine w_delSub ?_
    | refine W.assert ?_
    | refine W.for ?_ (by intro _; with_unfolding_all rfl) (by intro _ _; with_unfolding_all rfl)
    | refine w_expr ?_)
  | ((fail_if_success (fail_if_success (refine g_execs ?_))); first
    | (refine W.consH (by assumption) ?_; intro _ _ _)
    | (refine W.hideB ?_; intro _ _ _)
    | refine W.execs_nil ?_)
  | ((fail_if_success (fail_if_success (refine g_store ?_))); first
    | refine W.store ?_
    | refine W.storeM ?_)
  | ((fail_if_success (fail_if_success (refine g_isTrue ?_))); first
    | refine W.test1 ?_
    | refine W.testNot ?_
    | refine W.testAnd ?_
    | refine W.testAnd0 ?_
    | refine W.testOr ?_
    | refine W.testOr0 ?_
    | refine W.test ?_)
  | ((fail_if_success (fail_if_success (refine g_loadName ?_))); refine W.localN (by walk_at "look") ?_)
  | ((fail_if_success (fail_if_success (refine g_inOrder ?_))); first
    | refine w_inOrder ?_
    | refine w_inOrder0 ?_
    | refine w_inOrderE ?_
    | refine w_inOrderE0 ?_)
  | refine w_isNone ?_
  | refine w_isNotNone ?_
  | refine w_tests0 ?_
  | refine w_tests1 ?_
  | refine w_bind ?_
  | refine w_part0 ?_
  | refine w_part1 ?_
  | refine w_asSub ?_
  | refine w_range1 ?_
  | refine w_range2 ?_
  | (refine W.addI ?_; intro _)
  | (refine W.subI ?_; intro _)
  | (refine W.negI ?_; intro _)
  | (refine W.iaddI ?_; intro _)
  | (refine W.isubI ?_; intro _)
  | refine W.ltI ?_
  | refine W.geI ?_
  | refine W.eqI ?_
  | refine W.neI ?_
  | refine W.eqS ?_
  | refine W.starts ?_
  | refine W.ends ?_
  | (refine W.find3 ?_; intro _)
  | refine w_gm_startswith ?_
  | refine w_gm_endswith ?_
  | refine w_gm_find ?_
  | refine w_gm_split ?_
  | refine w_gm_partition ?_
  | refine w_gm_join ?_
  | refine W.assignName ?_
  | refine W.notInS ?_)
  | refine HidC.next (by assumption) ?_
  | refine HidB.out (by assumption) ?_
  | refine HidC.ret (by assumption) ?_
  | refine HidC.brk (by assumption) ?_
  | refine wj_cons ?_
  | refine wj_nil ?_
  | refine W.trB ?_))
local macro_rules | `(tactic| walk_at "mem") => `(tactic| (first | exact List.Mem.head _ | exact List.Mem.tail _ (List.Mem.head _) | exact List.Mem.tail _ (List.Mem.tail _ (List.Mem.head _)) | exact List.Mem.tail _ (List.Mem.tail _ (List.Mem.tail _ (List.Mem.head _))) | exact List.Mem.tail _ (List.Mem.tail _ (List.Mem.tail _ (List.Mem.tail _ (List.Mem.head _)))) | exact List.Mem.tail _ (List.Mem.tail _ (List.Mem.tail _ (List.Mem.tail _ (List.Mem.tail _ (List.Mem.head _)))))  | exact List.Mem.tail _ (List.Mem.tail _ (List.Mem.tail _ (List.Mem.tail _ (List.Mem.tail _ (List.Mem.tail _ (List.Mem.head _)))))) ))
local macro_rules | `(tactic| walk_at "ws") => `(tactic| repeat' (walk_at "w"; try dsimp only [FlI, FlN, FlX, FlW]))
local macro_rules | `(tactic| walk_at "un") => `(tactic| repeat' (with_reducible first | refine HidC.next (by assumption) ?_ | refine HidC.ret (by assumption) ?_ | refine HidC.brk (by assumption) ?_ | refine HidB.out (by assumption) ?_ | dsimp only [FlI, FlN, FlX, FlW]))
section
noncomputable def takesLoop (n : Str) : List Str → Int → Option Int
  | [], a => some a
  | p :: ps, a => if Txt.find3 n p a < 0 then none else takesLoop n ps (Txt.find3 n p a + p.length)
noncomputable def takesText (b : Str) : Str := Txt.replace (Txt.replace (Txt.replace b "(?>.*?" "<") ")" "") ".*" ">"
noncomputable def takesF (b n : Str) : Bool :=
  match Txt.split (Txt.partition (takesText b) ">").1 "<" with
  | [] => false
  | p0 :: ps => if Txt.startswith n p0 then
      match takesLoop n ps p0.length with
      | none => false
      | some k => if (Txt.partition (takesText b) ">").2.1 == ("" : Str) then k == n.length else Txt.endswith n (Txt.partition (takesText b) ">").2.2 && decide (k ≤ (n.length : Int) - (Txt.partition (takesText b) ">").2.2.length)
    else false
theorem strSub_le (x : Str) (i j : Nat) : (strSub x i j).length ≤ x.length := strSub_length_le x i j
theorem part_le (x y : Str) : (Txt.partition x y).1.length ≤ x.length ∧ (Txt.partition x y).2.2.length ≤ x.length := by
  unfold Txt.partition
  cases occurrences x y 0 x.length 1 with
  | nil => exact ⟨Nat.le_refl _, Nat.zero_le _⟩
  | cons i r => exact ⟨strSub_le .., strSub_le ..⟩
theorem split_mem_le (x y : Str) : ∀ p ∈ Txt.split x y, p.length ≤ x.length := by
  intro p hp
  unfold Txt.split at hp
  split at hp
  · rw [List.mem_singleton.mp hp]; exact Nat.le_refl _
  · split at hp
    · rw [List.mem_singleton.mp hp]; exact Nat.le_refl _
    · simp only [partsBetween, List.mem_map] at hp
      obtain ⟨⟨i, j⟩, _, rfl⟩ := hp
      exact strSub_le ..
theorem split_len_le (x y : Str) : (Txt.split x y).length ≤ x.length + 2 := by
  unfold Txt.split
  split
  · simp
  · split
    · simp
    · exact parts_le x y
theorem split_ne (x y : Str) : ∃ p ps, Txt.split x y = p :: ps := by
  have h : (Txt.split x y).length ≠ 0 := by
    unfold Txt.split
    split
    · simp
    · split
      · simp
      · rw [length_partsBetween]; lia
  match h' : Txt.split x y with
  | [] => rw [h'] at h; exact absurd rfl h
  | p :: ps => exact ⟨p, ps, rfl⟩

inductive TI1 (D3 : Addr) (o3 : Obj) (n mark tail p0 : Str) (tn u2 u3 : Tok) (ps : List (Str × Tok)) (i : Nat) (ρ : Rho) (σ : Led) : Prop
  | mk (y1 : (D3, o3) ∈ σ) (y2 : (∃ k t, ρ "at" = some (.int k t) ∧ takesLoop n (ps.map (·.1)) p0.length = takesLoop n ((ps.drop i).map (·.1)) k)) (y3 : ρ "name" = some (.str n tn)) (y4 : ρ "mark" = some (.str mark u2)) (y5 : ρ "tail" = some (.str tail u3)) : TI1 D3 o3 n mark tail p0 tn u2 u3 ps i ρ σ
theorem takes_spec {w : World} {loose : List Str} {mean : ExcName → Option Value} {mg mb : Str → Option Value} {b n : Str} {tb tn : Tok} {h₀ : Heap} (hb : b.length ≤ 100) (hn : n.length ≤ 100) :
   PureC w loose mean mg mb 1 (.ref 305) [.str b tb, .str n tn] h₀ (fun _ v => v = .bool (takesF b n)) := by
  refine enterP (k := 0) (binds := [("body", .str b tb), ("name", .str n tn)]) (by k_is) (by k_is) (fun s _ => BindsTo.of_eq rfl) rfl ?_
  intro A L ρ O B
  have b1 := B "body" _ rfl
  have b2 := B "name" _ rfl
  clear B
  have hh := O.hh
  have l1 := replace_le b "(?>.*?" "<"
  have l2 := replace_le (Txt.replace b "(?>.*?" "<") ")" ""
  have l3 := replace_le (Txt.replace (Txt.replace b "(?>.*?" "<") ")" "") ".*" ">"
  rw [show (("<" : Str)).length = 1 from rfl] at l1
  rw [show (("" : Str)).length = 0 from rfl] at l2
  rw [show ((">" : Str)).length = 1 from rfl] at l3
  have e0 : takesF b n = takesF b n := rfl
  conv at e0 => rhs; unfold takesF
  have l4 : (takesText b).length ≤ 1000 := by unfold takesText; lia
  have e1 : takesText b = Txt.replace (Txt.replace (Txt.replace b "(?>.*?" "<") ")" "") ".*" ">" := rfl
  repeat' (walk_at "w"; try dsimp only)
  refine ⟨b, tb, rfl, by exact Nat.le_trans (by assumption) (by decide), fun t1 => ⟨_, t1, rfl, by lia, fun t2 => ⟨_, t2, rfl, by lia, fun t3 => ?_⟩⟩⟩
  rw [← e1]
  clear l1 l2 l3 e1
  have l5 := part_le (takesText b) ">"
  generalize takesText b = T at *
  repeat' (walk_at "w"; try dsimp only)
  with_reducible refine w_partition (by decide) (by exact Nat.le_trans (by assumption) (by decide)) fun D o u1 u2 u3 hT => ?_
  repeat' (walk_at "w"; try dsimp only)
  refine w_unpackT hh (.inl (.head _)) hT ?_
  repeat' (walk_at "w"; try dsimp only)
  generalize Txt.partition T ">" = X at *
  obtain ⟨front, mark, tail⟩ := X
  dsimp only at *
  repeat' (walk_at "w"; try dsimp only)
  with_reducible refine w_split (by decide) (by lia) fun D2 o2 l2 hL e2 => ?_
  have l6 := split_mem_le front "<"
  have l7 := split_len_le front "<"
  rw [← e2] at l6 l7 e0
  rw [List.length_map] at l7
  obtain ⟨p0, ps, e3⟩ : ∃ p0 ps, l2 = p0 :: ps := by
    obtain ⟨p, q, e⟩ := split_ne front "<"
    rw [e] at e2
    cases l2 with
    | nil => cases e2
    | cons a r => exact ⟨a, r, rfl⟩
  subst e3
  clear e2
  rw [List.map_cons] at e0
  dsimp only at e0
  obtain ⟨p0, tp0⟩ := p0
  have l8 : p0.length ≤ 1000 := by have := l6 p0 (by simp); lia
  repeat' (walk_at "w"; try dsimp only)
  refine w_item (.inl (by walk_at "mem")) hL (i := 0) rfl rfl (by decide) ?_
  walk_at "ws"
  cases hst : Txt.startswith n p0 with
  | false =>
    refine ite_t rfl ?_
    walk_at "ws"
    refine ⟨_, List.nil_sublist _, ?_⟩
    rw [e0]
    simp [hst, retOf]
  | true =>
    refine ite_f (by decide) ?_
    walk_at "ws"
    refine w_item (.inl (by walk_at "mem")) hL (i := 0) rfl rfl (by decide) ?_
    walk_at "ws"
    with_reducible refine W.lenS (by exact Nat.lt_of_le_of_lt (by assumption) (by decide)) fun t9 => ?_
    walk_at "ws"
    intro I3 oi3 hs3
    refine w_subFrom 1 hs3 rfl (by simp [strValues]) (.inl (by walk_at "mem")) hL (by rw [strValues_len]; lia) fun D3 o3 hL3 => ?_
    walk_at "ws"
    have hL3 : LObj o3 (strValues ps) := hL3
    rw [hst, if_pos rfl] at e0
    refine w_forList hh (.inl (.head _)) hL3 (List.Sublist.refl _) (TI1 D3 o3 n mark tail p0 tn u2 u3 ps) ?_ ?_ ?_ ?_
    · exact ⟨.head _, ⟨_, _, by walk_at "look", rfl⟩, by walk_at "look", by walk_at "look", by walk_at "look"⟩
    · exact fun i ρ σ h => .inl h.1
    · rintro i v I oi ρ σ hi hv ⟨hm, ⟨k, t, c1, c2⟩, c3, c4, c5⟩
      obtain ⟨⟨p, tp⟩, hp, rfl⟩ := strValues_get hv
      have hpl : p.length ≤ 1000 := by
        have := l6 p (by
          rw [List.map_cons]
          exact .tail _ (List.mem_map.mpr ⟨(p, tp), List.mem_of_getElem? hp, rfl⟩))
        lia
      have hd : ps.drop i = (p, tp) :: ps.drop (i + 1) := by
        obtain ⟨hlt, he⟩ := List.getElem?_eq_some_iff.mp hp
        rw [List.drop_eq_getElem_cons hlt, he]
      rw [hd, List.map_cons] at c2
      walk_at "ws"
      by_cases hneg : Txt.find3 n p k < 0
      · refine ite_t (by simpa using hneg) ?_
        walk_at "ws"
        refine ⟨_, List.nil_sublist _, ?_⟩
        rw [e0, c2]
        simp [takesLoop, hneg, retOf]
      · refine ite_f (by simpa using hneg) ?_
        walk_at "ws"
        with_reducible refine W.lenS (by lia) fun t10 => ?_
        walk_at "ws"
        refine ⟨σ, List.Sublist.refl _, hm, ⟨_, _, by walk_at "look", ?_⟩, by walk_at "look", by walk_at "look", by walk_at "look"⟩
        rw [c2]
        simp [takesLoop, hneg]
    · rintro ρ σ ⟨hm, ⟨k, t, c1, c2⟩, c3, c4, c5⟩
      rw [strValues_len, List.drop_length] at c2
      rw [c2] at e0
      have e0 : takesF b n = if (mark == Str.ofString "") = true then k == ↑n.length else Txt.endswith n tail && decide (k ≤ ↑n.length - ↑tail.length) := e0
      walk_at "ws"
      cases hm2 : mark == Str.ofString "" with
      | true =>
        rw [hm2, if_pos rfl] at e0
        refine ite_t rfl ?_
        walk_at "ws"
        with_reducible refine W.lenS (by exact Nat.lt_of_le_of_lt (by assumption) (by decide)) fun t11 => ?_
        walk_at "ws"
        exact ⟨_, List.nil_sublist _, by rw [e0]; rfl⟩
      | false =>
        rw [hm2, if_neg (by decide)] at e0
        refine ite_f (by decide) ?_
        walk_at "ws"
        cases hen : Txt.endswith n tail with
        | false =>
          rw [hen] at e0
          refine ite_f (by decide) ?_
          walk_at "ws"
          exact ⟨_, List.nil_sublist _, by rw [e0]; rfl⟩
        | true =>
          rw [hen] at e0
          refine ite_t rfl ?_
          walk_at "ws"
          with_reducible refine W.lenS (by lia) fun t12 => ?_
          walk_at "ws"
          with_reducible refine W.lenS (by lia) fun t13 => ?_
          walk_at "ws"
          exact ⟨_, List.nil_sublist _, by rw [e0]; simp [retOf]⟩
end
section
theorem none_left (p : Str → Bool) (ss : List Str) : (ss.filter (fun x => !p x) == []) = ss.all p := by
  rw [Bool.eq_iff_iff]
  simp [List.filter_eq_nil_iff, List.all_eq_true]
theorem all_spec {w : World} {loose : List Str} {mean : ExcName → Option Value} {mg mb : Str → Option Value} {b : Str} {tb : Tok} {a : Addr} {o : Obj} {ss : List Str} {h₀ : Heap} (hb : b.length ≤ 100) (ha : h₀.get? a = some o) (hs : SL o ss) (hn : ∀ x ∈ ss, x.length ≤ 100) (hz : ss.length ≤ 1000) :
   PureC w loose mean mg mb 2 (.ref 310) [.str b tb, .ref a] h₀ (fun _ v => v = .bool (ss.all (takesF b))) := by
  refine enterC (k := 1) (binds := [("body", .str b tb), ("ways", .ref a)]) (by k_is) (by k_is) rfl rfl rfl ?_
  intro A L ρ O B
  have b1 := B "body" _ rfl
  have b2 := B "ways" _ rfl
  clear B
  have hh := O.hh
  obtain ⟨vs, hv, hal⟩ := hs.al
  repeat' (walk_at "w"; try dsimp only)
  refine w_listComp O (by with_unfolding_all rfl) (fun _ _ h => h) (clk_of (by with_unfolding_all rfl)) (by decide) (by with_unfolding_all rfl) (by decide) (by intro _; with_unfolding_all rfl) (by intro _ _; with_unfolding_all rfl) ?_
  walk_at "ws"
  refine w_compL (p := fun x => !takesF b x) (V := IsS) hh (.inr ha) hv hal (by exact Nat.le_trans (by assumption) (by decide)) ?_ ?_
  · rintro h₁ C ρc x v hs O' hc hx ⟨t, rfl⟩
    have c1 := hc "body" _ _ rfl b1
    walk_at "ws"
    refine W.pureC O' (fun h _ => takes_spec hb (hn x hx)) (Nat.le_refl _) ?_
    rintro _ tl rfl
    walk_at "ws"
    refine ⟨rfl, fun _ => ?_⟩
    walk_at "ws"
    exact ⟨_, rfl⟩
  · intro D o' rs hl hr
    walk_at "ws"
    refine ⟨by decide, fun D2 o2 hl2 => ?_⟩
    refine w_eqSL O (.inl (.tail _ (.head _))) (.inl (.head _)) (SL.of hl hr) (SL.nil hl2) ?_
    walk_at "ws"
    refine ⟨_, List.nil_sublist _, ?_⟩
    rw [none_left]; rfl
end
section
noncomputable def patStep (ags : List Str) (k : Nat) (acc : Str) : Str :=
  if (ags.getD k ⟨#[]⟩).length = 1 then (if (ags.getD (k - 1) ⟨#[]⟩).length = 2 then acc ++ ags.getD k ⟨#[]⟩ else acc ++ (("*" : Str) ++ ags.getD k ⟨#[]⟩)) else acc
noncomputable def patLoop (ags : List Str) : Nat → Nat → Str → Str
  | 0, _, acc => acc
  | n + 1, k, acc => patLoop ags n (k + 1) (patStep ags k acc)
noncomputable def patF (ags : List Str) : Str := patLoop ags (ags.length - 1) 1 (ags.getD 0 ⟨#[]⟩)
inductive AI1 (a : Addr) (ss : List Str) (i : Nat) (ρ : Rho) (σ : Led) : Prop
  | mk (y1 : ρ "agents" = some (.ref a)) (p : _) (t : _) (y2 : ρ "pattern" = some (.str p t)) (y3 : p.length ≤ 2 + 3 * i) (y4 : patLoop ss (ss.length - 1 - i) (1 + i) p = patF ss) : AI1 a ss i ρ σ
theorem pat_spec {w : World} {loose : List Str} {mean : ExcName → Option Value} {mg mb : Str → Option Value} {a : Addr} {o : Obj} {ss : List Str} {h₀ : Heap} (ha : h₀.get? a = some o) (hs : SL o ss) (hn : ∀ x ∈ ss, x.length ≤ 2) (h0 : ss ≠ []) (hz : ss.length ≤ 100) :
   PureC w loose mean mg mb 1 (.ref 291) [.ref a] h₀ (fun _ v => ∃ t, v = .str (patF ss) t) := by
  refine enterP (k := 0) (binds := [("agents", .ref a)]) (by k_is) (by k_is) (fun s _ => BindsTo.of_eq rfl) rfl ?_
  intro A L ρ O B
  have b1 := B "agents" _ rfl
  clear B
  have hh := O.hh
  obtain ⟨vs, hv, hal⟩ := hs.al
  have hl := hal.len
  have get : ∀ i, i < ss.length → ∃ t, vs[i]? = some (.str (ss.getD i ⟨#[]⟩) t) ∧ (ss.getD i ⟨#[]⟩).length ≤ 2 := by
    intro i hi
    have e : ss[i]? = some (ss.getD i ⟨#[]⟩) := by simp [List.getD, hi]
    obtain ⟨v, h1, t, rfl⟩ := hal.get' e
    exact ⟨t, h1, hn _ (List.mem_of_getElem? e)⟩
  have hpos : 0 < ss.length := by cases ss with | nil => exact absurd rfl h0 | cons _ _ => simp
  obtain ⟨t0, g0, g0'⟩ := get 0 hpos
  walk_at "ws"
  refine w_item (.inr ha) hv (i := 0) rfl g0 (by decide) ?_
  walk_at "ws"
  refine W.lenL (.inr ha) hv (by lia) fun t1 => ?_
  walk_at "ws"
  intro D o1 hr
  refine w_forRange (n := ss.length - 1) hh (.inl (.head _)) hr (by rw [hl]; exact ar_r1) (small_one (by exact Int.natCast_nonneg _) (by exact Int.natCast_nonneg _) (by exact Int.natCast_nonneg _) (by lia)) (List.nil_sublist _) (AI1 a ss) ?_ ?_ ?_
  · exact ⟨by walk_at "look", _, _, by walk_at "look", by omega, rfl⟩
  · rintro i t I oi ρ σ hi ⟨c1, p, tp, c2, c3, c4⟩
    obtain ⟨ti, gi, gi'⟩ := get (1 + i) (by grind)
    obtain ⟨tj, gj, gj'⟩ := get i (by lia)
    have ek : ((1 + i : Nat) : Int) = 1 + (i : Int) := by simp
    have zi := ar_i hi hz
    have zp := ar_t2 c3 hz hi
    have st : patLoop ss (ss.length - 1 - (i + 1)) (1 + (i + 1)) (patStep ss (1 + i) p) = patF ss := by
      rw [← c4, show ss.length - 1 - i = (ss.length - 1 - (i + 1)) + 1 from ar_step hi]; rfl
    have e1 : (1 + i : Nat) - 1 = i := by simp
    unfold patStep at st
    rw [e1] at st
    walk_at "ws"
    refine w_item (.inr ha) hv (i := 1 + i) ek.symm gi (Nat.lt_of_le_of_lt (Nat.add_le_add_left zi 1) (by decide)) ?_
    walk_at "ws"
    with_reducible refine W.lenS (by exact Nat.lt_of_le_of_lt (by assumption) (by decide)) fun t2 => ?_
    walk_at "ws"
    by_cases q1 : (ss.getD (1 + i) ⟨#[]⟩).length = 1
    · rw [if_pos q1] at st
      refine ite_t (by rw [q1]; rfl) ?_
      walk_at "ws"
      refine w_item (.inr ha) hv (i := i) (by lia) gj (Nat.lt_of_le_of_lt zi (by decide)) ?_
      walk_at "ws"
      with_reducible refine W.lenS (by exact Nat.lt_of_le_of_lt (by assumption) (by decide)) fun t3 => ?_
      walk_at "ws"
      by_cases q2 : (ss.getD i ⟨#[]⟩).length = 2
      · rw [if_pos q2] at st
        refine ite_t (by rw [q2]; rfl) ?_
        walk_at "ws"
        refine w_item (.inr ha) hv (i := 1 + i) ek.symm gi (Nat.lt_of_le_of_lt (Nat.add_le_add_left zi 1) (by decide)) ?_
        walk_at "ws"
        refine W.iaddS (by rw [q1]; exact Nat.le_trans (Nat.add_le_add_right zp 1) (by decide)) fun t4 => ?_
        walk_at "ws"
        refine ⟨_, List.Sublist.refl _, by walk_at "look", _, _, by walk_at "look", ?_, st⟩
        rw [Str.length_append]; lia
      · rw [if_neg q2] at st
        refine ite_f (by simp only [beq_iff_eq]; lia) ?_
        walk_at "ws"
        refine w_item (.inr ha) hv (i := 1 + i) ek.symm gi (Nat.lt_of_le_of_lt (Nat.add_le_add_left zi 1) (by decide)) ?_
        walk_at "ws"
        refine W.addS (by rw [q1]; decide) fun t5 => ?_
        walk_at "ws"
        refine W.iaddS (by rw [Str.length_append, q1]; exact Nat.le_trans (Nat.add_le_add_right zp _) (by decide)) fun t4 => ?_
        walk_at "ws"
        refine ⟨_, List.Sublist.refl _, by walk_at "look", _, _, by walk_at "look", ?_, st⟩
        rw [Str.length_append, Str.length_append]
        have : (("*" : Str)).length = 1 := rfl
        lia
    · rw [if_neg q1] at st
      refine ite_f (by simp only [beq_iff_eq]; lia) ?_
      walk_at "ws"
      exact ⟨_, List.Sublist.refl _, by walk_at "look", _, _, by walk_at "look", by lia, st⟩
  · rintro ρ σ ⟨c1, p, tp, c2, c3, c4⟩
    walk_at "ws"
    refine ⟨_, List.nil_sublist _, tp, ?_⟩
    rw [Nat.sub_self] at c4
    rw [← c4]
    rfl
end
section
noncomputable def markStep (f : Str) (k : Nat) (l : List Str) : List Str := l ++ [sliceT f (some ((k : Int) - 1)) (some ((k : Int) + 1)), itemT f k]
noncomputable def markLoop (f : Str) : Nat → Nat → List Str → List Str
  | 0, _, l => l
  | n + 1, k, l => markLoop f n (k + 1) (markStep f k l)
noncomputable def marksF (f : Str) : List Str := markLoop f (f.length - 1) 1 [itemT f 0]
noncomputable def sharedF (ways : List Str) : List Str := (marksF (ways.getD 0 ⟨#[]⟩)).filter fun m => ways.all fun x => Txt.contains x m
inductive SI1 (a M : Addr) (f : Str) (tf : Tok) (i : Nat) (ρ : Rho) (σ : Led) : Prop
  | mk (y1 : ρ "ways" = some (.ref a)) (y2 : ρ "marks" = some (.ref M)) (y3 : ρ "first" = some (.str f tf)) (oM : _) (l : _) (y4 : σ = [(M, oM)]) (y5 : SL oM l) (y6 : l.length ≤ 1 + 2 * i) (y7 : markLoop f (f.length - 1 - i) (1 + i) l = marksF f) : SI1 a M f tf i ρ σ
theorem shared_spec {w : World} {loose : List Str} {mean : ExcName → Option Value} {mg mb : Str → Option Value} {a : Addr} {o : Obj} {ss : List Str} {h₀ : Heap} (ha : h₀.get? a = some o) (hs : SL o ss) (hn : ∀ x ∈ ss, 0 < x.length ∧ x.length ≤ 100) (h0 : ss ≠ []) (hz : ss.length ≤ 100) :
   PureC w loose mean mg mb 1 (.ref 284) [.ref a] h₀ (fun tl v => ∃ D o, v = .ref D ∧ tl = [(D, o)] ∧ SL o (sharedF ss)) := by
  refine enterC (k := 0) (binds := [("ways", .ref a)]) (by k_is) (by k_is) rfl rfl rfl ?_
  intro A L ρ O B
  have b1 := B "ways" _ rfl
  clear B
  have hh := O.hh
  obtain ⟨vs, hv, hal⟩ := hs.al
  have hl := hal.len
  have hpos : 0 < ss.length := by
    cases ss with
    | nil => exact absurd rfl h0
    | cons _ _ => simp
  obtain ⟨v0, g0, tf, rfl⟩ := hal.get' (i := 0) (x := ss.getD 0 ⟨#[]⟩) (by simp [List.getD, hpos])
  have hf := hn (ss.getD 0 ⟨#[]⟩) (by simp [List.getD, hpos])
  have ef : sharedF ss = (marksF (ss.getD 0 ⟨#[]⟩)).filter fun m => ss.all fun x => Txt.contains x m := rfl
  generalize ss.getD 0 ⟨#[]⟩ = f at *
  walk_at "ws"
  refine w_item (.inr ha) hv (i := 0) rfl g0 (by decide) ?_
  walk_at "ws"
  with_reducible refine w_subS (w_itemS (k := 0) rfl hf.1 (by lia) fun t1 => ?_)
  walk_at "ws"
  refine ⟨by simp, fun M oM hM => ?_⟩
  walk_at "ws"
  with_reducible refine W.lenS (by lia) fun t2 => ?_
  walk_at "ws"
  intro D1 o1 hr
  refine w_forRange (n := f.length - 1) hh (.inl (.head _)) hr (by simp) (small_one (by exact Int.natCast_nonneg _) (by exact Int.natCast_nonneg _) (by exact Int.natCast_nonneg _) (by lia)) (.cons _ (.refl _)) (SI1 a M f tf) ?_ ?_ ?_
  · exact ⟨by walk_at "look", by walk_at "look", by walk_at "look", oM, _, rfl, SL.one hM, by simp, rfl⟩
  · rintro i t I oi ρ σ hi ⟨c1, c2, c3, oM, l, rfl, hsl, hlen, hmk⟩
    have st : markLoop f (f.length - 1 - (i + 1)) (1 + (i + 1)) (markStep f (1 + i) l) = marksF f := by
      rw [← hmk, show f.length - 1 - i = (f.length - 1 - (i + 1)) + 1 from ar_step hi]; rfl
    walk_at "ws"
    refine w_gm_sextend (.inl (.tail _ (.head _))) hsl ?_
    walk_at "ws"
    intro I3 oi3 hs3
    with_reducible refine w_subSlS (some (_, _)) (some (_, _)) hs3 rfl rfl (by lia) fun t5 => ?_
    walk_at "ws"
    with_reducible refine w_subS (w_itemS (k := 1 + i) (by simp) (by omega) (by lia) fun t6 => ?_)
    walk_at "ws"
    refine ⟨by simp, fun D2 o2 hD2 => ?_⟩
    walk_at "ws"
    refine w_extSL hsl (.inl (.head _)) (SL.two hD2) (by simp; lia) (fun o' => .tail _ (.tail _ (.tail _ (.head _)))) fun o' ho' => ?_
    walk_at "ws"
    refine ⟨_, .cons _ (.cons _ (.refl _)), by walk_at "look", by walk_at "look", by walk_at "look", o', _, rfl, ho', by simp; lia, ?_⟩
    rw [← st]
    congr 1
  · rintro ρ σ ⟨c1, c2, c3, oM, l, rfl, hsl, hlen, hmk⟩
    rw [Nat.sub_self] at hmk
    have hmk : l = marksF f := hmk
    subst hmk
    obtain ⟨us, hM2, hal2⟩ := hsl.al
    walk_at "ws"
    refine w_listCompX (own := some "mark") O (by with_unfolding_all rfl) (fun _ _ h => h) (clk_of (by with_unfolding_all rfl)) (fun _ => rfl) (fun _ => rfl) (ownk_of (by with_unfolding_all rfl) (by with_unfolding_all rfl)) (by with_unfolding_all rfl) (by decide) (by intro _; with_unfolding_all rfl) ?_
    walk_at "ws"
    refine w_compXL (U := IsS) (V := IsS) (fun m => ss.all fun x => Txt.contains x m) (fun ρ => ρ "ways" = some (.ref a)) hh (.inl (.head _)) hM2 hal2 (by lia) (by intro _ _; with_unfolding_all rfl) (fun ρc hc => hc "ways" _ _ rfl c1) ?_ ?_
    · rintro base C x v σ' ρ' hs O' hf hx ⟨tx, rfl⟩ hN
      have hh' := O'.hh
      have ha' : base.get? a = some o := hs.1 _ _ ha
      walk_at "ws"
      with_reducible refine W.storeX hf (by with_unfolding_all rfl) ?_ (by with_unfolding_all rfl) (by with_unfolding_all rfl)
      walk_at "ws"
      refine w_listComp (cl := [("mark", C + 1)]) O' (by with_unfolding_all rfl) (hcl1 (by with_unfolding_all rfl)) (clk_of (by with_unfolding_all rfl)) (by decide) (by with_unfolding_all rfl) (by decide) (by intro _; with_unfolding_all rfl) (by intro _ _; with_unfolding_all rfl) ?_
      walk_at "ws"
      refine w_compL (p := fun y => !Txt.contains y x) (V := IsS) hh' (.inr ha') hv hal (by exact Nat.le_trans (by assumption) (by decide)) ?_ ?_
      · rintro h₁ C' ρc y v hs' O'' hc hy ⟨t', rfl⟩
        have c1 := hc "mark" _ _ rfl look_here
        walk_at "ws"
        refine ⟨rfl, fun _ => ?_⟩
        walk_at "ws"
        exact ⟨_, rfl⟩
      · intro D o' rs hl' hr
        walk_at "ws"
        refine ⟨by decide, fun D2 o2 hl2 => ?_⟩
        refine w_eqSL O' (.inl (.tail _ (.head _))) (.inl (.head _)) (SL.of hl' hr) (SL.nil hl2) ?_
        rw [none_left]
        walk_at "ws"
        refine ⟨rfl, fun _ => ⟨by walk_at "look", .cons _ (.cons _ (.refl _))⟩, fun _ => ?_⟩
        walk_at "ws"
        exact ⟨⟨_, rfl⟩, by walk_at "look", .cons _ (.cons _ (.refl _))⟩
    · intro D o' rs hl' hr
      walk_at "ws"
      exact ⟨_, .cons₂ _ (List.nil_sublist _), D, o', rfl, rfl, by rw [ef]; exact SL.of hl' hr⟩
end
section
/-- the table of waits -/
structure WaitsAt (w : World) (h : Heap) (d : Addr) (f : Str → List Str) (names : List Str) : Prop where
  sm : (d == sysModules) = false
  obj : ∃ o kvs, h.get? d = some o ∧ DD w o kvs ∧ ∀ x ∈ names, ∃ a oa, valueAt kvs x = some (.ref a) ∧ h.get? a = some oa ∧ SL oa (f x)
noncomputable def rowStep (names : List Str) (f : Str → List Str) (row : List Str) : List Str := row.flatMap fun way => (names.filter fun name => (f name).any (· == itemT way (way.length - 1))).map fun name => way ++ name
theorem rowStep_len {ss : List Str} {f : Str → List Str} (h : ss.length = 5) : ∀ row, (rowStep ss f row).length ≤ row.length * 5
  | [] => by simp [rowStep]
  | x :: r => by
    have ih := rowStep_len (f := f) h r
    unfold rowStep at ih ⊢
    rw [List.flatMap_cons, List.length_append, List.length_map, List.length_cons]
    have : (ss.filter fun name => (f name).any (· == itemT x (x.length - 1))).length ≤ ss.length := List.length_filter_le ..
    exact Nat.le_trans (Nat.add_le_add (Nat.le_trans this (Nat.le_of_eq h)) ih) (Nat.le_of_eq ar_m)
theorem rowStep_each {ss : List Str} {f : Str → List Str} {row : List Str} {i : Nat} (hn : ∀ x ∈ ss, x.length = 1) (hlen : ∀ x ∈ row, x.length = i + 1) : ∀ x ∈ rowStep ss f row, x.length = i + 1 + 1 := by
  intro x hx
  unfold rowStep at hx
  obtain ⟨y, hy, hx⟩ := List.mem_flatMap.mp hx
  obtain ⟨z, hz, rfl⟩ := List.mem_map.mp hx
  rw [Str.length_append, hlen y hy, hn z (List.mem_filter.mp hz).1]
noncomputable def waysLoop (names : List Str) (f : Str → List Str) : Nat → List Str → List Str → List Str
  | 0, _, ways => ways
  | n + 1, row, ways => waysLoop names f n (rowStep names f row) (ways ++ row)
noncomputable def waysF (names : List Str) (f : Str → List Str) : List Str := waysLoop names f 5 [names.getD 0 ⟨#[]⟩] []
inductive WI1 (a d : Addr) (ss : List Str) (f : Str → List Str) (i : Nat) (ρ : Rho) (σ : Led) : Prop
  | mk (y1 : ρ "names" = some (.ref a)) (y2 : ρ "waits" = some (.ref d)) (R : _) (M : _) (oR : _) (oM : _) (row : _) (l : _) (y3 : ρ "row" = some (.ref R)) (y4 : ρ "ways" = some (.ref M)) (y5 : σ = [(R, oR), (M, oM)]) (y6 : SL oM l) (y7 : SL oR row) (y8 : row.length ≤ 5 ^ i) (y9 : l.length ≤ i * 5 ^ i) (y10 : (∀ x ∈ row, x.length = i + 1)) (y11 : waysLoop ss f (5 - i) row l = waysF ss f) : WI1 a d ss f i ρ σ
theorem ways_spec {w : World} {loose : List Str} {mean : ExcName → Option Value} {mg mb : Str → Option Value} {a d : Addr} {o : Obj} {ss : List Str} {f : Str → List Str} {h₀ : Heap} (ha : h₀.get? a = some o) (hs : SL o ss) (hn : ∀ x ∈ ss, x.length = 1) (h0 : ss.length = 5) (hw : WaitsAt w h₀ d f ss) :
   PureC w loose mean mg mb 1 (.ref 279) [.ref a, .ref d] h₀ (fun tl v => ∃ D o, v = .ref D ∧ tl = [(D, o)] ∧ SL o (waysF ss f)) := by
  refine enterC (k := 0) (binds := [("names", .ref a), ("waits", .ref d)]) (by k_is) (by k_is) rfl rfl rfl ?_
  intro A L ρ O B
  have b1 := B "names" _ rfl
  have b2 := B "waits" _ rfl
  clear B
  have hh := O.hh
  obtain ⟨vs, hv, hal⟩ := hs.al
  have hl := hal.len
  obtain ⟨v0, g0, tf, rfl⟩ := hal.get' (i := 0) (x := ss.getD 0 ⟨#[]⟩) (by simp [List.getD, h0])
  have hf := hn (ss.getD 0 ⟨#[]⟩) (by simp [List.getD, h0])
  walk_at "ws"
  refine ⟨by simp, fun M oM hM => ?_⟩
  walk_at "ws"
  refine w_item (.inr ha) hv (i := 0) rfl g0 (by decide) ?_
  walk_at "ws"
  refine ⟨by simp, fun R oR hR => ?_⟩
  walk_at "ws"
  intro D1 o1 hr
  refine w_forRange (n := 5) hh (.inl (.head _)) hr (by decide) (small_one (by exact Int.natCast_nonneg _) (by exact Int.natCast_nonneg _) (by exact Int.natCast_nonneg _) (by exact Int.natCast_nonneg _)) (.cons _ (.refl _)) (WI1 a d ss f) ?_ ?_ ?_
  · exact ⟨by walk_at "look", by walk_at "look", R, M, oR, oM, _, _, by walk_at "look", by walk_at "look", rfl, SL.nil hM, SL.one hR, by simp, by simp, by simpa using hf, rfl⟩
  · rintro i t I oi ρ σ hi ⟨c1, c2, R, M, oR, oM, row, l, c3, c4, rfl, hM, hR, hz1, hz2, hlen, hmk⟩
    have st : waysLoop ss f (5 - (i + 1)) (rowStep ss f row) (l ++ row) = waysF ss f := by
      rw [← hmk, show 5 - i = (5 - (i + 1)) + 1 from ar_step hi]; rfl
    have p5 : 5 ^ i ≤ 5 ^ 4 := Nat.pow_le_pow_right (by decide) (Nat.le_of_lt_succ hi)
    have p6 : i * 5 ^ i ≤ 4 * 5 ^ 4 := Nat.mul_le_mul (Nat.le_of_lt_succ hi) p5
    obtain ⟨us, hR2, halR⟩ := hR.al
    walk_at "ws"
    refine w_gm_sextend (.inl (.tail _ (.tail _ (.head _)))) hM ?_
    walk_at "ws"
    refine w_extSL hM (.inl (.tail _ (.head _))) hR (Nat.le_trans (Nat.add_le_add (Nat.le_trans hz2 p6) (Nat.le_trans hz1 p5)) (by decide)) (fun o' => .tail _ (.tail _ (.head _))) fun oM' hM' => ?_
    walk_at "ws"
    refine w_assignCompX (own := none) O (by with_unfolding_all rfl) (by with_unfolding_all rfl) (fun _ _ h => h) (clk_of (by with_unfolding_all rfl)) (fun _ => rfl) (fun _ => rfl) own_none (by with_unfolding_all rfl) (by decide) (by intro _; with_unfolding_all rfl) (by with_unfolding_all rfl) (by with_unfolding_all rfl) (by with_unfolding_all rfl) ?_
    walk_at "ws"
    refine W.iterList (.inl (.tail _ (.head _))) hR2 fun I1 oi1 hi1 => ⟨I1, oi1, _, fun rs => Al IsS (rowStep ss f row) rs, rfl, .refl _, ?_, ?_⟩
    · intro base C D oD ρc hs O' hc hf' hD
      have hh' := O'.hh
      have ha' : base.get? a = some o := hs.1 _ _ ha
      have hkb : base.get? R = some oR := hs.2 (R, oR) (by walk_at "mem")
      have n1 := hc "names" _ _ rfl (by walk_at "look")
      have n2 := hc "waits" _ _ rfl (by walk_at "look")
      obtain ⟨od, kvs, hd1, hd2, hd3⟩ := hw.obj
      have hd1' := hs.1 _ _ hd1
      refine ⟨fun Q q => (proto_list hh' hR2).self 0 I1 oi1 ρc _ Q hi1 q, ?_⟩
      refine WC.mono (wc_loopK (J := fun i ρ' σ' => (ρ' "names" = some (.ref a) ∧ ρ' "waits" = some (.ref d)) ∧ ∃ oD' rs, σ' = [(D, oD')] ∧ LObj oD' rs ∧ rs.length ≤ i * 5 ∧ Al IsS (rowStep ss f (row.take i)) rs) (R := fun ρ' σ' => ∃ oD' rs, σ' = [(D, oD')] ∧ LObj oD' rs ∧ Al IsS (rowStep ss f row) rs) (compTurn_two ..) (proto_list hh' hR2) hi1 ⟨⟨n1, n2⟩, oD, [], rfl, hD, by simp, .nil⟩ (fun _ _ _ _ => .inr hkb) ?_ ?_) ?_
      · rintro j v o' ρ' σ' hj hv' _ ⟨⟨m1, m2⟩, oD', rs, rfl, hD', hlen', hrs⟩
        obtain ⟨way, hx, tw, rfl⟩ := halR.get hv'
        have hway := hlen way (List.mem_of_getElem? hx)
        refine W.done ?_
        walk_at "ws"
        refine ite_t rfl ?_
        · refine w_nest (by intro _; with_unfolding_all rfl) ?_
          walk_at "ws"
          refine W.iterList (.inr ha') hv fun I2 oi2 hi2 => ?_
          refine wc_start rfl (fun Q q => (proto_list hh' hv).self 0 I2 oi2 _ _ Q hi2 q) ?_
          refine WC.of_sub (σ' := [(I2, oi2), (D, oD'), (I1, o')]) ?_ ?_ ?_
          · refine WC.conv (wc_one (xs := ss) (U := IsS) (V := fun x y => IsS (way ++ x) y) (pt := fun name => (f name).any (· == itemT way (way.length - 1))) (fun ρ' => ρ' "names" = some (.ref a) ∧ ρ' "waits" = some (.ref d) ∧ ρ' "way" = some (.str way tw)) (compTurn_two1 ..) (by intro _; with_unfolding_all rfl) (proto_list hh' hv) hal.len (by
              have := Nat.mul_le_mul (Nat.le_of_lt hj) (Nat.le_refl 5)
              rw [hl, h0]
              have hus := halR.len
              lia) hi2 (fun _ _ => .inr ha') (fun i v hv => hal.get hv) ⟨by walk_at "look", by walk_at "look", by walk_at "look"⟩ hD' ?_) ?_
            · rintro x v σ' ρ2 _ hx2 ⟨tx, rfl⟩ ⟨k1, k2, k3⟩
              obtain ⟨aw, ow, g1, g2, g3⟩ := hd3 x hx2
              have g2' := hs.1 _ _ g2
              have hx1 := hn x hx2
              walk_at "ws"
              with_reducible refine w_subS (w_itemSL (by lia) (by lia) fun t4 => ?_)
              walk_at "ws"
              refine w_subD (.inr hd1') hd2 (w_getD (.inr hd1') hd2 g1 ?_)
              refine w_inSL (.inr g2') g3 ?_
              walk_at "ws"
              refine ⟨rfl, fun _ => ⟨⟨by walk_at "look", by walk_at "look", by walk_at "look"⟩, .refl _⟩, fun _ => ?_⟩
              walk_at "ws"
              with_reducible refine W.addS (by lia) fun t5 => ?_
              exact ⟨⟨_, rfl⟩, ⟨by walk_at "look", by walk_at "look", by walk_at "look"⟩, .refl _⟩
            · rintro ρ3 σ3 ⟨⟨k1, k2, k3⟩, oD2, rs', rfl, q1, q2⟩
              refine ⟨[(I1, o'), (D, oD2)], swap_mem, swap_nd, rfl, _, .refl _, ⟨k1, k2⟩, oD2, _, rfl, q1, ?_, ?_⟩
              · have h1 := q2.len
                have h2 : (ss.filter fun name => (f name).any (· == itemT way (way.length - 1))).length ≤ ss.length := List.length_filter_le ..
                rw [List.length_append]
                exact Nat.le_trans (Nat.add_le_add (by assumption) (Nat.le_trans (Nat.le_of_eq h1) (Nat.le_trans h2 (Nat.le_of_eq h0)))) (Nat.le_of_eq (Nat.succ_mul _ _).symm)
              · have e : rowStep ss f (row.take (j + 1)) = rowStep ss f (row.take j) ++ (ss.filter fun name => (f name).any (· == itemT way (way.length - 1))).map fun name => way ++ name := by
                  unfold rowStep
                  rw [List.take_add_one, hx, List.flatMap_append]
                  simp
                rw [e]
                exact hrs.append (q2.of_map (f := fun name => way ++ name) fun _ _ h => h)
          · intro p hp
            rcases List.mem_cons.mp hp with rfl | hp
            · exact .head _
            · exact .tail _ (swap_mem p hp)
          · intro hnd
            rw [List.map_cons, List.nodup_cons] at hnd ⊢
            refine ⟨fun hm => hnd.1 ?_, swap_nd hnd.2⟩
            obtain ⟨p, hp, e⟩ := List.mem_map.mp hm
            exact List.mem_map.mpr ⟨p, swap_mem p hp, e⟩
      · rintro ρ' σ' ⟨_, oD', rs, rfl, hD', _, hrs⟩
        rw [halR.len, List.take_length] at hrs
        exact ⟨oD', rs, rfl, hD', hrs⟩
      · rintro ρ' σ' ⟨oD', rs, rfl, hD', hrs⟩
        exact ⟨oD', rs, .head _, hD', hrs⟩
    · intro D oD rs hD hr2
      have hz3 := rowStep_len (f := f) (h := h0) row
      have p7 : 5 ^ (i + 1) = 5 ^ i * 5 := rfl
      walk_at "un"
      refine W.of_sub (σ' := [(I, oi), (D, oD), (M, oM')]) ?_ (fun p hp => (show [(D, oD), (I, oi), (M, oM')].Sublist _ from .cons₂ _ (.cons₂ _ (.cons _ (.refl _)))).subset (swap_mem p hp)) (fun hn => swap_nd (sub_nd (show [(D, oD), (I, oi), (M, oM')].Sublist _ from .cons₂ _ (.cons₂ _ (.cons _ (.refl _)))) hn))
      walk_at "ws"
      refine ⟨[(D, oD), (M, oM')], .refl _, by walk_at "look", by walk_at "look", D, M, oD, oM', _, _, by walk_at "look", by walk_at "look", rfl, hM', SL.of hD hr2, ?_, ?_, ?_, st⟩
      · exact Nat.le_trans hz3 (Nat.mul_le_mul_right 5 hz1)
      · have : (i + 1) * 5 ^ (i + 1) = i * 5 ^ i * 5 + 5 ^ i * 5 := by rw [p7, Nat.add_mul, Nat.one_mul, Nat.mul_assoc]
        rw [List.length_append, this]
        exact Nat.add_le_add (Nat.le_trans hz2 (Nat.le_mul_of_pos_right _ (by decide))) (Nat.le_trans hz1 (Nat.le_mul_of_pos_right _ (by decide)))
      · exact rowStep_each hn hlen
  · rintro ρ σ ⟨c1, c2, R, M, oR, oM, row, l, c3, c4, rfl, hM, hR, hz1, hz2, hlen, hmk⟩
    have hmk : l = waysF ss f := hmk
    subst hmk
    walk_at "ws"
    exact ⟨_, .cons _ (.refl _), M, oM, rfl, rfl, hM⟩
end
section
noncomputable def offs : List Int := [0, 0, 2, 3, 11]
theorem offs_al {t1 t2 t3 t4 t5 : Tok} : Al IsI offs [.int 0 t1, .int 0 t2, .int 2 t3, .int 3 t4, .int 11 t5] := .cons ⟨_, rfl⟩ (.cons ⟨_, rfl⟩ (.cons ⟨_, rfl⟩ (.cons ⟨_, rfl⟩ (.cons ⟨_, rfl⟩ .nil))))
noncomputable def maskOf (cs : List Int) (k : Nat) : Int := 1 + (cs.getD k 0 + offs.getD k 0).fmod ((2 : Int) ^ ((k : Int)).toNat - 1)
noncomputable def bitOf (m : Int) (z : Int) : Bool := (m.fdiv ((2 : Int) ^ z.toNat)).fmod 2 == 1
noncomputable def waitOf (ss : List Str) (m : Int) (k : Nat) : List Str := ((((List.range k).map fun i => (0 : Int) + (i : Nat)).filter (bitOf m)).map fun z => ss.getD z.toNat ⟨#[]⟩)
noncomputable def namesOf (turn : Int) : List Str := signs (sliceT "abcde" (some turn) none ++ sliceT "abcde" none (some turn))
noncomputable def waitsF (ss : List Str) (cs : List Int) (x : Str) : List Str := if ss.idxOf x = 0 then [] else waitOf ss (maskOf cs (ss.idxOf x)) (ss.idxOf x)
theorem sl_waits {o : Obj} {rs : List Value} {ss : List Str} {m : Int} {k : Nat} (h : LObj o rs) (a : Al (fun z v => IsS (ss.getD z.toNat ⟨#[]⟩) v) (((List.range k).map fun i => (0 : Int) + (i : Nat)).filter (bitOf m)) rs) : SL o (waitOf ss m k) :=
  SL.of h (Al.of_map (f := fun z : Int => ss.getD z.toNat ⟨#[]⟩) (fun _ _ h => h) a)
theorem names_ok {turn : Int} (h0 : 0 ≤ turn) (h1 : turn < 5) : (namesOf turn).length = 5 ∧ (∀ x ∈ namesOf turn, x.length = 1) ∧ (∀ j, j < 5 → (namesOf turn).idxOf ((namesOf turn).getD j ⟨#[]⟩) = j) ∧ (sliceT "abcde" (some turn) none ++ sliceT "abcde" none (some turn)).length = 5 := by
  have : turn = 0 ∨ turn = 1 ∨ turn = 2 ∨ turn = 3 ∨ turn = 4 := by lia
  rcases this with rfl | rfl | rfl | rfl | rfl <;> decide +kernel
inductive BI1 (w : World) (a N d : Addr) (oN : Obj) (turn : Int) (cs : List Int) (i : Nat) (ρ : Rho) (σ : Led) : Prop
  | mk (y1 : ρ "codes" = some (.ref a)) (y2 : ρ "names" = some (.ref N)) (y3 : ρ "waits" = some (.ref d)) (od : _) (kvs : _) (σl : _) (y4 : σ = (d, od) :: σl) (y5 : (N, oN) ∈ σl) (y6 : DD w od kvs) (y7 : kvs.length ≤ 1 + i) (y8 : ∀ j, j ≤ i → ∃ a oa, valueAt kvs ((namesOf turn).getD j ⟨#[]⟩) = some (.ref a) ∧ (a, oa) ∈ σl ∧ SL oa (if j = 0 then [] else waitOf (namesOf turn) (maskOf cs j) j)) : BI1 w a N d oN turn cs i ρ σ
inductive WebP (w : World) (turn : Int) (cs : List Int) (tl : Led) (v : Value) : Prop
  | mk (T N d : Addr) (oT oN od : Obj) (kvs : List (Str × Value)) (y1 : v = .ref T) (y2 : (T, oT) ∈ tl) (y3 : TObj oT [.ref N, .ref d]) (y4 : (N, oN) ∈ tl) (y5 : SL oN (namesOf turn)) (y6 : (d == sysModules) = false) (y7 : (d, od) ∈ tl) (y8 : DD w od kvs)
    (y9 : ∀ x ∈ namesOf turn, ∃ a oa, valueAt kvs x = some (.ref a) ∧ (a, oa) ∈ tl ∧ SL oa (waitsF (namesOf turn) cs x)) : WebP w turn cs tl v
theorem web_spec {w : World} {loose : List Str} {mean : ExcName → Option Value} {mg mb : Str → Option Value} {a : Addr} {o : Obj} {vs : List Value} {cs : List Int} {h₀ : Heap} (ha : h₀.get? a = some o) (hv : LObj o vs) (hal : Al IsI cs vs) (h0 : cs.length = 5) :
   PureC w loose mean mg mb 1 (.ref 257) [.ref a] h₀ (WebP w ((cs.getD 0 0).fmod 5) cs) := by
  refine enterC (k := 0) (binds := [("codes", .ref a)]) (by k_is) (by k_is) rfl rfl rfl ?_
  intro A L ρ O B
  have b1 := B "codes" _ rfl
  clear B
  have hh := O.hh
  have hl := hal.len
  have get : ∀ i, i < 5 → ∃ t, vs[i]? = some (.int (cs.getD i 0) t) := by
    intro i hi
    obtain ⟨v, g, t, rfl⟩ := hal.get' (i := i) (x := cs.getD i 0) (by simp [List.getD, h0, hi])
    exact ⟨t, g⟩
  obtain ⟨t0, g0⟩ := get 0 (by exact Nat.le_add_left _ _)
  walk_at "ws"
  refine w_item (.inr ha) hv (i := 0) rfl g0 (by decide) ?_
  walk_at "ws"
  with_reducible refine W.modI (by decide) fun t1 => ?_
  have k0 : 0 ≤ (cs.getD 0 0).fmod 5 := Int.fmod_nonneg_of_pos _ (by decide)
  have k1 : (cs.getD 0 0).fmod 5 < 5 := Int.fmod_lt_of_pos _ (by decide)
  obtain ⟨n1, n2, n3, n4⟩ := names_ok k0 k1
  generalize hturn : (cs.getD 0 0).fmod 5 = turn at *
  walk_at "ws"
  intro I3 oi3 hs3
  with_reducible refine w_subSlS (some (_, _)) none hs3 rfl rfl (by decide) fun t2 => ?_
  walk_at "ws"
  intro I4 oi4 hs4
  with_reducible refine w_subSlS none (some (_, _)) hs4 rfl rfl (by decide) fun t3 => ?_
  have z1 := sliceT_le "abcde" (some turn) none
  have z2 := sliceT_le "abcde" none (some turn)
  have z3 : (("abcde" : Str)).length = 5 := rfl
  refine W.addS (by
    show (sliceT "abcde" (some turn) none).length + (sliceT "abcde" none (some turn)).length ≤ _
    lia) fun t4 => ?_
  walk_at "ws"
  refine w_listOfS (x := sliceT "abcde" (some turn) none ++ sliceT "abcde" none (some turn)) hh (by lia) fun N oN hN => ?_
  have hN : SL oN (namesOf turn) := hN
  obtain ⟨us, hN2, hNal⟩ := hN.al
  have getN : ∀ i, i < 5 → ∃ t, us[i]? = some (.str ((namesOf turn).getD i ⟨#[]⟩) t) := by
    intro i hi
    obtain ⟨v, g, t, rfl⟩ := hNal.get' (i := i) (x := (namesOf turn).getD i ⟨#[]⟩) (by simp [List.getD, n1, hi])
    exact ⟨t, g⟩
  walk_at "ws"
  intro d od0 hsm
  obtain ⟨tk0, gk0⟩ := getN 0 (by lia)
  walk_at "ws"
  refine w_item (.inl (.tail _ (.head _))) hN2 (i := 0) rfl gk0 (by decide) ?_
  walk_at "ws"
  refine ⟨by simp, fun E oE hE => ?_⟩
  refine ⟨_, _, _, rfl, fun o' => .tail _ (.head _), fun od hod => ?_⟩
  walk_at "ws"
  intro D1 o1 hr
  have lk0 : (namesOf turn).getD 0 ⟨#[]⟩ ∈ namesOf turn := by simp [List.getD, n1]
  walk_at "un"
  with_reducible refine W.sub (σ' := [(D1, o1), (E, oE), (d, od), (N, oN)]) (W.perm (σ' := [(D1, o1), (d, od), (E, oE), (N, oN)]) ?_ (.cons _ (.swap _ _ _))) (.cons₂ _ (.cons₂ _ (.cons₂ _ (.cons₂ _ (List.nil_sublist _)))))
  refine w_forRange (n := 4) hh (.inl (.head _)) hr (by decide) (small_one (by exact Int.natCast_nonneg _) (by exact Int.natCast_nonneg _) (by exact Int.natCast_nonneg _) (by exact Int.natCast_nonneg _)) (σ₃ := [(d, od), (E, oE), (N, oN)]) (.cons _ (.refl _)) (BI1 w a N d oN turn cs) ?_ ?_ ?_
  · refine ⟨by walk_at "look", by walk_at "look", by walk_at "look", od, _, _, rfl, .tail _ (.head _), hod, by simp, fun j hj => ?_⟩
    obtain rfl : j = 0 := by lia
    exact ⟨E, oE, by simp [valueAt], .head _, SL.nil hE⟩
  · rintro i t I oi ρ σ hi ⟨c1, c2, c3, od, kvs, σl, rfl, hm, hd, hkl, hall⟩
    obtain ⟨tc, gc⟩ := get (1 + i) (by lia)
    obtain ⟨tn, gn⟩ := getN (1 + i) (by lia)
    have ek : ((1 + i : Nat) : Int) = 1 + (i : Int) := by simp
    walk_at "ws"
    refine w_item (.inr ha) hv (i := 1 + i) ek.symm gc (by lia) ?_
    walk_at "ws"
    refine ⟨by simp, fun D2 o2 hD2 => ?_⟩
    obtain ⟨vo, hD2, hDal⟩ : ∃ vo, LObj o2 vo ∧ Al IsI offs vo := ⟨_, hD2, offs_al⟩
    obtain ⟨_, go, to, rfl⟩ := hDal.get' (i := 1 + i) (x := offs.getD (1 + i) 0) (by rcases (show i = 0 ∨ i = 1 ∨ i = 2 ∨ i = 3 by lia) with rfl | rfl | rfl | rfl <;> rfl)
    walk_at "ws"
    refine w_item (.inl (.head _)) hD2 (i := 1 + i) ek.symm go (by lia) ?_
    walk_at "ws"
    refine W.powI (by exact Int.natCast_nonneg _) (by lia) (by decide) fun t7 => ?_
    walk_at "ws"
    have hpw : (2 : Int) ≤ 2 ^ (1 + (i : Int)).toNat := by
      rcases (show i = 0 ∨ i = 1 ∨ i = 2 ∨ i = 3 by lia) with rfl | rfl | rfl | rfl <;> decide
    with_reducible refine W.modI (by lia) fun t8 => ?_
    walk_at "ws"
    have hmask : maskOf cs (1 + i) = 1 + (cs.getD (1 + i) 0 + offs.getD (1 + i) 0).fmod ((2 : Int) ^ (1 + (i : Int)).toNat - 1) := by unfold maskOf; rw [ek]
    rw [← hmask]
    generalize hm' : maskOf cs (1 + i) = m at *
    refine w_listComp (cl := [("names", L + 1), ("mask", L + 1 + 1)]) O (by with_unfolding_all rfl) (hcl_cons (by with_unfolding_all rfl) (hcl1 (by with_unfolding_all rfl))) (clk_of (by with_unfolding_all rfl)) (by decide) (by with_unfolding_all rfl) (by decide) (by intro _; with_unfolding_all rfl) (by intro _ _; with_unfolding_all rfl) ?_
    walk_at "ws"
    intro D3 o3 hr3
    refine w_compR (n := 1 + i) (V := fun z v => IsS ((namesOf turn).getD z.toNat ⟨#[]⟩) v) (bitOf m) hh (.inl (.head _)) hr3 (by lia) (small_one (by lia) (by lia) (by lia) (by lia)) (by lia) ?_ ?_
    · rintro h₁ C ρc j tj hs O' hc hj
      have e1 := hc "names" _ _ rfl (by walk_at "look")
      have e2 := hc "mask" _ _ rfl (by walk_at "look")
      obtain ⟨tnj, gnj⟩ := getN j (by lia)
      have gN := hs.2 (N, oN) (by simp [hm])
      walk_at "ws"
      with_reducible refine W.powI (by lia) (by lia) (by decide) fun t9 => ?_
      walk_at "ws"
      have hp2 : (2 : Int) ^ (0 + (j : Int)).toNat ≠ 0 := by
        have : (0 : Int) < 2 ^ (0 + (j : Int)).toNat := Int.pow_pos (by decide)
        lia
      with_reducible refine W.fdivI hp2 (PyProof.noPylong_small ?_) fun t10 => ?_
      · rcases (show j = 0 ∨ j = 1 ∨ j = 2 ∨ j = 3 by lia) with rfl | rfl | rfl | rfl <;> decide
      walk_at "ws"
      with_reducible refine W.modI (by decide) fun t11 => ?_
      walk_at "ws"
      refine ⟨rfl, fun _ => ?_⟩
      walk_at "ws"
      refine w_item (.inr gN) hN2 (i := j) (by lia) gnj (by lia) ?_
      exact ⟨tnj, by simp⟩
    · intro D4 o4 rs4 hl4 hr4
      walk_at "ws"
      refine w_item (.inl (.tail _ (.tail _ (.tail _ (.tail _ (.tail _ hm)))))) hN2 (i := 1 + i) ek.symm gn (by lia) ?_
      with_reducible refine w_setD hd (by lia) (fun o' => .tail _ (.tail _ (.tail _ (.tail _ (.head _))))) fun o' ho' => ?_
      walk_at "un"
      with_reducible refine W.sub (σ' := (D4, o4) :: (I, oi) :: (d, o') :: σl) ?_ (.cons₂ _ (.cons _ (.cons _ (.refl _))))
      walk_at "un"
      with_reducible refine W.perm ?_ perm3
      walk_at "ws"
      refine ⟨_, .refl _, by walk_at "look", by walk_at "look", by walk_at "look", o', _, _, rfl, .tail _ hm, ho', Nat.le_trans (stored_length_le ..) (by lia), fun j hj => ?_⟩
      by_cases hji : j = 1 + i
      · subst hji
        refine ⟨D4, o4, by rw [valueAt_stored, if_pos rfl], .head _, ?_⟩
        rw [if_neg (by lia), hm']
        exact sl_waits hl4 hr4
      · obtain ⟨aj, oj, q1, q2, q3⟩ := hall j (by lia)
        refine ⟨aj, oj, ?_, .tail _ q2, q3⟩
        rw [valueAt_stored, if_neg, q1]
        intro e
        have := congrArg (namesOf turn).idxOf e
        rw [n3 j (by lia), n3 (1 + i) (by lia)] at this
        exact hji this
  · rintro ρ σ ⟨c1, c2, c3, od, kvs, σl, rfl, hm, hd, hkl, hall⟩
    walk_at "ws"
    refine ⟨by simp, fun T oT hT => ?_⟩
    walk_at "ws"
    refine ⟨_, .refl _, T, N, d, oT, oN, od, kvs, rfl, .head _, hT, .tail _ (.tail _ hm), hN, hsm, .tail _ (.head _), hd, fun x hx => ?_⟩
    have hx5 : (namesOf turn).idxOf x < 5 := by rw [← n1]; exact List.idxOf_lt_length_iff.mpr hx
    have ex : (namesOf turn).getD ((namesOf turn).idxOf x) ⟨#[]⟩ = x := by
      have := List.getElem_idxOf (List.idxOf_lt_length_iff.mpr hx)
      simp [List.getD, List.getElem?_eq_getElem (List.idxOf_lt_length_iff.mpr hx), this]
    obtain ⟨aj, oj, q1, q2, q3⟩ := hall ((namesOf turn).idxOf x) (by lia)
    rw [ex] at q1
    exact ⟨aj, oj, q1, .tail _ (.tail _ q2), q3⟩
end
section
theorem map82 {w : World} {h : Heap} (X : (KB w.params).In h) : ∃ f, h.MapOf (intKind PP w) 82 f ∧ ∀ c : Nat, lettr c = true → f (c : Int) = none := by
  have : ∃ es ep, (KB w.params).lookup 82 = some ⟨.type "dict", none, .dict es ep, #[]⟩ ∧ (es.all fun e => match e.key with | .int k _ => e.hash == hashInt k | _ => false) = true ∧
      findBy Value.isInt es 97 = none ∧ findBy Value.isInt es 98 = none ∧ findBy Value.isInt es 99 = none ∧ findBy Value.isInt es 100 = none ∧ findBy Value.isInt es 101 = none := by
    refine ⟨_, _, by k_is, ?_⟩
    decide +kernel
  obtain ⟨es, ep, h1, h2, h3, h4, h5, h6, h7⟩ := this
  refine ⟨fun k => findBy Value.isInt es k, ⟨_, es, ep, X _ _ h1, ⟨rfl, rfl, rfl⟩, rfl, fun e he => ?_, fun k => rfl⟩, fun c hc => ?_⟩
  · have := Array.all_eq_true_iff_forall_mem.mp h2 e he
    obtain ⟨hh, k, v⟩ := e
    cases k <;> simp at this
    rename_i i t
    exact ⟨i, by simp [intKind, Value.isInt], this⟩
  · simp only [lettr, Bool.and_eq_true, decide_eq_true_eq] at hc
    rcases (show c = 97 ∨ c = 98 ∨ c = 99 ∨ c = 100 ∨ c = 101 by lia) with rfl | rfl | rfl | rfl | rfl <;> assumption
theorem sub_key : isSubtype (.type "KeyError") (.type "LookupError") = pure true := by rw [isSubtype_type]; kernel_rfl
theorem lookup82 {w : World} {A : Around} {s : Shared} {E : Value → Shared → Prop} {c : Nat} {Q : Builtin.Str.Mapped → Shared → Prop} (X : (KB w.params).In s.heap) (hh : A.handled = none) (hc : lettr c = true)
    (h : ∀ h' tk, s.heap.StaysIn h' → Q .keep { s with heap := h', toks := tk }) : wpAny (model PP w) A (Builtin.Str.tableLookup (.ref 82) c) Q E s := by
  obtain ⟨f, hm, hf⟩ := map82 X
  unfold Builtin.Str.tableLookup
  refine wpAny_bind (wpAny_attempt (wpAny_bind (wpAny_mkInt ?_)))
  refine wpAny_getItem_missing_of (k := (c : Int)) (intKind_is PP w c _) (by decide) hh hm (hf c hc) fun h' e hx => ?_
  have hT : Shared.TypeIs { s with heap := h', toks := s.toks + 1 + 1 } (.ref e) "KeyError" := by
    obtain ⟨ob, t, e1, e2, _⟩ := hx.there
    exact ⟨ob, e1, e2⟩
  dsimp only
  refine wpAny_bind (wpAny_isInstance hT sub_key ?_)
  exact wpAny_bind (wpAny_rule (wpAny_pure (h h' _ fun b o e => hx.keeps b o e)))
noncomputable abbrev TSt := List Str × Nat × Bool × List (Nat × Option Nat) × Bool
noncomputable def goodK (known : List (Nat × Option Nat)) : Prop := ∀ c a, known.lookup c = some a → a = some c
theorem translate_loop {w : World} {A : Around} {E : Value → Shared → Prop} (F : Nat → TSt → Sem (ForInStep TSt))
    (hF : ∀ c pieces total known s R, lettr c = true → goodK known → total ≤ 1000000 → (KB w.params).In s.heap → (∀ known' h' tk, goodK known' → s.heap.StaysIn h' → R (.yield (⟨#[c]⟩ :: pieces, total + 1, true, known', false)) { s with heap := h', toks := tk }) →
      wpAny (model PP w) A (F c (pieces, total, true, known, false)) R E s) :
    ∀ (l : List Nat) pieces total known s (Q : TSt → Shared → Prop), l.all lettr = true → goodK known → total + l.length ≤ 1000000 → (KB w.params).In s.heap →
      (∀ known' h' tk, s.heap.StaysIn h' → Q ((l.map fun c => (⟨#[c]⟩ : Str)).reverse ++ pieces, total + l.length, true, known', false) { s with heap := h', toks := tk }) →
      wpAny (model PP w) A (forIn l ((pieces, total, true, known, false) : TSt) F) Q E s
  | [], pieces, total, known, s, Q, _, _, _, _, h => by
    rw [List.forIn_nil]
    exact wpAny_pure (h known s.heap s.toks (fun _ _ e => e))
  | c :: r, pieces, total, known, s, Q, hl, hg, hz, X, h => by
    rw [List.forIn_cons]
    simp only [List.all_cons, Bool.and_eq_true] at hl
    simp only [List.length_cons] at hz
    refine wpAny_bind (hF c pieces total known s _ hl.1 hg (by lia) X fun known' h' tk hg' st => ?_)
    refine translate_loop F hF r _ _ known' _ Q hl.2 hg' (by lia) (fun b o e => st b o (X b o e)) fun known'' h'' tk' st' => ?_
    have := h known'' h'' tk' (fun b o e => st' b o (st b o e))
    simpa [Nat.add_assoc, Nat.add_comm 1] using this
theorem singles_text : ∀ (l : List Nat) (acc : Array Nat), ((l.map fun c => (⟨#[c]⟩ : Str)).foldl (fun acc p => acc ++ p.cps) acc) = acc ++ l.toArray
  | [], acc => by simp
  | c :: r, acc => by
    rw [List.map_cons, List.foldl_cons, singles_text r]
    simp
theorem w_translate {w : World} {A : Around} {h₀ : Heap} {env : Env} {ρ : Rho} {σ : Led} {x : Str} {t : Tok} {Q : Value → Rho → Led → Prop} (X : (KB w.params).In h₀) (hh : A.handled = none) (hx : x.cps.toList.all lettr = true) (hz : x.length ≤ 1000000)
    (h : ∀ t', Q (.str x t') ρ σ) : W w A h₀ env ρ σ (PySem.call (.builtin "str.translate") [.str x t, .ref 82]) Q := fun s ht F => by
  refine wpAny_call_entry PySem.F.slot_str_translate (typeIs_str _ _ _) PySem.F.entry_str_translate ?_ (PySem.F.args_str_translate_2 _ _)
  unfold Builtin.«str.translate»
  refine wpAny_bind (wpAny_of_eq (a := (.str x t, x, .ref 82)) (by first | rfl | kernel_rfl) ?_)
  dsimp only
  by_cases h0 : x.length = 0
  · rw [if_pos (by simp [h0])]
    refine wpAny_bind (wpAny_rule ?_)
    refine wpAny_bind (wpAny_of_eq (a := .str x t) (by first | rfl | kernel_rfl) ?_)
    exact wpAny_pure ⟨_, rfl, Post.now F (h t)⟩
  · rw [if_neg (by simpa using h0)]
    have hf : (x.cps.all fun x => decide (x < 128)) = true := by
      rw [Array.all_eq_true_iff_forall_mem]
      intro c hc
      have := List.all_eq_true.mp hx c (by simpa using hc)
      simp only [lettr, Bool.and_eq_true, decide_eq_true_eq] at this ⊢
      lia
    rw [hf, ← Array.forIn_toList]
    refine wpAny_bind (translate_loop _ ?_ x.cps.toList [] 0 [] s _ hx (by intro c a h; cases h) (by show 0 + x.cps.toList.length ≤ _; rw [Array.length_toList]; show 0 + x.length ≤ _; lia) (fun b o e => F.keep b o (X b o e)) fun known h' tk st => ?_)
    · intro c pieces total known s R hc hg hz X' hR
      have hc128 : c < 128 := by simp only [lettr, Bool.and_eq_true, decide_eq_true_eq] at hc; lia
      dsimp only
      have hlong : Builtin.Str.tooLong total = false := by
        unfold Builtin.Str.tooLong
        rw [sizeLine_eq]
        simp; exact Nat.le_trans (by assumption) (by decide)
      rw [hlong, if_neg (by decide), if_pos rfl]
      cases e : List.lookup c known with
      | some a =>
        obtain rfl := hg c a e
        exact wpAny_bind (wpAny_pure (wpAny_pure (hR known s.heap s.toks hg (fun _ _ e => e))))
      | none =>
        refine wpAny_bind (lookup82 X' hh hc fun h' tk st => ?_)
        refine wpAny_bind (wpAny_pure (wpAny_pure (hR _ h' tk ?_ st)))
        intro c' a' h1
        by_cases hcc : c' = c
        · subst hcc; simp at h1; exact h1.symm
        · have : (c' == c) = false := by simpa using hcc
          rw [List.lookup_cons, this] at h1
          exact hg c' a' h1
    · dsimp only
      have hlong : Builtin.Str.tooLong (0 + x.cps.toList.length) = false := by
        unfold Builtin.Str.tooLong
        rw [sizeLine_eq, Array.length_toList]
        simp
        show x.length ≤ _
        exact Nat.le_trans (by assumption) (by decide)
      rw [hlong, if_neg (by decide), List.append_nil, List.reverse_reverse, singles_text]
      have ex : (⟨#[] ++ x.cps.toList.toArray⟩ : Str) = x := by simp
      rw [ex]
      refine wpAny_bind (wpAny_mkStr (wpAny_pure ⟨_, rfl, ρ, σ, h', _, rfl, F.stays st, h _⟩) (by rw [sizeLine_eq]; lia))

theorem sub_str : isSubtype (.type "str") (.type "str") = pure true := by rw [isSubtype_type]; kernel_rfl
theorem w_isStr {w : World} {A : Around} {h₀ : Heap} {env : Env} {ρ : Rho} {σ : Led} {x : Str} {t : Tok} {Q : Value → Rho → Led → Prop} (h : Q (.bool true) ρ σ) : W w A h₀ env ρ σ (PySem.call (.builtin "isinstance") [.str x t, .type "str"]) Q := fun s ht F =>
  call_isinstance_yes (typeIs_str _ _ _) meta_str sub_str (Post.now F h)
theorem w_gm_translate {w : World} {A : Around} {h₀ : Heap} {env : Env} {ρ : Rho} {σ : Led} {x : Str} {t : Tok} {pl : Sem Bool} {Q : Value × List Value → Rho → Led → Prop} (h : Q (.builtin "str.translate", [.str x t]) ρ σ) : W w A h₀ env ρ σ (getMethod (.str x t) "translate" pl) Q := by
  intro s ht F
  with_reducible exact GM.of (.str x t) (typeIs_str _ _ _) PySem.F.slot_str_translate PySem.F.type_str_translate GM.noRef (Post.now F h)

theorem escape_spec {w : World} {loose : List Str} {mean : ExcName → Option Value} {mg mb : Str → Option Value} {x : Str} {tx : Tok} {h₀ : Heap} (hx : x.cps.toList.all lettr = true) (hz : x.length ≤ 1000) :
   PureC w loose mean mg mb 1 (.ref 92) [.str x tx] h₀ (fun tl v => tl = [] ∧ ∃ t, v = .str x t) := by
  refine enterP (k := 0) (binds := [("pattern", .str x tx)]) (by k_is) (by k_is) (fun s _ => BindsTo.of_eq rfl) rfl ?_
  intro A L ρ O B
  have b1 := B "pattern" _ rfl
  clear B
  have hh := O.hh
  walk_at "ws"
  with_reducible refine w_isStr ?_
  walk_at "ws"
  refine ite_t rfl ?_
  walk_at "ws"
  with_reducible refine w_gm_translate ?_
  walk_at "ws"
  with_reducible refine w_translate O.x hh hx (by exact Nat.le_trans (by assumption) (by decide)) fun t' => ?_
  walk_at "ws"
  exact ⟨[], .refl _, rfl, t', rfl⟩
end
section
/-- an item that _translate makes -/
noncomputable def IV (S : Addr) : Option Nat → Value → Prop
  | none, v => v = .ref S
  | some c, v => IsS ⟨#[c]⟩ v
theorem let_ne {c : Nat} (h : lettr c = true) (d : Nat) (hd : d < 97 ∨ 101 < d) : ((⟨#[c]⟩ : Str) == ⟨#[d]⟩) = false := by
  rw [beq_eq_false_iff_ne]
  intro e
  have : #[c] = #[d] := congrArg Str.cps e
  have e2 : c = d := by simpa using this
  simp only [lettr, Bool.and_eq_true, decide_eq_true_eq] at h
  lia
theorem trStep_len (acc : List (Option Nat)) (c : Nat) : (trStep acc c).length ≤ acc.length + 1 := by
  unfold trStep
  split
  · split <;> simp
  · simp
inductive RI1 (x : Str) (tx : Tok) (S R Bo : Addr) (m : Nat) (ρ : Rho) (σ : Led) : Prop
  | mk (i : _) (y1 : m = x.length - i) (y2 : i ≤ x.length) (y3 : ρ "pat" = some (.str x tx)) (y4 : ρ "STAR" = some (.ref S)) (y5 : ρ "res" = some (.ref R)) (y6 : ρ "add" = some (.ref Bo)) (y7 : (∃ t, ρ "i" = some (.int i t))) (y8 : (∃ t, ρ "n" = some (.int x.length t))) (oR : _) (vs : _) (y9 : σ = [(Bo, bobj "list.append" (.ref R)), (R, oR)]) (y10 : LObj oR vs) (y11 : Al (IV S) ((x.cps.toList.take i).foldl trStep []) vs) (y12 : vs.length ≤ i) : RI1 x tx S R Bo m ρ σ
theorem tr_spec {w : World} {loose : List Str} {mean : ExcName → Option Value} {mg mb : Str → Option Value} {x q : Str} {tx tq : Tok} {S : Addr} {h₀ : Heap} (hx : ∀ c ∈ x.cps.toList, c = 42 ∨ lettr c = true) (hz : x.length ≤ 1000) :
   PureC w loose mean mg mb 2 (.ref 125) [.str x tx, .ref S, .str q tq] h₀ (fun tl v => ∃ R oR vs, v = .ref R ∧ tl = [(R, oR)] ∧ LObj oR vs ∧ Al (IV S) (trF x.cps.toList) vs) := by
  refine enterP (k := 1) (binds := [("pat", .str x tx), ("STAR", .ref S), ("QUESTION_MARK", .str q tq)]) (by k_is) (by k_is) (fun s _ => BindsTo.of_eq rfl) rfl ?_
  intro A L ρ O B
  have b1 := B "pat" _ rfl
  have b2 := B "STAR" _ rfl
  clear B
  have hh := O.hh
  walk_at "ws"
  refine ⟨by simp, fun R oR hR => ?_⟩
  walk_at "ws"
  refine w_boundAppend (.inl (.head _)) hR fun Bo => ?_
  walk_at "ws"
  with_reducible refine w_assign2 "i" "n" (by with_unfolding_all rfl) (by with_unfolding_all rfl) ?_
  walk_at "ws"
  with_reducible refine W.lenS (by exact Nat.lt_of_le_of_lt (by assumption) (by decide)) fun t1 => ?_
  walk_at "ws"
  refine ⟨by simp, fun T oT hT => ?_⟩
  refine ⟨T, oT, _, _, hh, rfl, .inl (.head _), hT, ?_⟩
  walk_at "ws"
  walk_at "un"
  with_reducible refine W.sub (σ' := [(Bo, bobj "list.append" (.ref R)), (R, oR)]) ?_ (.cons _ (.refl _))
  with_reducible refine W.while (RI1 x tx S R Bo) ?_ (x.length - 0) ?_
  · rintro m ρ σ ⟨i, rfl, hi, c1, c2, c3, c4, ⟨t2, c5⟩, ⟨t3, c6⟩, oR', vs, rfl, hR', hal, hlen⟩
    walk_at "ws"
    by_cases hin : i < x.length
    · refine ite_t (by simpa using hin) ?_
      have hin' : i < x.cps.toList.length := by rw [Array.length_toList]; exact hin
      have hcm : x.cps.toList[i] ∈ x.cps.toList := List.getElem_mem _
      have hit : itemT x i = ⟨#[x.cps.toList[i]]⟩ := by
        unfold itemT
        have : x.cps[i]? = some x.cps.toList[i] := by simp [hin]
        rw [this]
      have htk : (x.cps.toList.take (i + 1)).foldl trStep [] = trStep ((x.cps.toList.take i).foldl trStep []) x.cps.toList[i] := by
        rw [List.take_add_one, List.getElem?_eq_getElem hin', List.foldl_append]; rfl
      generalize x.cps.toList[i] = c at *
      generalize (x.cps.toList.take i).foldl trStep [] = acc at *
      walk_at "ws"
      with_reducible refine w_subS (w_itemS (k := i) rfl hin (by exact Nat.le_trans (by assumption) (by decide)) fun t4 => ?_)
      rw [hit]
      walk_at "ws"
      rcases hx c hcm with rfl | hc
      · refine ite_t (by decide) ?_
        walk_at "ws"
        have fin : ∀ o', LObj o' (vs ++ [.ref S]) → acc.getLast? ≠ some none → Al (IV S) (trStep acc 42) (vs ++ [.ref S]) := fun o' _ hne => by
          unfold trStep
          rw [if_pos rfl, if_neg hne]
          exact hal.snoc rfl
        refine w_trL (.inl (.tail _ (.head _))) hR' (by lia) ?_
        walk_at "ws"
        by_cases hv : vs = []
        · subst hv
          refine ite_t rfl (ite_t rfl ?_)
          walk_at "ws"
          refine w_callBoundB (.head _) ?_ (by with_unfolding_all rfl) (by with_unfolding_all rfl)
          walk_at "ws"
          refine ⟨.head _, w_addBound (.head _) hR' (by simp) (fun o' => .tail _ (.head _)) fun o' ho' => ?_⟩
          walk_at "ws"
          have e0 : acc = [] := by cases hal; rfl
          refine ⟨x.length - (i + 1), by exact Nat.sub_lt_sub_left (by assumption) (Nat.lt_succ_self _), i + 1, rfl, by assumption, by walk_at "look", by walk_at "look", by walk_at "look", by walk_at "look", ⟨_, look_here⟩, ⟨_, by walk_at "look"⟩, o', _, rfl, ho', ?_, by simp⟩
          rw [htk]
          exact fin o' ho' (by rw [e0]; simp)
        · obtain ⟨acc', a, vs', v, rfl, rfl, ia, hal'⟩ := hal.last hv
          refine ite_f (by simp) ?_
          walk_at "ws"
          refine w_lastL (.inl (.tail _ (.head _))) hR'.lw (by simp at hlen; lia) ?_
          walk_at "ws"
          cases a with
          | none =>
            obtain rfl := ia
            with_reducible refine w_isNotSelf ?_
            walk_at "ws"
            refine ite_f (by decide) ?_
            walk_at "ws"
            refine ite_f (by decide) ?_
            walk_at "ws"
            refine ⟨x.length - (i + 1), by lia, i + 1, rfl, by lia, by walk_at "look", by walk_at "look", by walk_at "look", by walk_at "look", ⟨_, look_here⟩, ⟨_, by walk_at "look"⟩, oR', _, rfl, hR', ?_, by simp at hlen ⊢; exact Nat.le_of_lt (by assumption)⟩
            rw [htk]
            unfold trStep
            rw [if_pos rfl, if_pos (by simp)]
            exact hal
          | some c' =>
            obtain ⟨tv, rfl⟩ := ia
            refine w_isNotPlain (by rfl) ?_
            walk_at "ws"
            refine ite_t (by simp) (ite_t rfl ?_)
            walk_at "ws"
            refine w_callBoundB (.head _) ?_ (by with_unfolding_all rfl) (by with_unfolding_all rfl)
            walk_at "ws"
            refine ⟨.head _, w_addBound (.head _) hR' (by lia) (fun o' => .tail _ (.head _)) fun o' ho' => ?_⟩
            walk_at "ws"
            refine ⟨x.length - (i + 1), by lia, i + 1, rfl, by lia, by walk_at "look", by walk_at "look", by walk_at "look", by walk_at "look", ⟨_, look_here⟩, ⟨_, by walk_at "look"⟩, o', _, rfl, ho', ?_, by simp at hlen ⊢; omega⟩
            rw [htk]
            exact fin o' ho' (by simp)
      · refine ite_f (by rw [show ("*" : Str) = ⟨#[42]⟩ from rfl, let_ne hc 42 (by decide)]; decide) ?_
        walk_at "ws"
        refine ite_f (by rw [show ("?" : Str) = ⟨#[63]⟩ from rfl, let_ne hc 63 (by decide)]; decide) ?_
        walk_at "ws"
        refine ite_f (by rw [show ("[" : Str) = ⟨#[91]⟩ from rfl, let_ne hc 91 (by decide)]; decide) ?_
        walk_at "ws"
        refine w_callBoundB (.head _) ?_ (by with_unfolding_all rfl) (by with_unfolding_all rfl)
        walk_at "ws"
        refine W.pureC O (fun h _ => escape_spec (by simpa using hc) (by show (#[c] : Array Nat).size ≤ 1000; simp)) (Nat.le_refl _) ?_
        rintro _ tl ⟨rfl, t5, rfl⟩
        walk_at "ws"
        refine ⟨.head _, w_addBound (.head _) hR' (by lia) (fun o' => .tail _ (.head _)) fun o' ho' => ?_⟩
        walk_at "ws"
        refine ⟨x.length - (i + 1), by lia, i + 1, rfl, by lia, by walk_at "look", by walk_at "look", by walk_at "look", by walk_at "look", ⟨_, look_here⟩, ⟨_, by walk_at "look"⟩, o', _, rfl, ho', ?_, by simp; omega⟩
        rw [htk]
        unfold trStep
        rw [if_neg (by intro e; subst e; revert hc; decide)]
        exact hal.snoc ⟨_, rfl⟩
    · refine ite_f (by simpa using hin) ?_
      obtain rfl : i = x.length := by lia
      walk_at "ws"
      refine ⟨by simp, ?_⟩
      walk_at "ws"
      refine ⟨_, .cons _ (.refl _), R, oR', vs, rfl, rfl, hR', ?_⟩
      rw [List.take_of_length_le (by rw [Array.length_toList]; exact Nat.le_refl _)] at hal
      exact hal
  · exact ⟨0, rfl, by exact Nat.zero_le _, by walk_at "look", by walk_at "look", by walk_at "look", by walk_at "look", ⟨_, look_here⟩, ⟨_, by walk_at "look"⟩, oR, [], rfl, hR, .nil, by simp⟩
end
section
noncomputable def spanS : List (Option Nat) → List Str × List (Option Nat)
  | some c :: r => (⟨#[c]⟩ :: (spanS r).1, (spanS r).2)
  | l => ([], l)
noncomputable def jB : Nat → List (Option Nat) → List Str
  | 0, _ => []
  | _, [] => []
  | _, [none] => [".*"]
  | n + 1, none :: r => if (spanS r).2 = [] then [".*", Txt.join "" (spanS r).1] else (((("" : Str) ++ ("(?>.*?" : Str)) ++ Txt.join "" (spanS r).1) ++ (")" : Str)) :: jB n (spanS r).2
  | _, _ => []
noncomputable def jA (l : List (Option Nat)) : List Str := (spanS l).1 ++ jB l.length (spanS l).2
noncomputable def joinF (l : List (Option Nat)) : Str := (("" : Str) ++ ("(?s:" : Str) ++ Txt.join "" (jA l)) ++ (")\\Z" : Str)
noncomputable def noDbl (l : List (Option Nat)) : Prop := ∀ i, l[i]? = some none → l[i + 1]? ≠ some none
theorem spanS_none (r : List (Option Nat)) : spanS (none :: r) = ([], none :: r) := rfl
theorem spanS_some (c : Nat) (r : List (Option Nat)) : spanS (some c :: r) = (⟨#[c]⟩ :: (spanS r).1, (spanS r).2) := rfl
theorem join_le {fs : List Str} {B : Nat} (h : ∀ y ∈ fs, y.length ≤ B) : (Txt.join "" fs).length ≤ fs.length * B := by
  have e : (Txt.join "" fs).length = (fs.map (·.length)).sum + (fs.length - 1) * (("" : Str)).length := size_glued "" fs
  rw [e, show (("" : Str)).length = 0 from rfl, Nat.mul_zero, Nat.add_zero]
  clear e
  induction fs with
  | nil => simp
  | cons x r ih =>
    have := ih fun y hy => h y (.tail _ hy)
    have := h x (.head _)
    rw [List.map_cons, List.sum_cons, List.length_cons, Nat.add_mul, Nat.one_mul]
    lia
theorem jB_nil (n : Nat) : jB n [] = [] := by cases n <;> rfl
theorem jB_one (n : Nat) : jB (n + 1) [none] = [(".*" : Str)] := rfl
theorem jB_two (n : Nat) (it : Option Nat) (r : List (Option Nat)) : jB (n + 1) (none :: it :: r) = if (spanS (it :: r)).2 = [] then [(".*" : Str), Txt.join "" (spanS (it :: r)).1] else (((("" : Str) ++ ("(?>.*?" : Str)) ++ Txt.join "" (spanS (it :: r)).1) ++ (")" : Str)) :: jB n (spanS (it :: r)).2 := rfl
inductive JI1 (l : List (Option Nat)) (a S R Bo : Addr) (m : Nat) (ρ : Rho) (σ : Led) : Prop
  | mk (i : _) (y1 : m = l.length - i) (y2 : i ≤ l.length) (y3 : ρ "inp" = some (.ref a)) (y4 : ρ "STAR" = some (.ref S)) (y5 : ρ "res" = some (.ref R)) (y6 : ρ "add" = some (.ref Bo)) (y7 : (∃ t, ρ "i" = some (.int i t))) (y8 : (∃ t, ρ "n" = some (.int l.length t))) (oR : _) (ss : _) (y9 : σ = [(Bo, bobj "list.append" (.ref R)), (R, oR)]) (y10 : SL oR ss) (y11 : ss.length ≤ 2 * i) (y12 : (∀ x ∈ ss, x.length ≤ 1100)) (y13 : (spanS l).1 = ss ++ (spanS (l.drop i)).1) (y14 : (spanS l).2 = (spanS (l.drop i)).2) : JI1 l a S R Bo m ρ σ
inductive JE1 (l : List (Option Nat)) (a S R Bo : Addr) (ρ : Rho) (σ : Led) : Prop
  | mk (i : _) (y1 : i ≤ l.length) (y2 : ρ "inp" = some (.ref a)) (y3 : ρ "STAR" = some (.ref S)) (y4 : ρ "res" = some (.ref R)) (y5 : ρ "add" = some (.ref Bo)) (y6 : (∃ t, ρ "i" = some (.int i t))) (y7 : (∃ t, ρ "n" = some (.int l.length t))) (oR : _) (ss : _) (y8 : σ = [(Bo, bobj "list.append" (.ref R)), (R, oR)]) (y9 : SL oR ss) (y10 : ss.length ≤ 2 * i) (y11 : (∀ x ∈ ss, x.length ≤ 1100)) (y12 : jA l = ss ++ jB l.length (l.drop i)) (y13 : (l.drop i = [] ∨ l[i]? = some none)) : JE1 l a S R Bo ρ σ
inductive JI2 (l : List (Option Nat)) (a S R Bo : Addr) (m : Nat) (ρ : Rho) (σ : Led) : Prop
  | mk (i : _) (fuel : _) (y1 : m = l.length - i) (y2 : l.length - i ≤ fuel) (y3 : i ≤ l.length) (y4 : ρ "inp" = some (.ref a)) (y5 : ρ "STAR" = some (.ref S)) (y6 : ρ "res" = some (.ref R)) (y7 : ρ "add" = some (.ref Bo)) (y8 : (∃ t, ρ "i" = some (.int i t))) (y9 : (∃ t, ρ "n" = some (.int l.length t))) (oR : _) (ss : _) (y10 : σ = [(Bo, bobj "list.append" (.ref R)), (R, oR)]) (y11 : SL oR ss) (y12 : ss.length ≤ 2 * i) (y13 : (∀ x ∈ ss, x.length ≤ 1100)) (y14 : jA l = ss ++ jB fuel (l.drop i)) (y15 : (l.drop i = [] ∨ l[i]? = some none)) : JI2 l a S R Bo m ρ σ
inductive JE2 (l : List (Option Nat)) (R : Addr) (ρ : Rho) (σ : Led) : Prop
  | mk (y1 : ρ "res" = some (.ref R)) (y2 : (∃ t, ρ "i" = some (.int l.length t))) (y3 : (∃ t, ρ "n" = some (.int l.length t))) (oR : _) (y4 : (R, oR) ∈ σ) (y5 : SL oR (jA l)) (y6 : (jA l).length ≤ 2 * l.length) (y7 : (∀ x ∈ jA l, x.length ≤ 1100)) : JE2 l R ρ σ
inductive JI3 (l r : List (Option Nat)) (a S R Bo Fx : Addr) (i : Nat) (oR' : Obj) (m : Nat) (ρ : Rho) (σ : Led) : Prop
  | mk (k : _) (y1 : m = l.length - k) (y2 : i + 1 ≤ k) (y3 : k ≤ l.length) (y4 : ρ "inp" = some (.ref a)) (y5 : ρ "STAR" = some (.ref S)) (y6 : ρ "res" = some (.ref R)) (y7 : ρ "add" = some (.ref Bo)) (y8 : ρ "fixed" = some (.ref Fx)) (y9 : (∃ t, ρ "i" = some (.int k t))) (y10 : (∃ t, ρ "n" = some (.int l.length t))) (oF : _) (fs : _) (y11 : σ = [(Fx, oF), (Bo, bobj "list.append" (.ref R)), (R, oR')]) (y12 : SL oF fs) (y13 : fs.length ≤ k) (y14 : (∀ x ∈ fs, x.length ≤ 1)) (y15 : (spanS r).1 = fs ++ (spanS (l.drop k)).1) (y16 : (spanS r).2 = (spanS (l.drop k)).2) : JI3 l r a S R Bo Fx i oR' m ρ σ
inductive JE3 (l r : List (Option Nat)) (a S R Bo Fx : Addr) (i : Nat) (oR' : Obj) (ρ : Rho) (σ : Led) : Prop
  | mk (k : _) (y1 : i + 1 ≤ k) (y2 : k ≤ l.length) (y3 : ρ "inp" = some (.ref a)) (y4 : ρ "STAR" = some (.ref S)) (y5 : ρ "res" = some (.ref R)) (y6 : ρ "add" = some (.ref Bo)) (y7 : ρ "fixed" = some (.ref Fx)) (y8 : (∃ t, ρ "i" = some (.int k t))) (y9 : (∃ t, ρ "n" = some (.int l.length t))) (oF : _) (y10 : σ = [(Fx, oF), (Bo, bobj "list.append" (.ref R)), (R, oR')]) (y11 : SL oF (spanS r).1) (y12 : (spanS r).1.length ≤ l.length) (y13 : (∀ x ∈ (spanS r).1, x.length ≤ 1)) (y14 : (spanS r).2 = l.drop k) (y15 : (l.drop k = [] ∨ l[k]? = some none)) : JE3 l r a S R Bo Fx i oR' ρ σ
theorem jn_spec {w : World} {loose : List Str} {mean : ExcName → Option Value} {mg mb : Str → Option Value} {a S : Addr} {o : Obj} {vs : List Value} {l : List (Option Nat)} {h₀ : Heap} (ha : h₀.get? a = some o) (hv : LObj o vs) (hal : Al (IV S) l vs) (hd : noDbl l) (hz : l.length ≤ 100) :
   PureC w loose mean mg mb 1 (.ref 132) [.ref a, .ref S] h₀ (fun tl v => ∃ t, v = .str (joinF l) t ∧ (joinF l).length ≤ 500000) := by
  refine enterP (k := 0) (binds := [("inp", .ref a), ("STAR", .ref S)]) (by k_is) (by k_is) (fun s _ => BindsTo.of_eq rfl) rfl ?_
  intro A L ρ O B
  have b1 := B "inp" _ rfl
  have b2 := B "STAR" _ rfl
  clear B
  have hh := O.hh
  have hl := hal.len
  walk_at "ws"
  refine ⟨by simp, fun R oR hR => ?_⟩
  walk_at "ws"
  refine w_boundAppend (.inl (.head _)) hR fun Bo => ?_
  walk_at "ws"
  with_reducible refine w_assign2 "i" "n" (by with_unfolding_all rfl) (by with_unfolding_all rfl) ?_
  walk_at "ws"
  refine W.lenL (.inr ha) hv (by lia) fun t1 => ?_
  walk_at "ws"
  refine ⟨by simp, fun T oT hT => ?_⟩
  refine ⟨T, oT, _, _, hh, rfl, .inl (.head _), hT, ?_⟩
  walk_at "ws"
  walk_at "un"
  with_reducible refine W.sub (σ' := [(Bo, bobj "list.append" (.ref R)), (R, oR)]) ?_ (.cons _ (.refl _))
  rw [hl]
  have get : ∀ i, i < l.length → ∃ it v, l[i]? = some it ∧ vs[i]? = some v ∧ IV S it v ∧ l.drop i = it :: l.drop (i + 1) := by
    intro i hi
    obtain ⟨v, g1, g2⟩ := hal.get' (List.getElem?_eq_getElem hi)
    exact ⟨_, v, List.getElem?_eq_getElem hi, g1, g2, List.drop_eq_getElem_cons hi⟩
  refine w_whileX (JI1 l a S R Bo)
    (JE1 l a S R Bo) (l.length - 0) ?_ ?_ ?_
  · exact ⟨0, rfl, by exact Nat.zero_le _, by walk_at "look", by walk_at "look", by walk_at "look", by walk_at "look", ⟨_, look_here⟩, ⟨_, by walk_at "look"⟩, oR, [], rfl, SL.nil hR, by simp, by simp, rfl, rfl⟩
  · rintro m ρ σ ⟨i, rfl, hi, c1, c2, c3, c4, ⟨t2, c5⟩, ⟨t3, c6⟩, oR', ss, rfl, hR', hlen, hel, e1, e2⟩
    walk_at "ws"
    by_cases hin : i < l.length
    · refine ite_t (by simpa using hin) ?_
      obtain ⟨it, v, g1, g2, g3, g4⟩ := get i hin
      walk_at "ws"
      refine w_item (.inr ha) hv (i := i) rfl g2 (by lia) ?_
      walk_at "ws"
      cases it with
      | none =>
        obtain rfl := g3
        with_reducible refine w_isNotSelf ?_
        walk_at "ws"
        refine ite_f (by decide) (ite_f (by decide) ⟨i, hi, c1, c2, c3, c4, ⟨t2, c5⟩, ⟨t3, c6⟩, oR', ss, rfl, hR', hlen, hel, ?_, .inr g1⟩)
        rw [g4, spanS_none] at e1 e2
        unfold jA
        rw [e1, e2, g4, List.append_nil]
      | some c =>
        obtain ⟨tv, rfl⟩ := g3
        refine w_isNotPlain (by rfl) ?_
        walk_at "ws"
        refine ite_t (by simp) ?_
        walk_at "ws"
        refine ite_t rfl ?_
        walk_at "ws"
        refine w_callBoundB (.head _) ?_ (by with_unfolding_all rfl) (by with_unfolding_all rfl)
        walk_at "ws"
        refine w_item (.inr ha) hv (i := i) rfl g2 (by lia) ?_
        walk_at "ws"
        obtain ⟨us, hus, hual⟩ := hR'.al
        refine ⟨.head _, w_addBound (.head _) hus (by rw [hual.len]; lia) (fun o' => .tail _ (.head _)) fun o' ho' => ?_⟩
        walk_at "ws"
        refine ⟨l.length - (i + 1), by exact Nat.sub_lt_sub_left (by assumption) (Nat.lt_succ_self _), i + 1, rfl, by assumption, by walk_at "look", by walk_at "look", by walk_at "look", by walk_at "look", ⟨_, look_here⟩, ⟨_, by walk_at "look"⟩, o', ss ++ [⟨#[c]⟩], rfl, SL.of ho' (hual.snoc ⟨_, rfl⟩), by simp; lia, ?_, ?_, ?_⟩
        · intro y hy
          rcases List.mem_append.mp hy with hy | hy
          · exact hel y hy
          · rw [List.mem_singleton.mp hy]; show (#[c] : Array Nat).size ≤ _; simp
        · rw [e1, g4, spanS_some]; simp
        · rw [e2, g4, spanS_some]
    · refine ite_f (by simpa using hin) (ite_f (by decide) ?_)
      have hdr : l.drop i = [] := List.drop_eq_nil_of_le (by lia)
      refine ⟨i, hi, c1, c2, c3, c4, ⟨t2, c5⟩, ⟨t3, c6⟩, oR', ss, rfl, hR', hlen, hel, ?_, .inl hdr⟩
      rw [hdr] at e1 e2
      unfold jA
      rw [e1, e2, hdr]
      show ss ++ [] ++ jB l.length [] = _
      rw [List.append_nil]
  · rintro ρ σ ⟨i, hi, c1, c2, c3, c4, ⟨t2, c5⟩, ⟨t3, c6⟩, oR', ss, rfl, hR', hlen, hel, ej, hst⟩
    walk_at "ws"
    refine w_whileX (JI2 l a S R Bo)
      (JE2 l R) (l.length - i) ?_ ?_ ?_
    · exact ⟨i, l.length, rfl, by simp, hi, c1, c2, c3, c4, ⟨t2, c5⟩, ⟨t3, c6⟩, oR', ss, rfl, hR', hlen, hel, ej, hst⟩
    · clear hst ej hel hlen hR' c1 c2 c3 c4 c5 c6 hi
      rintro m ρ σ ⟨i, fuel, rfl, hfu, hi, c1, c2, c3, c4, ⟨t2, c5⟩, ⟨t3, c6⟩, oR', ss, rfl, hR', hlen, hel, ej, hst⟩
      obtain ⟨us, hus, hual⟩ := hR'.al
      walk_at "ws"
      by_cases hin : i < l.length
      · refine ite_t (by simpa using hin) ?_
        obtain ⟨it, v, g1, g2, g3, g4⟩ := get i hin
        have : it = none := by
          rcases hst with h | h
          · rw [g4] at h; cases h
          · rw [g1] at h; exact Option.some.inj h
        subst this
        obtain rfl := g3
        obtain ⟨fuel, rfl⟩ : ∃ f, fuel = f + 1 := ⟨fuel - 1, ar_f (by assumption) (by assumption)⟩
        walk_at "ws"
        refine w_item (.inr ha) hv (i := i) rfl g2 (by lia) ?_
        walk_at "ws"
        with_reducible refine w_isSelf ?_
        walk_at "ws"
        refine ⟨rfl, ?_⟩
        walk_at "ws"
        by_cases hend : i + 1 = l.length
        · refine ite_t (by simp only [beq_iff_eq]; lia) ?_
          walk_at "ws"
          refine w_callBoundB (.head _) ?_ (by with_unfolding_all rfl) (by with_unfolding_all rfl)
          walk_at "ws"
          refine ⟨.head _, w_addBound (.head _) hus (by rw [hual.len]; lia) (fun o' => .tail _ (.head _)) fun o' ho' => ?_⟩
          walk_at "ws"
          have hdr : l.drop (i + 1) = [] := List.drop_eq_nil_of_le (by lia)
          have ej' : jA l = ss ++ [(".*" : Str)] := by rw [ej, g4, hdr, jB_one]
          refine ⟨by walk_at "look", ⟨_, by rw [← hend]; exact look_here⟩, ⟨_, by walk_at "look"⟩, o', .tail _ (.head _), ?_, ?_, ?_⟩
          · rw [ej']; exact SL.of ho' (hual.snoc ⟨_, rfl⟩)
          · rw [ej']; simp; lia
          · rw [ej']
            intro y hy
            rcases List.mem_append.mp hy with hy | hy
            · exact hel y hy
            · rw [List.mem_singleton.mp hy]; decide
        · refine ite_f (by simp only [beq_iff_eq]; lia) ?_
          obtain ⟨it, v, k1, k2, k3, k4⟩ := get (i + 1) (by lia)
          cases it with
          | none => exact absurd k1 (hd i g1)
          | some c =>
            obtain ⟨tv, rfl⟩ := k3
            walk_at "ws"
            refine w_item (.inr ha) hv (i := i + 1) (by simp) k2 (by lia) ?_
            walk_at "ws"
            refine w_isNotPlain (by rfl) ?_
            walk_at "ws"
            refine ⟨by simp, ?_⟩
            walk_at "ws"
            refine ⟨by simp, fun Fx oF hF => ?_⟩
            walk_at "ws"
            generalize hr : l.drop (i + 1) = r at *
            refine w_whileX (JI3 l r a S R Bo Fx i oR')
              (JE3 l r a S R Bo Fx i oR') (l.length - (i + 1)) ?_ ?_ ?_
            · exact ⟨i + 1, rfl, Nat.le_refl _, by assumption, by walk_at "look", by walk_at "look", by walk_at "look", by walk_at "look", by walk_at "look", ⟨_, look_there (by decide) look_here⟩, ⟨_, by walk_at "look"⟩, oF, [], rfl, SL.nil hF, by simp, by simp, by rw [hr]; rfl, by rw [hr]⟩
            · rintro m ρ σ ⟨k, rfl, hik, hk, d1, d2, d3, d4, d5, ⟨t5, d6⟩, ⟨t6, d7⟩, oF', fs, rfl, hF', hfl, hfe, s1, s2⟩
              walk_at "ws"
              by_cases hkn : k < l.length
              · refine ite_t (by simpa using hkn) ?_
                obtain ⟨it, v, q1, q2, q3, q4⟩ := get k hkn
                walk_at "ws"
                refine w_item (.inr ha) hv (i := k) rfl q2 (by lia) ?_
                walk_at "ws"
                cases it with
                | none =>
                  obtain rfl := q3
                  with_reducible refine w_isNotSelf ?_
                  walk_at "ws"
                  rw [q4, spanS_none] at s1 s2
                  rw [List.append_nil] at s1
                  refine ite_f (by decide) (ite_f (by decide) ⟨k, hik, hk, d1, d2, d3, d4, d5, ⟨t5, d6⟩, ⟨t6, d7⟩, oF', rfl, s1 ▸ hF', by rw [s1]; exact Nat.le_trans (by assumption) (by assumption), s1 ▸ hfe, by rw [s2, q4], .inr q1⟩)
                | some c =>
                  obtain ⟨tv, rfl⟩ := q3
                  refine w_isNotPlain (by rfl) ?_
                  walk_at "ws"
                  refine ite_t (by simp) ?_
                  walk_at "ws"
                  refine ite_t rfl ?_
                  walk_at "ws"
                  refine w_gm_sappend (.inl (.head _)) hF' ?_
                  walk_at "ws"
                  refine w_item (.inr ha) hv (i := k) rfl q2 (by lia) ?_
                  walk_at "ws"
                  with_reducible refine w_appSL hF' (by lia) (fun o' => .head _) fun oF2 hF2 => ?_
                  walk_at "ws"
                  refine ⟨l.length - (k + 1), Nat.sub_lt_sub_left (by assumption) (Nat.lt_succ_self _), k + 1, rfl, by lia, by lia, by walk_at "look", by walk_at "look", by walk_at "look", by walk_at "look", by walk_at "look", ⟨_, look_here⟩, ⟨_, by walk_at "look"⟩, oF2, _, rfl, hF2, by simp; omega, ?_, ?_, ?_⟩
                  · intro y hy
                    rcases List.mem_append.mp hy with hy | hy
                    · exact hfe y hy
                    · rw [List.mem_singleton.mp hy]; show (#[c] : Array Nat).size ≤ _; simp
                  · rw [s1, q4, spanS_some]; simp
                  · rw [s2, q4, spanS_some]
              · refine ite_f (by simpa using hkn) (ite_f (by decide) ?_)
                have hdr : l.drop k = [] := List.drop_eq_nil_of_le (by lia)
                rw [hdr] at s1 s2
                have s1 : (spanS r).1 = fs := by rw [s1]; exact List.append_nil _
                have s2 : (spanS r).2 = [] := s2
                exact ⟨k, hik, hk, d1, d2, d3, d4, d5, ⟨t5, d6⟩, ⟨t6, d7⟩, oF', rfl, s1 ▸ hF', by rw [s1]; exact Nat.le_trans (by assumption) (by assumption), s1 ▸ hfe, by rw [s2, hdr], .inl hdr⟩
            · rintro ρ σ ⟨k, hik, hk, d1, d2, d3, d4, d5, ⟨t5, d6⟩, ⟨t6, d7⟩, oF', rfl, hF', hfl, hfe, s2, hst2⟩
              have hjl := join_le hfe
              have ejj : jA l = ss ++ jB (fuel + 1) (none :: r) := by rw [ej, g4]
              rw [show r = some c :: l.drop (i + 1 + 1) from hr ▸ k4] at ejj
              rw [jB_two, ← (show r = some c :: l.drop (i + 1 + 1) from hr ▸ k4)] at ejj
              generalize spanS r = sp at *
              obtain ⟨fx, rst⟩ := sp
              dsimp only at *
              obtain ⟨lf, hlf, elf⟩ := hF'
              walk_at "ws"
              refine w_join (l := lf) (B := 1) (.inl (.head _)) hlf (by rw [elf]; exact hfe) (by rw [elf, show (("" : Str)).length = 0 from rfl]; lia) fun t7 => ?_
              rw [elf]
              generalize Txt.join "" fx = jn at *
              walk_at "ws"
              by_cases hend2 : k = l.length
              · have hrst : rst = [] := by rw [s2, hend2, List.drop_length]
                rw [if_pos hrst] at ejj
                refine ite_t (by simp only [beq_iff_eq]; lia) ?_
                walk_at "ws"
                refine w_callBoundB (.tail _ (.head _)) ?_ (by with_unfolding_all rfl) (by with_unfolding_all rfl)
                walk_at "ws"
                refine ⟨.tail _ (.head _), w_addBound (.tail _ (.head _)) hus (by rw [hual.len]; lia) (fun o' => .tail _ (.tail _ (.head _))) fun o1 ho1 => ?_⟩
                walk_at "ws"
                refine w_callBoundB (.tail _ (.head _)) ?_ (by with_unfolding_all rfl) (by with_unfolding_all rfl)
                walk_at "ws"
                refine ⟨.tail _ (.head _), w_addBound (.tail _ (.head _)) ho1 (by simp [hual.len]; lia) (fun o' => .tail _ (.tail _ (.head _))) fun o2 ho2 => ?_⟩
                walk_at "un"
                with_reducible refine W.sub (σ' := [(Bo, bobj "list.append" (.ref R)), (R, o2)]) ?_ (.cons _ (.refl _))
                walk_at "ws"
                refine ⟨l.length - k, by lia, k, 0, rfl, by lia, by omega, by walk_at "look", by walk_at "look", by walk_at "look", by walk_at "look", ⟨_, by walk_at "look"⟩, ⟨_, by walk_at "look"⟩, o2, (ss ++ [(".*" : Str)]) ++ [jn], rfl, SL.of ho2 ((hual.snoc ⟨_, rfl⟩).snoc ⟨_, rfl⟩), by simp; lia, ?_, ?_, .inl (by rw [hend2, List.drop_length])⟩
                · intro y hy
                  rcases List.mem_append.mp hy with hy | hy
                  · rcases List.mem_append.mp hy with hy | hy
                    · exact hel y hy
                    · rw [List.mem_singleton.mp hy]; decide
                  · rw [List.mem_singleton.mp hy]; lia
                · rw [ejj, hend2, List.drop_length, jB_nil]; simp
              · have hrst : ¬ rst = [] := by
                  rw [s2]
                  intro e
                  have := congrArg List.length e
                  rw [List.length_drop] at this
                  simp at this
                  lia
                rw [if_neg hrst] at ejj
                refine ite_f (by simp only [beq_iff_eq]; lia) ?_
                walk_at "ws"
                refine w_callBoundB (.tail _ (.head _)) ?_ (by with_unfolding_all rfl) (by with_unfolding_all rfl)
                walk_at "ws"
                have z0 : (Str.empty).length = 0 := rfl
                have z1 : (("(?>.*?" : Str)).length = 6 := rfl
                have z2 : ((")" : Str)).length = 1 := rfl
                have zj : jn.length ≤ 100 := by lia
                refine ⟨_, _, rfl, by rw [Str.length_append]; exact Nat.le_add_left _ _, ?_⟩
                walk_at "ws"
                refine ⟨jn, _, rfl, Nat.le_trans zj (by decide), fun t8 => ⟨_, _, rfl, by rw [Str.length_append, Str.length_append]; exact f2 zj (Nat.le_of_ble_eq_true rfl), ?_⟩⟩
                walk_at "ws"
                refine ⟨_, _, rfl, by rw [Str.length_append, Str.length_append, Str.length_append]; exact f3 zj (Nat.le_of_ble_eq_true rfl), ?_⟩
                walk_at "ws"
                intro t9
                walk_at "ws"
                refine ⟨.tail _ (.head _), w_addBound (.tail _ (.head _)) hus (by rw [hual.len]; lia) (fun o' => .tail _ (.tail _ (.head _))) fun o1 ho1 => ?_⟩
                walk_at "un"
                with_reducible refine W.sub (σ' := [(Bo, bobj "list.append" (.ref R)), (R, o1)]) ?_ (.cons _ (.refl _))
                walk_at "ws"
                refine ⟨l.length - k, by lia, k, fuel, rfl, by grind, by omega, by walk_at "look", by walk_at "look", by walk_at "look", by walk_at "look", ⟨_, by walk_at "look"⟩, ⟨_, by walk_at "look"⟩, o1, _, rfl, SL.of ho1 (hual.snoc ⟨_, rfl⟩), by simp; lia, ?_, ?_, hst2⟩
                · intro y hy
                  rcases List.mem_append.mp hy with hy | hy
                  · exact hel y hy
                  · rw [List.mem_singleton.mp hy, Str.length_append, Str.length_append, Str.length_append]; exact f3 zj (Nat.le_of_ble_eq_true rfl)
                · rw [ejj, s2]
                  show ss ++ _ = ss ++ [_] ++ _
                  rw [List.append_assoc]; rfl
      · refine ite_f (by simpa using hin) ?_
        obtain rfl : i = l.length := by lia
        rw [List.drop_length, jB_nil, List.append_nil] at ej
        exact ⟨c3, ⟨t2, c5⟩, ⟨t3, c6⟩, oR', .tail _ (.head _), ej ▸ hR', ej ▸ hlen, ej ▸ hel⟩
    · rintro ρ σ ⟨c3, ⟨t2, c5⟩, ⟨t3, c6⟩, oR', hm, hR', hlen, hel⟩
      walk_at "ws"
      refine ⟨by simp, ?_⟩
      walk_at "ws"
      obtain ⟨us, hus, hual⟩ := hR'.al
      obtain ⟨lf, hlf, elf⟩ := hR'
      have hjl := join_le hel
      refine w_join (l := lf) (B := 1100) (.inl hm) hlf (by rw [elf]; exact hel) (by rw [elf, show (("" : Str)).length = 0 from rfl]; lia) fun t7 => ?_
      rw [elf]
      have ejf : joinF l = (("" : Str) ++ ("(?s:" : Str) ++ Txt.join "" (jA l)) ++ (")\\Z" : Str) := rfl
      generalize Txt.join "" (jA l) = jn at *
      walk_at "ws"
      have z0 : (Str.empty).length = 0 := rfl
      have z1 : (("(?s:" : Str)).length = 4 := rfl
      have z2 : ((")\\Z" : Str)).length = 3 := rfl
      have zj : jn.length ≤ 220000 := by lia
      refine ⟨_, _, rfl, by rw [Str.length_append]; exact Nat.le_add_left _ _, ?_⟩
      walk_at "ws"
      refine ⟨jn, _, rfl, Nat.le_trans zj (by decide), fun t8 => ⟨_, _, rfl, by rw [Str.length_append, Str.length_append]; exact f2 zj (Nat.le_of_ble_eq_true rfl), ?_⟩⟩
      walk_at "ws"
      refine ⟨_, _, rfl, by rw [Str.length_append, Str.length_append, Str.length_append]; exact f3 zj (Nat.le_of_ble_eq_true rfl), ?_⟩
      walk_at "ws"
      intro t9
      walk_at "ws"
      exact ⟨_, List.nil_sublist _, t9, by rw [ejf]; rfl, by rw [ejf, Str.length_append, Str.length_append, Str.length_append, show (("" : Str)).length = 0 from rfl]; exact f3 zj (Nat.le_of_ble_eq_true rfl)⟩
end
section
theorem trStep_last (acc : List (Option Nat)) (c : Nat) (h : noDbl acc) : noDbl (trStep acc c) := by
  have app : ∀ a : Option Nat, (a = none → acc.getLast? ≠ some none) → noDbl (acc ++ [a]) := by
    intro a ha i hi hi2
    by_cases h1 : i + 1 < acc.length
    · rw [List.getElem?_append_left (by exact Nat.le_of_lt (by assumption))] at hi
      rw [List.getElem?_append_left h1] at hi2
      exact h i hi hi2
    · by_cases h2 : i + 1 = acc.length
      · rw [List.getElem?_append_right (by lia), h2, Nat.sub_self] at hi2
        have : a = none := by simpa using hi2
        refine ha this ?_
        rw [List.getElem?_append_left (by lia)] at hi
        rw [List.getLast?_eq_getElem?, show acc.length - 1 = i by lia]
        exact hi
      · rw [List.getElem?_append_right (by lia)] at hi2
        rw [List.getElem?_eq_none (by simp; lia)] at hi2
        cases hi2
  unfold trStep
  split
  · split
    · exact h
    · rename_i h1
      exact app none fun _ => h1
  · exact app _ fun e => nomatch e
theorem tr_noDbl (l : List Nat) : noDbl (trF l) := by
  have : ∀ (l : List Nat) acc, noDbl acc → noDbl (l.foldl trStep acc) := by
    intro l
    induction l with
    | nil => intro acc h; exact h
    | cons c r ih => intro acc h; exact ih _ (trStep_last acc c h)
  exact this l [] (fun i h => by simp at h)
theorem tr_len (l : List Nat) : (trF l).length ≤ l.length := by
  have : ∀ (l : List Nat) acc, (l.foldl trStep acc).length ≤ acc.length + l.length := by
    intro l
    induction l with
    | nil => intro acc; simp
    | cons c r ih =>
      intro acc
      have h1 := ih (trStep acc c)
      have h2 := trStep_len acc c
      rw [List.foldl_cons, List.length_cons]
      lia
  have := this l []
  simpa [trF] using this
noncomputable def transF (x : Str) : Str := joinF (trF x.cps.toList)
theorem trans_spec {w : World} {loose : List Str} {mean : ExcName → Option Value} {mg mb : Str → Option Value} {x : Str} {tx : Tok} {h₀ : Heap} (hx : ∀ c ∈ x.cps.toList, c = 42 ∨ lettr c = true) (hz : x.length ≤ 100) :
   PureC w loose mean mg mb 3 (.ref 118) [.str x tx] h₀ (fun tl v => ∃ t, v = .str (transF x) t ∧ (transF x).length ≤ 500000) := by
  refine enterP (k := 2) (binds := [("pat", .str x tx)]) (by k_is) (by k_is) (fun s _ => BindsTo.of_eq rfl) rfl ?_
  intro A L ρ O B
  have b1 := B "pat" _ rfl
  clear B
  have hh := O.hh
  walk_at "ws"
  with_reducible refine w_callT0 (w_object fun S => ?_)
  walk_at "ws"
  with_reducible refine W.pureC O (fun h _ => tr_spec hx (by exact Nat.le_trans (by assumption) (by decide))) (Nat.le_refl _) ?_
  rintro _ tl ⟨R, oR, vs, rfl, rfl, hR, hal⟩
  walk_at "ws"
  have hlen := tr_len x.cps.toList
  rw [Array.length_toList] at hlen
  refine W.pureC O (fun h F => jn_spec (F.get (.head _)) hR hal (tr_noDbl _) (Nat.le_trans hlen hz)) (by decide) ?_
  rintro _ tl ⟨t, rfl, hb⟩
  walk_at "ws"
  exact ⟨_, List.nil_sublist _, t, rfl, hb⟩
noncomputable def bodyF (x : Str) : Str := if (sliceT (transF x) none (some 4) == ("(?s:" : Str) && sliceT (transF x) (some (-3)) none == (")\\Z" : Str)) = true then sliceT (transF x) (some 4) (some (-3)) else "refused"
theorem body_spec {w : World} {loose : List Str} {mean : ExcName → Option Value} {mg mb : Str → Option Value} {x : Str} {tx : Tok} {h₀ : Heap} (hx : ∀ c ∈ x.cps.toList, c = 42 ∨ lettr c = true) (hz : x.length ≤ 100) :
   PureC w loose mean mg mb 4 (.ref 298) [.str x tx] h₀ (fun tl v => ∃ t, v = .str (bodyF x) t) := by
  refine enterP (k := 3) (binds := [("pattern", .str x tx)]) (by k_is) (by k_is) (fun s _ => BindsTo.of_eq rfl) rfl ?_
  intro A L ρ O B
  have b1 := B "pattern" _ rfl
  clear B
  have hh := O.hh
  walk_at "ws"
  with_reducible refine W.pureC O (fun h _ => trans_spec hx hz) (Nat.le_refl _) ?_
  rintro _ tl ⟨t, rfl, hb⟩
  have eb : bodyF x = if (sliceT (transF x) none (some 4) == ("(?s:" : Str) && sliceT (transF x) (some (-3)) none == (")\\Z" : Str)) = true then sliceT (transF x) (some 4) (some (-3)) else "refused" := rfl
  generalize transF x = y at *
  walk_at "ws"
  intro I1 oi1 hs1
  with_reducible refine w_subSlS none (some (_, _)) hs1 rfl rfl (by exact Nat.le_trans (by assumption) (by decide)) fun t1 => ?_
  walk_at "ws"
  cases q1 : (sliceT y none (some 4) == ("(?s:" : Str)) with
  | false =>
    refine ite_f (by simpa using q1) (ite_f (by decide) ?_)
    walk_at "ws"
    refine ⟨_, List.nil_sublist _, _, by rw [eb, q1]; rfl⟩
  | true =>
    refine ite_t (by simpa using q1) ?_
    walk_at "ws"
    intro I2 oi2 hs2
    with_reducible refine w_subSlS (some (_, _)) none hs2 rfl rfl (by lia) fun t2 => ?_
    walk_at "ws"
    cases q2 : (sliceT y (some (-3)) none == (")\\Z" : Str)) with
    | false =>
      refine ite_f (by simpa using q2) ?_
      walk_at "ws"
      refine ite_f (by decide) ?_
      walk_at "ws"
      refine ⟨_, List.nil_sublist _, _, by rw [eb, q1, q2]; rfl⟩
    | true =>
      refine ite_t (by simpa using q2) ?_
      walk_at "ws"
      refine ite_t rfl ?_
      walk_at "ws"
      intro I3 oi3 hs3
      with_reducible refine w_subSlS (some (_, _)) (some (_, _)) hs3 rfl rfl (by lia) fun t3 => ?_
      walk_at "ws"
      refine ⟨_, List.nil_sublist _, t3, by rw [eb, q1, q2]; rfl⟩
end
section
/-- an Entry's own dict -/
noncomputable def eEs (w : World) (t1 t2 t3 t4 : Tok) (a b c d : Value) : List DictEntry :=
  [⟨PyData.keyHash w.params "useragents", .str "useragents" t1, a⟩, ⟨PyData.keyHash w.params "rulelines", .str "rulelines" t2, b⟩, ⟨PyData.keyHash w.params "delay", .str "delay" t3, c⟩, ⟨PyData.keyHash w.params "req_rate", .str "req_rate" t4, d⟩]
theorem entry_init {w : World} {loose : List Str} {mean : ExcName → Option Value} {mg mb : Str → Option Value} {x dx : Addr} {h₀ : Heap} :
   MutC w loose mean mg mb 1 (.ref 52) [.ref x] h₀ [(x, instObj 76 dx), (dx, emptyDict)] (fun tl v => v = .none ∧ ∃ U R oU oR t1 t2 t3 t4, tl = [(R, oR), (U, oU), (x, instObj 76 dx), (dx, dictOf (eEs w t1 t2 t3 t4 (.ref U) (.ref R) .none .none) 4)] ∧ LObj oU [] ∧ LObj oR []) := by
  refine enterP (k := 0) (binds := [("self", .ref x)]) (by k_is) (by k_is) (fun s _ => BindsTo.of_eq rfl) rfl ?_
  intro A L ρ O B
  have b1 := B "self" _ rfl
  clear B
  have hh := O.hh
  walk_at "ws"
  refine ⟨by simp, fun U oU hU => ?_⟩
  walk_at "ws"
  refine w_setDict (es := []) (n := 0) O (.inl (.tail _ (.head _))) (fun o' => .tail _ (.tail _ (.head _))) (by k_is) (by k_is) (by k_is) (by k_is) (by rfl) (by simp) fun t1 => ?_
  walk_at "ws"
  refine ⟨by simp, fun R oR hR => ?_⟩
  walk_at "ws"
  refine w_setDict O (.inl (.tail _ (.tail _ (.head _)))) (fun o' => .tail _ (.tail _ (.tail _ (.head _)))) (by k_is) (by k_is) (by k_is) (by k_is) (by rfl) (Nat.le_of_ble_eq_true rfl) fun t2 => ?_
  walk_at "ws"
  refine w_setDict O (.inl (.tail _ (.tail _ (.head _)))) (fun o' => .tail _ (.tail _ (.tail _ (.head _)))) (by k_is) (by k_is) (by k_is) (by k_is) (by rfl) (Nat.le_of_ble_eq_true rfl) fun t3 => ?_
  walk_at "ws"
  refine w_setDict O (.inl (.tail _ (.tail _ (.head _)))) (fun o' => .tail _ (.tail _ (.tail _ (.head _)))) (by k_is) (by k_is) (by k_is) (by k_is) (by rfl) (Nat.le_of_ble_eq_true rfl) fun t4 => ?_
  walk_at "ws"
  exact ⟨_, .refl _, rfl, U, R, oU, oR, t1, t2, t3, t4, rfl, hU, hR⟩
/-- Entry() -/
theorem w_entry {w : World} {loose : List Str} {mean : ExcName → Option Value} {mg mb : Str → Option Value} {need : Nat} {A : Around} {h₀ : Heap} {env : Env} {ρ : Rho} {σ : Led} {Q : Value → Rho → Led → Prop} (O : Ok w loose mean mg mb need A env h₀) (hn : 2 ≤ need)
    (h : ∀ x dx U R oU oR t1 t2 t3 t4, LObj oU [] → LObj oR [] → Q (.ref x) ρ ([(R, oR), (U, oU), (x, instObj 76 dx), (dx, dictOf (eEs w t1 t2 t3 t4 (.ref U) (.ref R) .none .none) 4)] ++ σ)) : W w A h₀ env ρ σ (PySem.call (.ref 76) []) Q := by
  refine w_make (k := 1) (fI := 52) (P := fun x tl => ∃ dx U R oU oR t1 t2 t3 t4, tl = [(R, oR), (U, oU), (x, instObj 76 dx), (dx, dictOf (eEs w t1 t2 t3 t4 (.ref U) (.ref R) .none .none) 4)] ∧ LObj oU [] ∧ LObj oR []) O (by k_is) (by k_is) (by k_is) ?_ hn ?_
  · intro x dx h' _ _ dp un gd fr s RR h1 h2 h3 h4 h5 h6
    refine entry_init dp un gd fr s RR h1 h2 h3 h4 h5 fun v tl h' tk a b c q => h6 v tl h' tk a b c ⟨q.1, dx, q.2⟩
  · rintro x tl ⟨dx, U, R, oU, oR, t1, t2, t3, t4, rfl, hU, hR⟩
    exact h x dx U R oU oR t1 t2 t3 t4 hU hR
end
section
/-- an Entry, its lists of texts told; `K` knows the objects -/
inductive EntK (w : World) (K : Addr → Obj → Prop) (x : Addr) (us ls : List Str) : Prop
  | mk (dx : _) (U : _) (R : _) (oU : _) (oR : _) (t1 : _) (t2 : _) (t3 : _) (t4 : _) (n : _) (y1 : K x (instObj 76 dx)) (y2 : K dx (dictOf (eEs w t1 t2 t3 t4 (.ref U) (.ref R) .none .none) n)) (y3 : K U oU) (y4 : K R oR) (y5 : SL oU us) (y6 : SL oR ls) (y7 : U ≠ R) : EntK w K x us ls
theorem EntK.mono {w : World} {K K' : Addr → Obj → Prop} {x : Addr} {us ls : List Str} (h : EntK w K x us ls) (hk : ∀ a o, K a o → K' a o) : EntK w K' x us ls := by
  obtain ⟨dx, U, R, oU, oR, t1, t2, t3, t4, n, a, b, c, d, e, f, g⟩ := h
  exact ⟨dx, U, R, oU, oR, t1, t2, t3, t4, n, hk _ _ a, hk _ _ b, hk _ _ c, hk _ _ d, e, f, g⟩
theorem merge_spec {w : World} {loose : List Str} {mean : ExcName → Option Value} {mg mb : Str → Option Value} {a b : Addr} {us1 ls1 us2 ls2 : List Str} {h₀ : Heap} (h1 : EntK w (fun a o => h₀.get? a = some o) a us1 ls1) (h2 : EntK w (fun a o => h₀.get? a = some o) b us2 ls2)
    (z1 : us1.length ≤ 90) (z2 : us2.length ≤ 90) (z3 : ls1.length + ls2.length ≤ 1000) :
   PureC w loose mean mg mb 3 (.ref 106) [.ref a, .ref b] h₀ (fun tl v => ∃ x, v = .ref x ∧ EntK w (fun a o => (a, o) ∈ tl) x (us1.filter fun k => us2.any (· == k)) (ls1 ++ ls2)) := by
  obtain ⟨dx, U, R, oU, oR, t1, t2, t3, t4, n, a1, a2, a3, a4, a5, a6, _⟩ := h1
  obtain ⟨dy, V, S, oV, oS, u1, u2, u3, u4, n', b1, b2, b3, b4, b5, b6, _⟩ := h2
  refine enterP (k := 2) (binds := [("e1", .ref a), ("e2", .ref b)]) (by k_is) (by k_is) (fun s _ => BindsTo.of_eq rfl) rfl ?_
  intro A L ρ O B
  have l1 := B "e1" _ rfl
  have l2 := B "e2" _ rfl
  clear B
  have hh := O.hh
  walk_at "ws"
  with_reducible refine w_entry O (by decide) fun x dx' U' R' oU' oR' v1 v2 v3 v4 hU' hR' => ?_
  walk_at "ws"
  refine w_getOwn O (.inr b1) (.inr b2) (by k_is) (by k_is) (by k_is) (by k_is) (by rfl) (by rfl) ?_
  walk_at "ws"
  refine w_setOfSL hh (.inr b3) b5 z2 fun D oD c hD => ?_
  walk_at "ws"
  refine w_boundContains (.inl (.head _)) hD fun B => ?_
  walk_at "ws"
  refine w_getOwn O (.inr a1) (.inr a2) (by k_is) (by k_is) (by k_is) (by k_is) (by rfl) (by rfl) ?_
  walk_at "ws"
  obtain ⟨vs1, hv1, hal1⟩ := a5.al
  refine w_filter (.inr a3) hv1 fun M I oi hI => ?_
  walk_at "ws"
  refine w_listOfFilter hh hI a5 (.inr a3) (.inl (.head _)) (.inl (.tail _ (.head _))) hD (by exact Nat.le_trans (by assumption) (by decide)) fun E oE hE => ?_
  walk_at "ws"
  walk_at "un"
  with_reducible refine W.sub ?_ (.cons_cons _ (.cons _ (.cons _ (.refl _))))
  refine w_setDict O (.inl (by walk_at "mem")) (fun o' => .tail _ (.tail _ (.tail _ (.tail _ (.head _))))) (by k_is) (by k_is) (by k_is) (by k_is) (by rfl) (Nat.le_of_ble_eq_true rfl) fun t5 => ?_
  walk_at "ws"
  refine w_getOwn O (.inr a1) (.inr a2) (by k_is) (by k_is) (by k_is) (by k_is) (by rfl) (by rfl) ?_
  walk_at "ws"
  refine w_getOwn O (.inr b1) (.inr b2) (by k_is) (by k_is) (by k_is) (by k_is) (by rfl) (by rfl) ?_
  walk_at "ws"
  obtain ⟨l1', e1', e1⟩ := a6
  obtain ⟨l2', e2', e2⟩ := b6
  have len1 := congrArg List.length e1
  have len2 := congrArg List.length e2
  rw [List.length_map] at len1 len2
  refine w_addL (.inr a4) (.inr b4) e1' e2' (by rw [strValues_len, strValues_len]; lia) fun F oF hF => ?_
  walk_at "ws"
  refine w_setDict O (.inl (by walk_at "mem")) (fun o' => .tail _ (.tail _ (.tail _ (.tail _ (.tail _ (.head _)))))) (by k_is) (by k_is) (by k_is) (by k_is) (by rfl) (Nat.le_of_ble_eq_true rfl) fun t6 => ?_
  walk_at "ws"
  refine w_getOwn O (.inr b1) (.inr b2) (by k_is) (by k_is) (by k_is) (by k_is) (by rfl) (by rfl) ?_
  walk_at "ws"
  refine ite_t rfl ?_
  walk_at "ws"
  refine w_getOwn O (.inr a1) (.inr a2) (by k_is) (by k_is) (by k_is) (by k_is) (by rfl) (by rfl) ?_
  walk_at "ws"
  refine w_setDict O (.inl (by walk_at "mem")) (fun o' => .tail _ (.tail _ (.tail _ (.tail _ (.tail _ (.head _)))))) (by k_is) (by k_is) (by k_is) (by k_is) (by rfl) (Nat.le_of_ble_eq_true rfl) fun t7 => ?_
  walk_at "ws"
  refine w_getOwn O (.inr b1) (.inr b2) (by k_is) (by k_is) (by k_is) (by k_is) (by rfl) (by rfl) ?_
  walk_at "ws"
  refine ite_t rfl ?_
  walk_at "ws"
  refine w_getOwn O (.inr a1) (.inr a2) (by k_is) (by k_is) (by k_is) (by k_is) (by rfl) (by rfl) ?_
  walk_at "ws"
  refine w_setDict O (.inl (by walk_at "mem")) (fun o' => .tail _ (.tail _ (.tail _ (.tail _ (.tail _ (.head _)))))) (by k_is) (by k_is) (by k_is) (by k_is) (by rfl) (Nat.le_of_ble_eq_true rfl) fun t8 => ?_
  walk_at "un"
  with_reducible refine W.nd fun hnd => ?_
  walk_at "ws"
  refine ⟨_, .refl _, x, rfl, dx', E, F, oE, oF, v1, v2, v3, v4, _, by walk_at "mem", by walk_at "mem", by walk_at "mem", by walk_at "mem", hE, ⟨l1' ++ l2', by rw [strValues_app]; exact hF, by rw [List.map_append, e1, e2]⟩, ?_⟩
  simp only [List.map_cons, List.nodup_cons, List.mem_cons, not_or] at hnd
  exact Ne.symm hnd.1.1
end
section
theorem MutC.mono {w : World} {loose : List Str} {mean : ExcName → Option Value} {mg mb : Str → Option Value} {k : Nat} {f : Value} {args : List Value} {h₀ : Heap} {σ₀ : Led} {P P' : Led → Value → Prop} (C : MutC w loose mean mg mb k f args h₀ σ₀ P) (hP : ∀ tl v, P tl v → P' tl v) : MutC w loose mean mg mb k f args h₀ σ₀ P' :=
  fun dp un gd fr s R h1 h2 h3 h4 h5 h6 => C dp un gd fr s R h1 h2 h3 h4 h5 fun v tl h' tk a b c p => h6 v tl h' tk a b c (hP tl v p)
noncomputable def SLW (o : Obj) (ss : List Str) : Prop := ∃ vs, LW o vs ∧ Al IsS ss vs
theorem Al.set {α : Type} {V : α → Value → Prop} {x : α} {v : Value} {xs : List α} {vs : List Value} (i : Nat) (r : Al V xs vs) (h : V x v) : Al V (xs.set i x) (vs.set i v) := by
  induction r generalizing i with
  | nil => exact .nil
  | cons a r ih =>
    cases i with
    | zero => exact .cons h r
    | succ i => exact .cons a (ih i)
theorem w_joinW {w : World} {A : Around} {h₀ : Heap} {env : Env} {ρ : Rho} {σ : Led} {x : Str} {t : Tok} {Q : Value → Rho → Led → Prop} {D : Addr} {o : Obj} {ss : List Str} {B : Nat} (hk : Kn h₀ σ D o) (hl : SLW o ss) (hB : ∀ y ∈ ss, y.length ≤ B) (hn : ss.length * B + ss.length * x.length ≤ 16777216)
    (h : ∀ t', Q (.str (Txt.join x ss) t') ρ σ) : W w A h₀ env ρ σ (PySem.call (.builtin "str.join") [.str x t, .ref D]) Q := fun s ht F => by
  obtain ⟨vs, hl, al⟩ := hl
  obtain ⟨l, rfl, rfl⟩ := strs_al al
  exact SC.join (hl.isList (F.kn hk)) rfl (by unfold JoinOk; rw [StrLaws.joinFits hB hn]; rfl) fun t' k => ⟨ρ, σ, s.heap, k, rfl, F, h t'⟩
theorem w_itemW {w : World} {A : Around} {h₀ : Heap} {env : Env} {ρ : Rho} {σ : Led} {a : Addr} {o : Obj} {vs : List Value} {i : Nat} {k : Int} {t : Tok} {x : Value} {Q : Value → Rho → Led → Prop} (hk : Kn h₀ σ a o) (hl : LW o vs) (e : k = i) (hx : vs[i]? = some x) (hf : i < 2 ^ 62) (h : Q x ρ σ) : W w A h₀ env ρ σ (getItem (.ref a) (.int k t)) Q := fun s ht F => by
  subst e
  exact wpAny_getItem_list (hl.isList (F.kn hk)) (by exact Int.natCast_nonneg _) (by lia) (by simpa using hx) ⟨ρ, σ, s.heap, s.toks, rfl, F, h⟩
noncomputable def wrapS (x : Str) : Str := ((Str.empty ++ ("(?>.*?" : Str)) ++ x) ++ (")" : Str)
noncomputable def lastS (x : Str) : Str := (Str.empty ++ (".*" : Str)) ++ x
noncomputable def tpLoop : Nat → Nat → List Str → List Str
  | 0, _, ss => ss
  | k + 1, i, ss => tpLoop k (i + 1) (ss.set i (wrapS (ss.getD i ⟨#[]⟩)))
noncomputable def tpF (x : Str) : Str :=
  let qs := tpLoop ((Txt.split x "*").length - 2) 1 (Txt.split x "*")
  Txt.join "" (qs.set (qs.length - 1) (lastS (qs.getD (qs.length - 1) ⟨#[]⟩)))
theorem wrapS_len (x : Str) : (wrapS x).length = x.length + 7 := by
  unfold wrapS
  rw [Str.length_append, Str.length_append, Str.length_append]
  have h1 : ("(?>.*?" : Str).length = 6 := by decide
  have h2 : (")" : Str).length = 1 := by decide
  have h3 : (Str.empty).length = 0 := by decide
  lia
inductive PI1 (D : Addr) (l : List (Str × Tok)) (i : Nat) (ρ : Rho) (σ : Led) : Prop
  | mk (y1 : ρ "parts" = some (.ref D)) (oD' : _) (vs : _) (ss : _) (y2 : σ = [(D, oD')]) (y3 : LW oD' vs) (y4 : Al IsS ss vs) (y5 : ss.length = l.length) (y6 : (∀ y ∈ ss, y.length ≤ 100 + 7 * i)) (y7 : tpLoop (l.length - 2 - i) (1 + i) ss = tpLoop (l.length - 2) 1 (l.map (·.1))) : PI1 D l i ρ σ
theorem tp_spec {w : World} {loose : List Str} {mean : ExcName → Option Value} {mg mb : Str → Option Value} {x : Str} {tx : Tok} {h₀ : Heap} (hx : ∀ p ∈ Txt.split x "*", p.cps.toList.all lettr = true) (h0 : 0 < (Txt.split x "*").length) (hz : x.length ≤ 100)
    (hz1 : (Txt.split x "*").length ≤ 100) (hz2 : ∀ p ∈ Txt.split x "*", p.length ≤ 100) :
   PureC w loose mean mg mb 3 (.ref 99) [.str x tx] h₀ (fun tl v => ∃ t, v = .str (tpF x) t) := by
  refine enterP (k := 2) (binds := [("path", .str x tx)]) (by k_is) (by k_is) (fun s _ => BindsTo.of_eq rfl) rfl ?_
  intro A L ρ O B
  have b1 := B "path" _ rfl
  clear B
  have hh := O.hh
  have etp : tpF x = Txt.join "" ((tpLoop ((Txt.split x "*").length - 2) 1 (Txt.split x "*")).set ((tpLoop ((Txt.split x "*").length - 2) 1 (Txt.split x "*")).length - 1) (lastS ((tpLoop ((Txt.split x "*").length - 2) 1 (Txt.split x "*")).getD ((tpLoop ((Txt.split x "*").length - 2) 1 (Txt.split x "*")).length - 1) ⟨#[]⟩))) := rfl
  walk_at "ws"
  with_reducible refine w_split (by decide) (by exact Nat.le_trans (by assumption) (by decide)) fun P oP l hP el => ?_
  rw [← el] at hx h0 hz1 hz2 etp
  rw [List.length_map] at h0 hz1
  walk_at "ws"
  refine w_map (.inl (.head _)) hP fun M T I oi hI => ?_
  walk_at "ws"
  refine w_listOfMap O (k := 1) (P := fun i v => ∃ y, (l.map (·.1))[i]? = some y ∧ IsS y v) hI hP (.inl (.head _)) (by rw [strValues_len]; exact Nat.le_trans (by assumption) (by decide)) (by decide) (fun i v hv h _ => ?_) fun D oD us hus hlen hPu => ?_
  · obtain ⟨p, e1, rfl⟩ := strValues_get hv
    have e2 : (l.map (·.1))[i]? = some p.1 := by rw [List.getElem?_map, e1]; rfl
    have hm : p.1 ∈ l.map (·.1) := List.mem_of_getElem? e2
    exact (escape_spec (hx _ hm) (by have := hz2 _ hm; exact Nat.le_trans (by assumption) (by decide))).mono fun tl v ⟨_, t, e⟩ => ⟨p.1, e2, t, e⟩
  rw [strValues_len] at hlen
  have hal : Al IsS (l.map (·.1)) us := al_of_get _ _ (by rw [hlen, List.length_map]) hPu
  walk_at "un"
  with_reducible refine W.sub ?_ (.cons_cons _ (.cons _ (.refl _)))
  walk_at "ws"
  refine W.lenL (.inl (.head _)) hus (by rw [hlen]; exact Nat.lt_of_le_of_lt (by assumption) (by decide)) fun t1 => ?_
  walk_at "ws"
  intro R oR hr
  rw [hlen] at hr
  refine w_forRange (n := l.length - 2) hh (.inl (.head _)) hr ar_r2 (small_one (by exact Int.natCast_nonneg _) (by exact Int.natCast_nonneg _) (by lia) (by lia)) (.cons _ (.refl _)) (PI1 D l) ?_ ?_ ?_
  · exact ⟨by walk_at "look", oD, us, _, rfl, hus.lw, hal, by rw [List.length_map], fun y hy => by have := hz2 y hy; omega, rfl⟩
  · rintro i t I2 oi2 ρ σ hi ⟨c1, oD', vs, ss, rfl, hD', al, hl2, hb, et⟩
    have hv2 := al.len
    have ek : ((1 + i : Nat) : Int) = 1 + (i : Int) := by simp
    obtain ⟨v, gv, tv, rfl⟩ := al.get' (i := 1 + i) (x := ss[1 + i]) (by rw [List.getElem?_eq_getElem])
    have gd : ss.getD (1 + i) ⟨#[]⟩ = ss[1 + i] := by rw [List.getD, List.getElem?_eq_getElem (by omega)]; rfl
    have hb1 := hb ss[1 + i] (List.getElem_mem _)
    walk_at "ws"
    have z0 : (Str.empty).length = 0 := rfl
    have z1 : (("(?>.*?" : Str)).length = 6 := by decide
    have z2 : ((")" : Str)).length = 1 := by decide
    have zj := ar_t1 hb1 (by assumption) hi
    refine ⟨_, _, rfl, by rw [Str.length_append]; lia, ?_⟩
    walk_at "ws"
    refine w_subL (.inl (.tail _ (.head _))) hD' (w_itemW (.inl (.tail _ (.head _))) hD' (i := 1 + i) ek.symm gv (by grind) ?_)
    walk_at "ws"
    refine ⟨_, _, rfl, Nat.le_trans zj (by decide), fun t8 => ⟨_, _, rfl, by rw [Str.length_append, Str.length_append]; exact f2 zj (Nat.le_of_ble_eq_true rfl), ?_⟩⟩
    walk_at "ws"
    refine ⟨_, _, rfl, by rw [Str.length_append, Str.length_append, Str.length_append]; exact f3 zj (Nat.le_of_ble_eq_true rfl), ?_⟩
    walk_at "ws"
    intro t9
    walk_at "ws"
    with_reducible refine w_setItem (i := 1 + i) hD' ek.symm (by grind) (by lia) (fun o' => .tail _ (.head _)) fun o' ho' => ?_
    walk_at "ws"
    refine ⟨_, .refl _, by walk_at "look", o', _, ss.set (1 + i) (wrapS (ss.getD (1 + i) ⟨#[]⟩)), rfl, ho', al.set (1 + i) ⟨t9, by rw [gd]; rfl⟩, by rw [List.length_set, hl2], fun y hy => ?_, ?_⟩
    · rcases List.mem_or_eq_of_mem_set hy with hy | rfl
      · have := hb y hy; lia
      · rw [wrapS_len, gd]; lia
    · rw [← et, show l.length - 2 - i = (l.length - 2 - (i + 1)) + 1 from ar_step hi]
      show tpLoop _ _ _ = tpLoop _ (1 + i + 1) _
      rw [show 1 + (i + 1) = 1 + i + 1 by lia]
  · rintro ρ σ ⟨c1, oD', vs, ss, rfl, hD', al, hl2, hb, et⟩
    rw [Nat.sub_self] at et
    have et : ss = tpLoop (l.length - 2) 1 (l.map (·.1)) := et
    rw [List.length_map, ← et] at etp
    have hv2 := al.len
    obtain ⟨ss', y, vs', v, rfl, rfl, ⟨tv, rfl⟩, al'⟩ := al.last (by intro e; rw [e] at hv2; simp at hv2; lia)
    have hb1 := hb y (by simp)
    rw [List.length_append, List.length_singleton] at hl2
    have hv3 := al'.len
    have z0 : (Str.empty).length = 0 := rfl
    have z1 : ((".*" : Str)).length = 2 := by decide
    have zj := ar_t hb1 (by assumption)
    walk_at "ws"
    refine ⟨_, _, rfl, by rw [Str.length_append]; lia, ?_⟩
    walk_at "ws"
    refine w_lastL (.inl (.head _)) hD' (by lia) ?_
    walk_at "ws"
    refine ⟨_, _, rfl, Nat.le_trans zj (by decide), fun t8 => ⟨_, _, rfl, by rw [Str.length_append, Str.length_append]; exact f2 zj (Nat.le_of_ble_eq_true rfl), ?_⟩⟩
    walk_at "ws"
    intro t9
    walk_at "ws"
    with_reducible refine w_setLast hD' (fun o' => .head _) fun o' ho' => ?_
    walk_at "ws"
    have e1 : ((ss' ++ [y]).set ((ss' ++ [y]).length - 1) (lastS ((ss' ++ [y]).getD ((ss' ++ [y]).length - 1) ⟨#[]⟩))) = ss' ++ [lastS y] := by simp [List.getD]
    rw [e1] at etp
    refine w_joinW (B := 1000) (.inl (.head _)) ⟨_, ho', al'.snoc ⟨t9, rfl⟩⟩ (fun z hz' => ?_) ?_ fun t10 => ?_
    · rcases List.mem_append.mp hz' with hz' | hz'
      · exact Nat.le_trans (ar_t (hb z (List.mem_append_left _ hz')) (by assumption)) (by decide)
      · rw [List.mem_singleton.mp hz', Str.length_append, Str.length_append]; exact f2 zj (Nat.le_of_ble_eq_true rfl)
    · have z3 : (("" : Str)).length = 0 := rfl
      rw [z3, List.length_append, List.length_singleton]; lia
    walk_at "ws"
    exact ⟨_, List.nil_sublist _, t10, by rw [etp]; rfl⟩
end
section
noncomputable def kindOf (c r : Int) (k : Nat) : Int := (((c.fdiv 15).fdiv ((3 : Int) ^ k)) + r).fmod 3
noncomputable def rowsD : List (List Int) := [[0, 0, 2, 0, 0], [0, 2, 1, 0, 2], [1, 0, 2, 0, 2]]
noncomputable def kindsD (row : List Int) (c : Int) : List Int := (List.range 5).map fun k => kindOf c (row.getD k 0) k
noncomputable def pickD (n : Str) (k : Int) : Str := if k = 0 then "" else if k = 1 then n else ("*" : Str) ++ n
noncomputable def drawnOne (names : List Str) (row : List Int) (c : Int) : Str :=
  let p := Txt.join "" (List.zipWith pickD names (kindsD row c))
  if (kindsD row c).getD 4 0 = 0 then p ++ ("*" : Str) else p
noncomputable def drawnF (names : List Str) (cs : List Int) : List Str := List.zipWith (drawnOne names) rowsD cs
theorem kindOf_lt (c r : Int) (k : Nat) : kindOf c r k = 0 ∨ kindOf c r k = 1 ∨ kindOf c r k = 2 := by
  unfold kindOf
  generalize ((c.fdiv 15).fdiv ((3 : Int) ^ k)) + r = x
  have h1 := Int.fmod_nonneg_of_pos x (show (0 : Int) < 3 by decide)
  have h2 := Int.fmod_lt_of_pos x (show (0 : Int) < 3 by decide)
  lia
inductive DI1 (a b P DZ D3 D2 D1 : Addr) (oZ o3 o2 o1 : Obj) (ss : List Str) (cs : List Int) (i : Nat) (ρ : Rho) (σ : Led) : Prop
  | mk (y1 : ρ "codes" = some (.ref a)) (y2 : ρ "names" = some (.ref b)) (y3 : ρ "patterns" = some (.ref P)) (oP' : _) (ps : _) (y4 : σ = [(DZ, oZ), (D3, o3), (D2, o2), (D1, o1), (P, oP')]) (y5 : SL oP' ps) (y6 : ps = (drawnF ss cs).take i) : DI1 a b P DZ D3 D2 D1 oZ o3 o2 o1 ss cs i ρ σ
theorem drawn_spec {w : World} {loose : List Str} {mean : ExcName → Option Value} {mg mb : Str → Option Value} {a b : Addr} {o ob : Obj} {vs : List Value} {cs : List Int} {ss : List Str} {h₀ : Heap} (ha : h₀.get? a = some o) (hl : LObj o vs) (hal : Al IsI cs vs) (hb : h₀.get? b = some ob) (hs : SL ob ss)
    (n5 : cs.length = 5) (nl : ss.length = 5) (nn : ∀ x ∈ ss, x.length = 1) (hc : ∀ c ∈ cs, 0 ≤ c ∧ c < 1000000000) :
   PureC w loose mean mg mb 2 (.ref 262) [.ref a, .ref b] h₀ (fun tl v => ∃ D oD, v = .ref D ∧ (D, oD) ∈ tl ∧ SL oD (drawnF ss cs)) := by
  refine enterC (k := 1) (binds := [("codes", .ref a), ("names", .ref b)]) (by k_is) (by k_is) (by with_unfolding_all rfl) (by with_unfolding_all rfl) (by with_unfolding_all rfl) ?_
  intro A L ρ O B
  have l1 := B "codes" _ rfl
  have l2 := B "names" _ rfl
  clear B
  have hh := O.hh
  walk_at "ws"
  refine ⟨by simp, fun P oP hP => ?_⟩
  walk_at "ws"
  refine w_forZ hh ?_ (by intro _; with_unfolding_all rfl)
  walk_at "ws"
  refine ⟨by simp, fun D1 o1 h1 => ?_⟩
  walk_at "ws"
  refine ⟨by simp, fun D2 o2 h2 => ?_⟩
  walk_at "ws"
  refine ⟨by simp, fun D3 o3 h3 => ?_⟩
  walk_at "ws"
  refine ⟨by simp, fun DZ oZ hZ => ?_⟩
  walk_at "ws"
  refine w_zip (.inl (.head _)) (.inr ha) hZ hl fun z ls hz => ?_
  have hcs := hal.len
  have hr1 : ∃ v1, LObj o1 v1 ∧ Al IsI [0, 0, 2, 0, 0] v1 := ⟨_, h1, .cons ⟨_, rfl⟩ (.cons ⟨_, rfl⟩ (.cons ⟨_, rfl⟩ (.cons ⟨_, rfl⟩ (.cons ⟨_, rfl⟩ .nil))))⟩
  have hr2 : ∃ v2, LObj o2 v2 ∧ Al IsI [0, 2, 1, 0, 2] v2 := ⟨_, h2, .cons ⟨_, rfl⟩ (.cons ⟨_, rfl⟩ (.cons ⟨_, rfl⟩ (.cons ⟨_, rfl⟩ (.cons ⟨_, rfl⟩ .nil))))⟩
  have hr3 : ∃ v3, LObj o3 v3 ∧ Al IsI [1, 0, 2, 0, 2] v3 := ⟨_, h3, .cons ⟨_, rfl⟩ (.cons ⟨_, rfl⟩ (.cons ⟨_, rfl⟩ (.cons ⟨_, rfl⟩ (.cons ⟨_, rfl⟩ .nil))))⟩
  clear h1 h2 h3
  refine ⟨z, DZ, a, oZ, o, _, vs, ls, [(DZ, oZ), (D3, o3), (D2, o2), (D1, o1), (P, oP)], 3, DI1 a b P DZ D3 D2 D1 oZ o3 o2 o1 ss cs, rfl, ?_, hz, hZ, hl, by simp; grind, ?_, ?_, ?_, ?_⟩
  · exact .refl _
  · exact ⟨by walk_at "look", by walk_at "look", by walk_at "look", oP, [], rfl, SL.nil hP, rfl⟩
  · rintro i ρ σ ⟨_, _, _, oP', ps, rfl, _⟩
    exact ⟨.inl (by walk_at "mem"), .inr ha⟩
  · rintro i x y T ls' ρ σ hx hy ⟨c1, c2, c3, oP', ps, rfl, hP', hps⟩
    obtain ⟨c, hc1, t, rfl⟩ := hal.get hy
    have hrow : ∃ D oD vr row, x = .ref D ∧ (D, oD) ∈ [(DZ, oZ), (D3, o3), (D2, o2), (D1, o1), (P, oP')] ∧ LObj oD vr ∧ Al IsI row vr ∧ row.length = 5 ∧ rowsD[i]? = some row := by
      rcases (show i = 0 ∨ i = 1 ∨ i = 2 ∨ 3 ≤ i by lia) with rfl | rfl | rfl | h
      · obtain ⟨v, a, b⟩ := hr1; cases hx; exact ⟨D1, o1, v, _, rfl, by walk_at "mem", a, b, rfl, rfl⟩
      · obtain ⟨v, a, b⟩ := hr2; cases hx; exact ⟨D2, o2, v, _, rfl, by walk_at "mem", a, b, rfl, rfl⟩
      · obtain ⟨v, a, b⟩ := hr3; cases hx; exact ⟨D3, o3, v, _, rfl, by walk_at "mem", a, b, rfl, rfl⟩
      · rw [List.getElem?_eq_none (by simpa using h)] at hx; cases hx
    clear hr1 hr2 hr3
    obtain ⟨D, oD, vr, row, rfl, hmD, hlD, hrow, r5, hri⟩ := hrow
    refine w_unpackT (vs := [.ref D, .int c t]) hh (.inl (.head _)) ⟨rfl, 0, rfl⟩ ?_ (by with_unfolding_all rfl) (by with_unfolding_all rfl)
    walk_at "ws"
    refine w_assignComp (cl := [("row", L + 1), ("code", L + 1 + 1)]) O (by with_unfolding_all rfl) (by with_unfolding_all rfl) (hcl_cons (by with_unfolding_all rfl) (hcl1 (by with_unfolding_all rfl))) (clk_of (by with_unfolding_all rfl)) (by decide) (by with_unfolding_all rfl) (by decide) (by intro _; with_unfolding_all rfl) (by intro _ _; with_unfolding_all rfl) (by with_unfolding_all rfl) (by with_unfolding_all rfl) (by with_unfolding_all rfl) ?_
    walk_at "ws"
    intro DR oR hr
    refine w_compR (n := 5) (V := fun z v => IsI (kindOf c (row.getD z.toNat 0) z.toNat) v) (fun _ => true) hh (.inl (.head _)) hr (by lia) (small_one (by exact Int.natCast_nonneg _) (by exact Int.natCast_nonneg _) (by exact Int.natCast_nonneg _) (by exact Int.natCast_nonneg _)) (by exact Nat.le_add_left _ _) ?_ ?_
    · rintro h₁ C ρc j tj hsees O' hcc hj
      have e1 := hcc "row" _ _ rfl (by walk_at "look")
      have e2 := hcc "code" _ _ rfl (by walk_at "look")
      have gD := hsees.2 (D, oD) (by first | exact .tail _ (List.mem_append_left _ hmD) | exact List.mem_append_left _ hmD | exact .tail _ (.tail _ (List.mem_append_left _ hmD)))
      walk_at "ws"
      refine ⟨rfl, fun _ => ?_⟩
      have hj5 : j = 0 ∨ j = 1 ∨ j = 2 ∨ j = 3 ∨ j = 4 := by lia
      obtain ⟨v, gv, tv, rfl⟩ := hrow.get' (i := j) (x := row.getD j 0) (by rw [List.getD, List.getElem?_eq_getElem (by lia)]; rfl)
      walk_at "ws"
      with_reducible refine W.fdivI (by decide) (PyProof.noPylong_small (by decide)) fun t1 => ?_
      walk_at "ws"
      refine W.powI (by exact Int.natCast_nonneg _) (by lia) (by decide) fun t2 => ?_
      walk_at "ws"
      refine W.fdivI (by rcases hj5 with rfl | rfl | rfl | rfl | rfl <;> decide) (PyProof.noPylong_small (by rcases hj5 with rfl | rfl | rfl | rfl | rfl <;> decide)) fun t3 => ?_
      walk_at "ws"
      refine w_item (.inr gD) hlD (i := j) (by lia) gv (by exact Nat.lt_of_lt_of_le (by assumption) (by decide)) ?_
      walk_at "ws"
      with_reducible refine W.modI (by decide) fun t4 => ?_
      have ej : (0 + (j : Int)).toNat = j := by simp
      rw [ej]
      exact ⟨t4, rfl⟩
    · intro DK oK rk hlK hrK
      have hk : Al IsI (kindsD row c) rk := by
        have e : (List.filter (fun _ => true) (List.map (fun i : Nat => (0 : Int) + ↑i) (List.range 5))) = [0, 1, 2, 3, 4] := by decide
        rw [e] at hrK
        have := hrK.of_map (f := fun z : Int => kindOf c (row.getD z.toNat 0) z.toNat) (V' := IsI) fun x v h => h
        exact this
      clear hrK
      walk_at "ws"
      refine w_listCompL (own := none) (cl := []) O (by with_unfolding_all rfl) hcl_nil (clk_of (by with_unfolding_all rfl)) (fun _ => rfl) (fun _ => rfl) own_none (by with_unfolding_all rfl) (by decide) (by intro _; with_unfolding_all rfl) ?_
      walk_at "ws"
      obtain ⟨ln, hln, eln⟩ := hs
      have haln : Al IsS ss (strValues ln) := eln ▸ al_strs ln
      refine w_zip (.inr hb) (.inl (.head _)) hln hlK fun z2 ls2 hz2 => ?_
      walk_at "ws"
      have hkl : (kindsD row c).length = 5 := by simp [kindsD]
      refine zip_self hz2 ⟨z2, ls2, _, fun rs => Al IsS (List.zipWith pickD ss (kindsD row c)) rs, rfl, .refl _, ?_, ?_⟩
      · intro base C D4 oD4 ρc hsees O' hcc hf hD4
        have hh' := O'.hh
        have gb : base.get? b = some ob := hsees.1 _ _ hb
        have gk : base.get? DK = some oK := hsees.2 (DK, oK) (.head _)
        refine ⟨fun Q q => zip_self hz2 q, ?_⟩
        refine WC.mono (wc_zip (n := 5) (V := fun j u => ∃ x, (List.zipWith pickD ss (kindsD row c))[j]? = some x ∧ IsS x u) (fun _ => True) (by with_unfolding_all rfl) hh' hz2 gb gk hln hlK (by rw [haln.len, hk.len, hkl, nl]; rfl) (by decide) trivial hD4 ?_) ?_
        · rintro j x y T2 σ' ρ' hx hy _ hm
          obtain ⟨n, hn1, tn, rfl⟩ := haln.get hx
          obtain ⟨q, hq1, tq, rfl⟩ := hk.get hy
          have hnl := nn n (List.mem_of_getElem? hn1)
          have hz : (List.zipWith pickD ss (kindsD row c))[j]? = some (pickD n q) := by rw [List.getElem?_zipWith, hn1, hq1]
          have hq : q = 0 ∨ q = 1 ∨ q = 2 := by
            obtain ⟨k, _, e⟩ := List.mem_map.mp (List.mem_of_getElem? hq1)
            rw [← e]; exact kindOf_lt ..
          have zs : (("*" : Str)).length = 1 := rfl
          refine w_unpackT (vs := [.str n tn, .int q tq]) hh' (.inl hm) ⟨rfl, 0, rfl⟩ ?_ (by with_unfolding_all rfl) (by with_unfolding_all rfl)
          walk_at "ws"
          with_reducible refine W.addS (by lia) fun t5 => ?_
          walk_at "ws"
          refine ⟨by simp, fun DL oL hL => ?_⟩
          walk_at "ws"
          rcases hq with rfl | rfl | rfl
          · refine w_item (.inl (.head _)) hL (i := 0) (by rfl) (by rfl) (by exact Nat.le_add_left _ _) ?_
            exact ⟨⟨_, hz, _, rfl⟩, trivial, .cons _ (.refl _)⟩
          · refine w_item (.inl (.head _)) hL (i := 1) (by rfl) (by rfl) (by exact Nat.le_add_left _ _) ?_
            exact ⟨⟨_, hz, _, rfl⟩, trivial, .cons _ (.refl _)⟩
          · refine w_item (.inl (.head _)) hL (i := 2) (by rfl) (by rfl) (by exact Nat.le_add_left _ _) ?_
            exact ⟨⟨_, hz, _, rfl⟩, trivial, .cons _ (.refl _)⟩
        · rintro ρ' σ' ⟨oD', rs, h1, h2, h3, h4⟩
          refine ⟨oD', rs, h1, h2, al_of_get _ _ ?_ h4⟩
          rw [h3, List.length_zipWith, nl, hkl]; rfl
      · intro DJ oJ rs hlJ hrJ
        walk_at "ws"
        have hp2 : (List.zipWith pickD ss (kindsD row c)).length = 5 := by rw [List.length_zipWith, nl, hkl]; rfl
        have hp1 : ∀ y ∈ List.zipWith pickD ss (kindsD row c), y.length ≤ 2 := fun y hy => by
          obtain ⟨j, hj, e⟩ := List.mem_iff_getElem.mp hy
          have hj5 : j < ss.length := by lia
          rw [List.getElem_zipWith] at e
          have hn1 := nn ss[j] (List.getElem_mem hj5)
          rw [← e]
          have zs : (("*" : Str)).length = 1 := rfl
          have z0 : (("" : Str)).length = 0 := rfl
          unfold pickD
          split
          · exact Nat.le_add_left _ _
          · split
            · lia
            · rw [Str.length_append]; lia
        have hp3 : (Txt.join "" (List.zipWith pickD ss (kindsD row c))).length ≤ 10 := by
          have := join_le hp1
          lia
        obtain ⟨lj, rfl, ej⟩ := strs_al hrJ
        refine w_join (l := lj) (B := 2) (.inl (.head _)) hlJ (by rw [ej]; exact hp1) (by rw [ej, hp2]; decide) fun t6 => ?_
        rw [ej]
        walk_at "ws"
        obtain ⟨v4, gv4, tv4, rfl⟩ := hk.get' (i := 4) (x := (kindsD row c).getD 4 0) (by rw [List.getD, List.getElem?_eq_getElem (by exact Nat.le_refl _)]; rfl)
        obtain ⟨lp, hlp, elp⟩ := hP'
        walk_at "un"
        with_reducible refine W.sub (σ' := (DK, oK) :: (T, pairO (Value.ref D) (Value.int c t)) :: ([(DZ, oZ), (D3, o3), (D2, o2), (D1, o1), (P, oP')] ++ ls')) ?_ (.cons _ (.cons_cons _ (.cons _ (.refl _))))
        refine w_gm_sappend (.inl (.tail _ (.tail _ (.tail _ (.tail _ (.tail _ (.tail _ (.head _)))))))) ⟨lp, hlp, elp⟩ ?_
        walk_at "ws"
        refine w_item (.inl (.head _)) hlK (i := 4) (by rfl) gv4 (by exact Nat.le_add_left _ _) ?_
        walk_at "ws"
        have hps' : drawnOne ss row c :: [] = ((drawnF ss cs).drop i).take 1 := by
          unfold drawnF
          rw [List.drop_zipWith, List.take_zipWith]
          have e1 : (rowsD.drop i).take 1 = [row] := by
            obtain ⟨hlt, e⟩ := List.getElem?_eq_some_iff.mp hri
            rw [List.drop_eq_getElem_cons hlt, e]; rfl
          have e2 : (cs.drop i).take 1 = [c] := by
            obtain ⟨hlt, e⟩ := List.getElem?_eq_some_iff.mp hc1
            rw [List.drop_eq_getElem_cons hlt, e]; rfl
          rw [e1, e2]; rfl
        have hfin : ps ++ [drawnOne ss row c] = (drawnF ss cs).take (i + 1) := by rw [hps, hps', List.take_add]
        have hpl : ps.length ≤ 3 := by
          rw [hps, List.length_take]
          unfold drawnF
          rw [List.length_zipWith]
          have : rowsD.length = 3 := rfl
          lia
        have zs : (("*" : Str)).length = 1 := rfl
        by_cases q4 : (kindsD row c).getD 4 0 = 0
        · refine ite_t (by rw [q4]; rfl) ?_
          walk_at "ws"
          refine W.addS (by exact Nat.lt_of_le_of_lt (by assumption) (by decide)) fun t7 => ?_
          walk_at "ws"
          refine w_appSL ⟨lp, hlp, elp⟩ (by lia) (fun o' => .tail _ (.tail _ (.tail _ (.tail _ (.tail _ (.tail _ (.head _))))))) fun o' ho' => ?_
          walk_at "ws"
          refine ⟨[(DZ, oZ), (D3, o3), (D2, o2), (D1, o1), (P, o')], .cons _ (.cons _ (.refl _)), by walk_at "look", by walk_at "look", by walk_at "look", o', _, rfl, ho', ?_⟩
          rw [← hfin]
          unfold drawnOne
          rw [if_pos q4]
        · refine ite_f (by simpa using q4) ?_
          walk_at "ws"
          refine w_appSL ⟨lp, hlp, elp⟩ (by lia) (fun o' => .tail _ (.tail _ (.tail _ (.tail _ (.tail _ (.tail _ (.head _))))))) fun o' ho' => ?_
          walk_at "ws"
          refine ⟨[(DZ, oZ), (D3, o3), (D2, o2), (D1, o1), (P, o')], .cons _ (.cons _ (.refl _)), by walk_at "look", by walk_at "look", by walk_at "look", o', _, rfl, ho', ?_⟩
          rw [← hfin]
          unfold drawnOne
          rw [if_neg q4]
  · rintro ρ σ ⟨c1, c2, c3, oP', ps, rfl, hP', hps⟩
    walk_at "ws"
    refine ⟨_, .refl _, P, oP', rfl, by walk_at "mem", ?_⟩
    rw [hps, List.take_of_length_le (by unfold drawnF; rw [List.length_zipWith]; exact Nat.min_le_left _ _)] at hP'
    exact hP'
end
section
set_option genInjectivity false in
set_option genSizeOf false in
/-- a node's record in the heap -/
structure NR where
  a : Addr
  d : Addr
  s : Addr
  nm : Str
  np : Int
  sc : List Str
  t1 : Tok
  t2 : Tok
  os : Obj
noncomputable def NR.obj (r : NR) : Obj := slObj 151 r.d #[some (.str r.nm r.t1), some (.int r.np r.t2), some (.ref r.s)]
theorem arr1 (v : Value) : (((#[] : Array (Option Value)) ++ Array.replicate (0 + 1 - (#[] : Array (Option Value)).size) none).setIfInBounds 0 (some v)) = #[some v] := rfl
theorem arr2 (a v : Value) : ((#[some a] ++ Array.replicate (1 + 1 - #[some a].size) none).setIfInBounds 1 (some v)) = #[some a, some v] := rfl
theorem arr3 (a b v : Value) : ((#[some a, some b] ++ Array.replicate (2 + 1 - #[some a, some b].size) none).setIfInBounds 2 (some v)) = #[some a, some b, some v] := rfl
theorem arr4 (a b c v : Value) : ((#[some a, some b, some c] ++ Array.replicate (1 + 1 - #[some a, some b, some c].size) none).setIfInBounds 1 (some v)) = #[some a, some v, some c] := rfl
theorem node_init {w : World} {loose : List Str} {mean : ExcName → Option Value} {mg mb : Str → Option Value} {x dx : Addr} {nm : Str} {t : Tok} {h₀ : Heap} :
   MutC w loose mean mg mb 1 (.ref 147) [.ref x, .str nm t] h₀ [(x, instObj 151 dx), (dx, emptyDict)] (fun tl v => v = .none ∧ ∃ r : NR, r.a = x ∧ r.d = dx ∧ r.nm = nm ∧ r.np = 0 ∧ r.sc = [] ∧ SL r.os [] ∧ tl = [(r.s, r.os), (r.a, r.obj), (r.d, emptyDict)]) := by
  refine enterP (k := 0) (binds := [("self", .ref x), ("node", .str nm t)]) (by k_is) (by k_is) (fun s _ => BindsTo.of_eq rfl) rfl ?_
  intro A L ρ O B
  have b1 := B "self" _ rfl
  have b2 := B "node" _ rfl
  clear B
  have hh := O.hh
  walk_at "ws"
  refine w_setSlot (C := 151) (dx := dx) (sl := #[]) (od := emptyDict) O (.inl (.tail _ (.head _))) (fun o' => .head _) (by k_is) (by k_is) (by k_is) (by k_is) (by k_is) (by decide) ?_
  rw [arr1]
  walk_at "ws"
  refine w_setSlot (C := 151) (dx := dx) (od := emptyDict) O (.inl (.tail _ (.head _))) (fun o' => .head _) (by k_is) (by k_is) (by k_is) (by k_is) (by k_is) (by decide) ?_
  rw [arr2]
  walk_at "ws"
  refine ⟨by simp, fun U oU hU => ?_⟩
  walk_at "ws"
  refine w_setSlot (C := 151) (dx := dx) (od := emptyDict) O (.inl (.tail _ (.tail _ (.head _)))) (fun o' => .tail _ (.head _)) (by k_is) (by k_is) (by k_is) (by k_is) (by k_is) (by decide) ?_
  rw [arr3]
  walk_at "ws"
  exact ⟨_, .refl _, rfl, ⟨x, dx, U, nm, 0, [], t, _, oU⟩, rfl, rfl, rfl, rfl, rfl, SL.nil hU, rfl⟩
/-- _NodeInfo(node) -/
theorem w_node {w : World} {loose : List Str} {mean : ExcName → Option Value} {mg mb : Str → Option Value} {need : Nat} {A : Around} {h₀ : Heap} {env : Env} {ρ : Rho} {σ : Led} {nm : Str} {t : Tok} {Q : Value → Rho → Led → Prop} (O : Ok w loose mean mg mb need A env h₀) (hn : 2 ≤ need)
    (h : ∀ r : NR, r.nm = nm → r.np = 0 → r.sc = [] → SL r.os [] → Q (.ref r.a) ρ ((r.s, r.os) :: (r.a, r.obj) :: (r.d, emptyDict) :: σ)) : W w A h₀ env ρ σ (PySem.call (.ref 151) [.str nm t]) Q := by
  with_reducible refine w_make (k := 1) (fI := 147) (P := fun x tl => ∃ r : NR, r.a = x ∧ r.nm = nm ∧ r.np = 0 ∧ r.sc = [] ∧ SL r.os [] ∧ tl = [(r.s, r.os), (r.a, r.obj), (r.d, emptyDict)]) O (by k_is) (by k_is) (by k_is) ?_ hn ?_
  · intro x dx h' _ _ dp un gd fr s RR h1 h2 h3 h4 h5 h6
    exact node_init dp un gd fr s RR h1 h2 h3 h4 h5 fun v tl h' tk a b c q => h6 v tl h' tk a b c ⟨q.1, q.2.elim fun r q => ⟨r, q.1, q.2.2⟩⟩
  · rintro x tl ⟨r, rfl, e1, e2, e3, e4, rfl⟩
    exact h r e1 e2 e3 e4
/-! the sorter, told by plain data -/
set_option genInjectivity false in
set_option genSizeOf false in
structure SS (α : Type) where
  ns : List (Nd α)
  ready : Option (List α)
  passed : Int
  fin : Int
noncomputable def NR.ab (r : NR) : Nd Str := ⟨r.nm, r.np, r.sc⟩
noncomputable def sEs (w : World) (t1 t2 t3 t4 : Tok) (a b c d : Value) : List DictEntry :=
  [⟨PyData.keyHash w.params "_node2info", .str "_node2info" t1, a⟩, ⟨PyData.keyHash w.params "_ready_nodes", .str "_ready_nodes" t2, b⟩, ⟨PyData.keyHash w.params "_npassedout", .str "_npassedout" t3, c⟩, ⟨PyData.keyHash w.params "_nfinished", .str "_nfinished" t4, d⟩]
set_option genInjectivity false in
set_option genSizeOf false in
structure SD where
  dx : Addr
  N : Addr
  oN : Obj
  rs : List NR
  rv : Value
  R : Addr
  oR : Obj
  t1 : Tok
  t2 : Tok
  t3 : Tok
  t4 : Tok
  n : Nat
  tp : Tok
  tf : Tok
noncomputable def SD.dict (w : World) (D : SD) (p f : Int) : Obj := dictOf (sEs w D.t1 D.t2 D.t3 D.t4 (.ref D.N) D.rv (.int p D.tp) (.int f D.tf)) D.n
structure Srt (w : World) (x : Addr) (st : SS Str) (D : SD) (tl : Led) : Prop where
  mx : (x, instObj 248 D.dx) ∈ tl
  mdx : (D.dx, D.dict w st.passed st.fin) ∈ tl
  mN : (D.N, D.oN) ∈ tl
  dN : DD w D.oN (D.rs.map fun r => (r.nm, .ref r.a))
  sys : (D.N == sysModules) = false
  node : ∀ r ∈ D.rs, (r.a, r.obj) ∈ tl ∧ (r.d, emptyDict) ∈ tl ∧ (r.s, r.os) ∈ tl ∧ SL r.os r.sc
  rdy : match st.ready with
    | none => D.rv = .none
    | some l => D.rv = .ref D.R ∧ (D.R, D.oR) ∈ tl ∧ SL D.oR l ∧ ∀ r ∈ D.rs, r.s ≠ D.R
  ab : D.rs.map NR.ab = st.ns
  ne : D.dx ≠ D.N
  ds : ∀ r ∈ D.rs, r.d ≠ D.dx ∧ r.d ≠ D.N
  ss : (D.rs.map (·.s)).Nodup
theorem sorter_init {w : World} {loose : List Str} {mean : ExcName → Option Value} {mg mb : Str → Option Value} {x dx : Addr} {h₀ : Heap} :
   MutC w loose mean mg mb 1 (.ref 184) [.ref x] h₀ [(x, instObj 248 dx), (dx, emptyDict)] (fun tl v => v = .none ∧ ∃ D, Srt w x ⟨[], none, 0, 0⟩ D tl) := by
  intro dp un gd fr s RR i1 i2 i3 i4 am i6
  refine enterP (k := 0) (σ₀ := [(x, instObj 248 dx), (dx, emptyDict)]) (binds := [("self", .ref x), ("graph", .none)]) (by k_is) (by k_is) (fun s hs => BindsTo.of_defaults rfl (hs _ _ (am.x _ _ (by k_is))) rfl rfl rfl) rfl ?_ (by decide) rfl rfl rfl dp un gd fr s RR i1 i2 i3 i4 am i6
  clear i1 i2 i3 i4 am i6
  intro A L ρ O B
  have b1 := B "self" _ rfl
  have b2 := B "graph" _ rfl
  clear B
  have hh := O.hh
  walk_at "ws"
  intro N oN hsys hN
  walk_at "ws"
  refine w_setDict (es := []) (n := 0) O (.inl (.tail _ (.head _))) (fun o' => .tail _ (.tail _ (.head _))) (by k_is) (by k_is) (by k_is) (by k_is) (by rfl) (by simp) fun t1 => ?_
  walk_at "ws"
  refine w_setDict O (.inl (.tail _ (.head _))) (fun o' => .tail _ (.tail _ (.head _))) (by k_is) (by k_is) (by k_is) (by k_is) (by rfl) (Nat.le_of_ble_eq_true rfl) fun t2 => ?_
  walk_at "ws"
  refine w_setDict O (.inl (.tail _ (.head _))) (fun o' => .tail _ (.tail _ (.head _))) (by k_is) (by k_is) (by k_is) (by k_is) (by rfl) (Nat.le_of_ble_eq_true rfl) fun t3 => ?_
  walk_at "ws"
  refine w_setDict O (.inl (.tail _ (.head _))) (fun o' => .tail _ (.tail _ (.head _))) (by k_is) (by k_is) (by k_is) (by k_is) (by rfl) (Nat.le_of_ble_eq_true rfl) fun t4 => ?_
  walk_at "ws"
  refine ite_f (by decide) ?_
  with_reducible refine W.nd fun hnd => ?_
  simp only [List.map_cons, List.nodup_cons, List.mem_cons, not_or] at hnd
  walk_at "ws"
  refine ⟨_, .refl _, rfl, ⟨dx, N, oN, [], .none, 0, emptyDict, t1, t2, t3, t4, 4, _, _⟩, .tail _ (.head _), .tail _ (.tail _ (.head _)), .head _, hN, hsys, fun r hr => (nomatch hr), rfl, rfl, Ne.symm hnd.1.2.1, fun r hr => (nomatch hr), .nil⟩
/-- TopologicalSorter() -/
theorem w_sorter {w : World} {loose : List Str} {mean : ExcName → Option Value} {mg mb : Str → Option Value} {need : Nat} {A : Around} {h₀ : Heap} {env : Env} {ρ : Rho} {σ : Led} {Q : Value → Rho → Led → Prop} (O : Ok w loose mean mg mb need A env h₀) (hn : 2 ≤ need)
    (h : ∀ x D tl, Srt w x ⟨[], none, 0, 0⟩ D tl → Q (.ref x) ρ (tl ++ σ)) : W w A h₀ env ρ σ (PySem.call (.ref 248) []) Q := by
  with_reducible refine w_make (k := 1) (fI := 184) (P := fun x tl => ∃ D, Srt w x ⟨[], none, 0, 0⟩ D tl) O (by k_is) (by k_is) (by k_is) ?_ hn ?_
  · intro x dx h' _ _ dp un gd fr s RR h1 h2 h3 h4 h5 h6
    exact sorter_init dp un gd fr s RR h1 h2 h3 h4 h5 fun v tl h' tk a b c ⟨e, D, q⟩ => h6 v tl h' tk a b c ⟨e, D, q⟩
  · rintro x tl ⟨D, q⟩
    exact h x D tl q
end
section
theorem inj_of {α β : Type} {f : α → β} {a b : α} {l : List α} (hn : (l.map f).Nodup) (h1 : a ∈ l) (h2 : b ∈ l) (e : f a = f b) : a = b := by
  induction l with
  | nil => cases h1
  | cons p r ih =>
    have hn := List.nodup_cons.mp hn
    cases h1 with
    | head =>
      cases h2 with
      | head => rfl
      | tail _ h2 => exact absurd (List.mem_map.mpr ⟨_, h2, e.symm⟩) hn.1
    | tail _ h1 =>
      cases h2 with
      | head => exact absurd (List.mem_map.mpr ⟨_, h1, e⟩) hn.1
      | tail _ h2 => exact ih hn.2 h1 h2
theorem uniq {a : Addr} {o o' : Obj} : ∀ {l : Led}, (l.map (·.1)).Nodup → (a, o) ∈ l → (a, o') ∈ l → o = o'
  | p :: r, hn, h1, h2 => by
    rw [List.map_cons, List.nodup_cons] at hn
    rcases List.mem_cons.mp h1 with e1 | h1 <;> rcases List.mem_cons.mp h2 with e2 | h2
    · rw [← e1] at e2; cases e2; rfl
    · exact absurd (List.mem_map.mpr ⟨_, h2, by rw [← e1]⟩) hn.1
    · exact absurd (List.mem_map.mpr ⟨_, h1, by rw [← e2]⟩) hn.1
    · exact uniq hn.2 h1 h2
theorem ne_cls {a b : Addr} {o o' : Obj} {l : Led} (hn : (l.map (·.1)).Nodup) (h1 : (a, o) ∈ l) (h2 : (b, o') ∈ l) (hc : o.cls ≠ o'.cls) : a ≠ b := fun e => by
  subst e
  exact hc (by rw [uniq hn h1 h2])
theorem Upd.appR {a : Addr} {o o' : Obj} {r : Led} : ∀ {l l' : Led}, Upd a o o' l l' → Upd a o o' (l ++ r) (l' ++ r)
  | _, _, .head _ => .head _
  | _, _, .tail p u => .tail p u.appR
theorem DD.cls {w : World} {o : Obj} {kvs : List (Str × Value)} (h : DD w o kvs) : o.cls = .type "dict" := by
  obtain ⟨es, ep, h1, _⟩ := h
  exact h1.1
theorem SL.cls {o : Obj} {ss : List Str} (h : SL o ss) : o.cls = .type "list" := by
  obtain ⟨l, ⟨n, e⟩, _⟩ := h
  rw [e]
theorem ref_ne_type {a : Addr} {s : String} : Value.ref a ≠ Value.type s := nofun
theorem dict_ne_list : Value.type "dict" ≠ Value.type "list" := by decide
theorem list_ne_dict : Value.type "list" ≠ Value.type "dict" := by decide
theorem r248 : Value.ref 248 ≠ Value.ref 151 := by decide
section
variable {w : World} {x : Addr} {st : SS Str} {D : SD} {tl : Led}
theorem Srt.more (S : Srt w x st D tl) (p : Addr × Obj) : Srt w x st D (p :: tl) where
  mx := .tail _ S.mx
  mdx := .tail _ S.mdx
  mN := .tail _ S.mN
  dN := S.dN
  sys := S.sys
  node := fun r hr => ⟨.tail _ (S.node r hr).1, .tail _ (S.node r hr).2.1, .tail _ (S.node r hr).2.2.1, (S.node r hr).2.2.2⟩
  rdy := by
    have := S.rdy
    cases e : st.ready with
    | none => rw [e] at this; exact this
    | some l =>
      rw [e] at this
      exact ⟨this.1, .tail _ this.2.1, this.2.2⟩
  ab := S.ab
  ne := S.ne
  ds := S.ds
  ss := S.ss
theorem Srt.rdyAt (S : Srt w x st D tl) {l : List Str} (e : st.ready = some l) : D.rv = .ref D.R ∧ (D.R, D.oR) ∈ tl ∧ SL D.oR l ∧ ∀ r ∈ D.rs, r.s ≠ D.R := by
  have := S.rdy
  rw [e] at this
  exact this
variable (hn : (tl.map (·.1)).Nodup)
include hn
theorem Srt.x_dx (S : Srt w x st D tl) : x ≠ D.dx := ne_cls hn S.mx S.mdx ref_ne_type
theorem Srt.x_N (S : Srt w x st D tl) : x ≠ D.N := ne_cls hn S.mx S.mN (by rw [S.dN.cls]; exact ref_ne_type)
theorem Srt.R_dx (S : Srt w x st D tl) (h : st.ready.isSome = true) : D.R ≠ D.dx := by
  obtain ⟨l, e⟩ := Option.isSome_iff_exists.mp h
  obtain ⟨_, h2, h3, _⟩ := S.rdyAt e
  exact ne_cls hn h2 S.mdx (by rw [h3.cls]; exact list_ne_dict)
theorem Srt.R_N (S : Srt w x st D tl) (h : st.ready.isSome = true) : D.R ≠ D.N := by
  obtain ⟨l, e⟩ := Option.isSome_iff_exists.mp h
  obtain ⟨_, h2, h3, _⟩ := S.rdyAt e
  exact ne_cls hn h2 S.mN (by rw [h3.cls, S.dN.cls]; exact list_ne_dict)
theorem Srt.a_dx (S : Srt w x st D tl) {r : NR} (hr : r ∈ D.rs) : r.a ≠ D.dx := ne_cls hn (S.node r hr).1 S.mdx ref_ne_type
theorem Srt.a_N (S : Srt w x st D tl) {r : NR} (hr : r ∈ D.rs) : r.a ≠ D.N := ne_cls hn (S.node r hr).1 S.mN (by rw [S.dN.cls]; exact ref_ne_type)
theorem Srt.s_dx (S : Srt w x st D tl) {r : NR} (hr : r ∈ D.rs) : r.s ≠ D.dx := ne_cls hn (S.node r hr).2.2.1 S.mdx (by rw [(S.node r hr).2.2.2.cls]; exact list_ne_dict)
theorem Srt.s_N (S : Srt w x st D tl) {r : NR} (hr : r ∈ D.rs) : r.s ≠ D.N := ne_cls hn (S.node r hr).2.2.1 S.mN (by rw [(S.node r hr).2.2.2.cls, S.dN.cls]; exact list_ne_dict)
theorem Srt.a_x (S : Srt w x st D tl) {r : NR} (hr : r ∈ D.rs) : x ≠ r.a := ne_cls hn S.mx (S.node r hr).1 r248
theorem Srt.s_x (S : Srt w x st D tl) {r : NR} (hr : r ∈ D.rs) : x ≠ r.s := ne_cls hn S.mx (S.node r hr).2.2.1 (by rw [(S.node r hr).2.2.2.cls]; exact ref_ne_type)
theorem Srt.a_s (S : Srt w x st D tl) {r r' : NR} (hr : r ∈ D.rs) (hr' : r' ∈ D.rs) : r.a ≠ r'.s := ne_cls hn (S.node r hr).1 (S.node r' hr').2.2.1 (by rw [(S.node r' hr').2.2.2.cls]; exact ref_ne_type)
theorem Srt.a_d (S : Srt w x st D tl) {r r' : NR} (hr : r ∈ D.rs) (hr' : r' ∈ D.rs) : r.a ≠ r'.d := ne_cls hn (S.node r hr).1 (S.node r' hr').2.1 ref_ne_type
theorem Srt.s_d (S : Srt w x st D tl) {r r' : NR} (hr : r ∈ D.rs) (hr' : r' ∈ D.rs) : r.s ≠ r'.d := ne_cls hn (S.node r hr).2.2.1 (S.node r' hr').2.1 (by rw [(S.node r hr).2.2.2.cls]; exact list_ne_dict)
theorem Srt.a_R (S : Srt w x st D tl) {r : NR} (hr : r ∈ D.rs) (h : st.ready.isSome = true) : r.a ≠ D.R := by
  obtain ⟨l, e⟩ := Option.isSome_iff_exists.mp h
  obtain ⟨_, h2, h3, _⟩ := S.rdyAt e
  exact ne_cls hn (S.node r hr).1 h2 (by rw [h3.cls]; exact ref_ne_type)
theorem Srt.d_R (S : Srt w x st D tl) {r : NR} (hr : r ∈ D.rs) (h : st.ready.isSome = true) : r.d ≠ D.R := by
  obtain ⟨l, e⟩ := Option.isSome_iff_exists.mp h
  obtain ⟨_, h2, h3, _⟩ := S.rdyAt e
  exact ne_cls hn (S.node r hr).2.1 h2 (by rw [h3.cls]; exact dict_ne_list)
theorem Srt.x_R (S : Srt w x st D tl) (h : st.ready.isSome = true) : x ≠ D.R := by
  obtain ⟨l, e⟩ := Option.isSome_iff_exists.mp h
  obtain ⟨_, h2, h3, _⟩ := S.rdyAt e
  exact ne_cls hn S.mx h2 (by rw [h3.cls]; exact ref_ne_type)
omit hn in
theorem Srt.names (S : Srt w x st D tl) : (D.rs.map (·.nm)).Nodup := by
  obtain ⟨_, _, _, _, _, _, h⟩ := S.dN
  rw [List.map_map] at h
  exact h
theorem Srt.a_a (S : Srt w x st D tl) {r r' : NR} (hr : r ∈ D.rs) (hr' : r' ∈ D.rs) (h : r.nm ≠ r'.nm) : r.a ≠ r'.a := fun e => by
  have h2 := (S.node r' hr').1
  rw [← e] at h2
  have := uniq hn (S.node r hr).1 h2
  unfold NR.obj at this
  injection this with _ _ _ e4
  have : (some (Value.str r.nm r.t1)) = some (.str r'.nm r'.t1) := by
    have := congrArg (fun a : Array (Option Value) => a.toList.head?) e4
    simpa using this
  injection this with e5
  injection e5 with e6
  exact h e6
omit hn in
theorem Srt.s_s (S : Srt w x st D tl) {r r' : NR} (hr : r ∈ D.rs) (hr' : r' ∈ D.rs) (h : r.nm ≠ r'.nm) : r.s ≠ r'.s := fun e => by
  have : r = r' := inj_of S.ss hr hr' e
  exact h (by rw [this])
end
end
section
section
variable {α : Type} [DecidableEq α]
end
theorem valueAt_rs (rs : List NR) (k : Str) : valueAt (rs.map fun r => (r.nm, Value.ref r.a)) k = (rs.find? fun r => decide (r.nm = k)).map fun r => .ref r.a := by
  unfold valueAt
  rw [List.find?_map]
  cases h : rs.find? ((fun p : Str × Value => decide (p.1 = k)) ∘ fun r : NR => (r.nm, Value.ref r.a)) with
  | none =>
    have : (rs.find? fun r => decide (r.nm = k)) = none := h
    rw [this]; rfl
  | some r =>
    have : (rs.find? fun r => decide (r.nm = k)) = some r := h
    rw [this]; rfl
theorem has_rs (rs : List NR) (k : Str) : ndHas (rs.map NR.ab) k = rs.any fun r => decide (r.nm = k) := by
  unfold ndHas
  rw [List.any_map]
  rfl
section
variable {w : World} {x : Addr} {st : SS Str} {D : SD} {tl : Led}
theorem Srt.addNode (S : Srt w x st D tl) {r : NR} {oN' : Obj} (hn : (((r.s, r.os) :: (r.a, r.obj) :: (r.d, emptyDict) :: tl : Led).map (·.1)).Nodup) (hr : SL r.os r.sc) (hnew : ∀ q ∈ D.rs, q.nm ≠ r.nm) (hd : DD w oN' ((D.rs ++ [r]).map fun r => (r.nm, .ref r.a))) :
    Srt w x { st with ns := st.ns ++ [r.ab] } { D with oN := oN', rs := D.rs ++ [r] } ((r.s, r.os) :: (r.a, r.obj) :: (r.d, emptyDict) :: put D.N oN' tl) := by
  have hn' := hn
  simp only [List.map_cons, List.nodup_cons, List.mem_cons, not_or] at hn'
  obtain ⟨⟨n1, n2, n3⟩, ⟨n4, n5⟩, n6, n7⟩ := hn'
  have out : ∀ {b o}, (b, o) ∈ tl → b ∈ tl.map (·.1) := fun h => List.mem_map.mpr ⟨_, h, rfl⟩
  have cases_r : ∀ q ∈ D.rs ++ [r], q ∈ D.rs ∨ q = r := fun q hq => by
    rcases List.mem_append.mp hq with h | h
    · exact .inl h
    · exact .inr (List.mem_singleton.mp h)
  refine ⟨.tail _ (.tail _ (.tail _ (put_mem S.mx (S.x_N n7)))), .tail _ (.tail _ (.tail _ (put_mem S.mdx S.ne))), .tail _ (.tail _ (.tail _ (put_here S.mN))), hd, S.sys, fun q hq => ?_, ?_, ?_, S.ne, fun q hq => ?_, ?_⟩
  · rcases cases_r q hq with hq | rfl
    · have := S.node q hq
      exact ⟨.tail _ (.tail _ (.tail _ (put_mem this.1 (S.a_N n7 hq)))), .tail _ (.tail _ (.tail _ (put_mem this.2.1 (S.ds q hq).2))), .tail _ (.tail _ (.tail _ (put_mem this.2.2.1 (S.s_N n7 hq)))), this.2.2.2⟩
    · exact ⟨.tail _ (.head _), .tail _ (.tail _ (.head _)), .head _, hr⟩
  · have := S.rdy
    cases e : st.ready with
    | none => rw [e] at this; exact this
    | some l =>
      rw [e] at this
      have q : D.R ≠ D.N := S.R_N n7 (by rw [e]; rfl)
      refine ⟨this.1, .tail _ (.tail _ (.tail _ (put_mem this.2.1 q))), this.2.2.1, fun q hq => ?_⟩
      rcases cases_r q hq with hq | rfl
      · exact this.2.2.2 q hq
      · intro e'
        exact n3 (e' ▸ out this.2.1)
  · show (D.rs ++ [r]).map NR.ab = _
    rw [List.map_append, S.ab]; rfl
  · rcases cases_r q hq with hq | rfl
    · exact S.ds q hq
    · exact ⟨fun e => n6 (e ▸ out S.mdx), fun e => n6 (e ▸ out S.mN)⟩
  · show ((D.rs ++ [r]).map (·.s)).Nodup
    rw [List.map_append]
    refine List.nodup_append.mpr ⟨S.ss, by simp, fun a ha b hb e => ?_⟩
    obtain ⟨q, hq, e1⟩ := List.mem_map.mp ha
    simp only [List.map_cons, List.map_nil, List.mem_singleton] at hb
    rw [e, hb] at e1
    exact n3 (e1 ▸ out (S.node q hq).2.2.1)
noncomputable def setR (rs : List NR) (k : Str) (r' : NR) : List NR := rs.map fun q => if q.nm = k then r' else q
theorem Srt.setRec (S : Srt w x st D tl) (hn : (tl.map (·.1)).Nodup) {r r' : NR} (hr : r ∈ D.rs) (e1 : r'.a = r.a) (e2 : r'.d = r.d) (e3 : r'.s = r.s) (e4 : r'.nm = r.nm) (hs : SL r'.os r'.sc) {a : Addr} {o' : Obj}
    (h : (a = r.a ∧ o' = r'.obj ∧ r'.os = r.os) ∨ (a = r.s ∧ o' = r'.os ∧ r'.obj = r.obj)) :
    Srt w x { st with ns := ndMod st.ns r.nm fun _ => r'.ab } { D with rs := setR D.rs r.nm r' } (put a o' tl) := by
  have ha : a = r.a ∨ a = r.s := h.imp (·.1) (·.1)
  have same : ∀ q ∈ D.rs, q.nm = r.nm → q = r := fun q hq e => inj_of S.names hq hr e
  have keep : (setR D.rs r.nm r').map (fun r => (r.nm, Value.ref r.a)) = D.rs.map fun r => (r.nm, .ref r.a) := by
    unfold setR
    rw [List.map_map]
    refine List.map_congr_left fun q hq => ?_
    by_cases e : q.nm = r.nm
    · have := same q hq e
      subst this
      simp [e1, e4]
    · simp [e]
  have keepS : (setR D.rs r.nm r').map (·.s) = D.rs.map (·.s) := by
    unfold setR
    rw [List.map_map]
    refine List.map_congr_left fun q hq => ?_
    by_cases e : q.nm = r.nm
    · have := same q hq e
      subst this
      simp [e3]
    · simp [e]
  have inR : ∀ q ∈ setR D.rs r.nm r', (q = r') ∨ (q ∈ D.rs ∧ q.nm ≠ r.nm) := fun q hq => by
    obtain ⟨p, hp, e⟩ := List.mem_map.mp hq
    by_cases hc : p.nm = r.nm
    · rw [if_pos hc] at e; exact .inl e.symm
    · rw [if_neg hc] at e; subst e; exact .inr ⟨hp, hc⟩
  have N := S.node r hr
  refine ⟨put_mem S.mx ?_, put_mem S.mdx ?_, put_mem S.mN ?_, by rw [keep]; exact S.dN, S.sys, fun q hq => ?_, ?_, ?_, S.ne, fun q hq => ?_, by rw [keepS]; exact S.ss⟩
  · rcases ha with rfl | rfl
    · exact S.a_x hn hr
    · exact S.s_x hn hr
  · rcases ha with rfl | rfl
    · exact (S.a_dx hn hr).symm
    · exact (S.s_dx hn hr).symm
  · rcases ha with rfl | rfl
    · exact (S.a_N hn hr).symm
    · exact (S.s_N hn hr).symm
  · rcases inR q hq with rfl | ⟨hq', hne⟩
    · rcases h with ⟨rfl, rfl, e5⟩ | ⟨rfl, rfl, e5⟩
      · refine ⟨by rw [e1]; exact put_here N.1, by rw [e2]; exact put_mem N.2.1 (S.a_d hn hr hr).symm, ?_, hs⟩
        rw [e3, e5]; exact put_mem N.2.2.1 (S.a_s hn hr hr).symm
      · refine ⟨?_, by rw [e2]; exact put_mem N.2.1 (S.s_d hn hr hr).symm, by rw [e3]; exact put_here N.2.2.1, hs⟩
        rw [e1, e5]; exact put_mem N.1 (S.a_s hn hr hr)
    · have M := S.node q hq'
      rcases ha with rfl | rfl
      · exact ⟨put_mem M.1 (S.a_a hn hq' hr hne), put_mem M.2.1 (S.a_d hn hr hq').symm, put_mem M.2.2.1 (S.a_s hn hr hq').symm, M.2.2.2⟩
      · exact ⟨put_mem M.1 (S.a_s hn hq' hr), put_mem M.2.1 (S.s_d hn hr hq').symm, put_mem M.2.2.1 (S.s_s hq' hr hne), M.2.2.2⟩
  · have := S.rdy
    cases e : st.ready with
    | none => rw [e] at this; exact this
    | some l =>
      rw [e] at this
      refine ⟨this.1, put_mem this.2.1 ?_, this.2.2.1, fun q hq => ?_⟩
      · rcases ha with rfl | rfl
        · exact (S.a_R hn hr (by rw [e]; rfl)).symm
        · exact (this.2.2.2 r hr).symm
      · rcases inR q hq with rfl | ⟨hq', _⟩
        · rw [e3]; exact this.2.2.2 r hr
        · exact this.2.2.2 q hq'
  · show (setR D.rs r.nm r').map NR.ab = ndMod st.ns r.nm _
    rw [← S.ab]
    unfold setR ndMod
    rw [List.map_map, List.map_map]
    refine List.map_congr_left fun q hq => ?_
    by_cases e : q.nm = r.nm
    · simp [e, NR.ab]
    · simp [e, NR.ab]
  · rcases inR q hq with rfl | ⟨hq', _⟩
    · rw [e2]; exact S.ds r hr
    · exact S.ds q hq'
theorem Srt.setReady (S : Srt w x st D tl) (hn : (tl.map (·.1)).Nodup) {l l' : List Str} (hl : st.ready = some l) {oR' : Obj} (h : SL oR' l') : Srt w x { st with ready := some l' } { D with oR := oR' } (put D.R oR' tl) := by
  have hs : st.ready.isSome = true := by rw [hl]; rfl
  obtain ⟨r1, r2, r3, r4⟩ := S.rdyAt hl
  exact ⟨put_mem S.mx (S.x_R hn hs), put_mem S.mdx (S.R_dx hn hs).symm, put_mem S.mN (S.R_N hn hs).symm, S.dN, S.sys, fun q hq => ⟨put_mem (S.node q hq).1 (S.a_R hn hq hs), put_mem (S.node q hq).2.1 (S.d_R hn hq hs), put_mem (S.node q hq).2.2.1 (r4 q hq), (S.node q hq).2.2.2⟩,
    ⟨r1, put_here r2, h, r4⟩, S.ab, S.ne, S.ds, S.ss⟩
theorem Srt.setCount (S : Srt w x st D tl) (hn : (tl.map (·.1)).Nodup) {p f : Int} {tp tf : Tok} : Srt w x { st with passed := p, fin := f } { D with tp := tp, tf := tf } (put D.dx (SD.dict w { D with tp := tp, tf := tf } p f) tl) := by
  refine ⟨put_mem S.mx (S.x_dx hn), put_here S.mdx, put_mem S.mN S.ne.symm, S.dN, S.sys, fun q hq => ⟨put_mem (S.node q hq).1 (S.a_dx hn hq), put_mem (S.node q hq).2.1 (S.ds q hq).1, put_mem (S.node q hq).2.2.1 (S.s_dx hn hq), (S.node q hq).2.2.2⟩, ?_, S.ab, S.ne, S.ds, S.ss⟩
  have := S.rdy
  cases e : st.ready with
  | none => rw [e] at this; exact this
  | some l =>
    rw [e] at this
    have q : D.R ≠ D.dx := S.R_dx hn (by rw [e]; rfl)
    exact ⟨this.1, put_mem this.2.1 q, this.2.2⟩
theorem Srt.newReady (S : Srt w x st D tl) (hn : (tl.map (·.1)).Nodup) {l : List Str} {R : Addr} {oR : Obj} (hR : (R, oR) ∈ tl) (hl : SL oR l) (hs : ∀ q ∈ D.rs, q.s ≠ R) : Srt w x { st with ready := some l } { D with rv := .ref R, R := R, oR := oR } (put D.dx (SD.dict w { D with rv := .ref R, R := R, oR := oR } st.passed st.fin) tl) :=
  ⟨put_mem S.mx (S.x_dx hn), put_here S.mdx, put_mem S.mN S.ne.symm, S.dN, S.sys, fun q hq => ⟨put_mem (S.node q hq).1 (S.a_dx hn hq), put_mem (S.node q hq).2.1 (S.ds q hq).1, put_mem (S.node q hq).2.2.1 (S.s_dx hn hq), (S.node q hq).2.2.2⟩,
    ⟨rfl, put_mem hR (ne_cls hn hR S.mdx (by rw [hl.cls]; exact list_ne_dict)), hl, hs⟩, S.ab, S.ne, S.ds, S.ss⟩
end
end
section
theorem w_gm_dict {w : World} {A : Around} {h₀ : Heap} {env : Env} {ρ : Rho} {σ : Led} {d : Addr} {o : Obj} {kvs : List (Str × Value)} {name : Str} {id : String} {pl : Sem Bool} {Q : Value × List Value → Rho → Led → Prop} (hk : Kn h₀ σ d o) (hd : DD w o kvs) (slot : Slot "dict" name id) (hty : typeOf (.builtin id) = pure (.type "method_descriptor"))
    (h : Q (.builtin id, [.ref d]) ρ σ) : W w A h₀ env ρ σ (getMethod (.ref d) name pl) Q := fun s ht F => by
  have hT := (hd.at (F.kn hk)).typeIs
  exact getMethod_builtin hT PySem.F.plainAttrs_dict slot hty (fun b e => by cases e; obtain ⟨es, ep, h1, _⟩ := hd; exact ⟨_, F.kn hk, h1.2.1⟩) (Post.now F h)
theorem getinfo_spec {w : World} {loose : List Str} {mean : ExcName → Option Value} {mg mb : Str → Option Value} {x : Addr} {st : SS Str} {D : SD} {tl₀ : Led} {k : Str} {t : Tok} {h₀ : Heap} (S : Srt w x st D tl₀) (hz : st.ns.length ≤ 1000) :
   MutC w loose mean mg mb 3 (.ref 191) [.ref x, .str k t] h₀ tl₀ (fun tl v => ∃ D', Srt w x { st with ns := ndEnsure st.ns k } D' tl ∧ ∃ r ∈ D'.rs, v = .ref r.a ∧ r.nm = k) := by
  refine enterP (k := 2) (binds := [("self", .ref x), ("node", .str k t)]) (by k_is) (by k_is) (fun s _ => BindsTo.of_eq rfl) rfl ?_
  intro A L ρ O B
  have b1 := B "self" _ rfl
  have b2 := B "node" _ rfl
  clear B
  have hh := O.hh
  walk_at "ws"
  refine w_getOwn O (.inl S.mx) (.inl S.mdx) (by k_is) (by k_is) (by k_is) (by k_is) (by rfl) (by rfl) ?_
  walk_at "ws"
  refine w_gm_dict (.inl S.mN) S.dN PySem.F.slot_dict_get PySem.F.type_dict_get ?_
  walk_at "ws"
  refine w_dget S.sys (.inl S.mN) S.dN ?_
  walk_at "ws"
  rw [valueAt_rs]
  cases hf : D.rs.find? fun r => decide (r.nm = k) with
  | some r =>
    have hr := List.mem_of_find?_eq_some hf
    have hk : r.nm = k := by simpa using List.find?_some hf
    have hh' : ndHas st.ns k = true := by
      rw [← S.ab, has_rs]
      exact List.any_eq_true.mpr ⟨r, hr, by simpa using hk⟩
    refine ite_f (by simp) ?_
    walk_at "ws"
    refine ⟨_, .refl _, D, ?_, r, hr, rfl, hk⟩
    unfold ndEnsure
    rw [if_pos hh']
    exact S
  | none =>
    have hno : ∀ q ∈ D.rs, q.nm ≠ k := fun q hq e => by
      have := List.find?_eq_none.mp hf q hq
      simp [e] at this
    have hh' : ndHas st.ns k = false := by
      rw [← S.ab, has_rs, List.any_eq_false]
      intro q hq; simpa using hno q hq
    refine ite_t rfl ?_
    walk_at "ws"
    refine w_node O (Nat.le_refl _) fun r e1 e2 e3 e4 => ?_
    walk_at "ws"
    refine w_getOwn O (.inl (.tail _ (.tail _ (.tail _ S.mx)))) (.inl (.tail _ (.tail _ (.tail _ S.mdx)))) (by k_is) (by k_is) (by k_is) (by k_is) (by rfl) (by rfl) ?_
    walk_at "ws"
    with_reducible refine W.nd fun hnd => ?_
    have hnd' := hnd
    simp only [List.map_cons, List.nodup_cons] at hnd'
    have hlen : D.rs.length ≤ 1000 := by rw [← S.ab, List.length_map] at hz; exact hz
    refine w_setD (f := fun o' => (r.s, r.os) :: (r.a, r.obj) :: (r.d, emptyDict) :: put D.N o' tl₀) S.dN (by rw [List.length_map]; exact Nat.le_trans (by assumption) (by decide)) (fun o' => .tail _ (.tail _ (.tail _ (upd_put hnd'.2.2.2 S.mN)))) fun o' ho' => ?_
    walk_at "ws"
    have e6 : stored (D.rs.map fun r => (r.nm, Value.ref r.a)) k (.ref r.a) = (D.rs ++ [r]).map fun r => (r.nm, .ref r.a) := by
      unfold stored
      rw [if_neg, List.map_append, List.map_cons, List.map_nil, e1]
      intro h
      obtain ⟨p, hp, e⟩ := List.any_eq_true.mp h
      obtain ⟨q, hq, e'⟩ := List.mem_map.mp hp
      subst e'
      exact hno q hq (by simpa using e)
    rw [e6] at ho'
    have T := S.addNode (r := r) (oN' := o') hnd (by rw [e3]; exact e4) (by rw [e1]; exact hno) ho'
    have e5 : st.ns ++ [r.ab] = ndEnsure st.ns k := by
      unfold ndEnsure NR.ab
      rw [hh', e1, e2, e3]; rfl
    rw [e5] at T
    exact ⟨_, .refl _, _, T, r, List.mem_append_right _ (.head _), rfl, e1⟩
end
section
section
variable {α : Type} [DecidableEq α]
end
section
variable {α : Type} [DecidableEq α] {ns : List (Nd α)} {k p : α} {B : Nat}
theorem ensure_len : (ndEnsure ns k).length ≤ ns.length + 1 := by
  unfold ndEnsure
  split
  · exact Nat.le_add_right _ _
  · simp
theorem mod_len {f : Nd α → Nd α} : (ndMod ns k f).length = ns.length := by unfold ndMod; simp
theorem ensure_ok (h : ∀ q ∈ ns, q.sc.length ≤ B) : ∀ q ∈ ndEnsure ns k, q.sc.length ≤ B := by
  unfold ndEnsure
  split
  · exact h
  · intro q hq
    rcases List.mem_append.mp hq with hq | hq
    · exact h q hq
    · rw [List.mem_singleton.mp hq]; exact Nat.zero_le _
theorem mod_ok {f : Nd α → Nd α} (h : ∀ q ∈ ns, q.sc.length ≤ B) (hf : ∀ q ∈ ns, (f q).sc.length ≤ B) : ∀ q ∈ ndMod ns k f, q.sc.length ≤ B := by
  intro q hq
  obtain ⟨r, hr, e⟩ := List.mem_map.mp hq
  by_cases hc : r.nm = k
  · rw [if_pos hc] at e; rw [← e]; exact hf r hr
  · rw [if_neg hc] at e; rw [← e]; exact h r hr
theorem addStep_ok (h : ∀ q ∈ ns, q.sc.length ≤ B) : ∀ q ∈ addStep k ns p, q.sc.length ≤ B + 1 := by
  have h1 := ensure_ok (k := p) h
  refine mod_ok (fun q hq => Nat.le_succ_of_le (h1 q hq)) fun q hq => ?_
  have := h1 q hq
  simp; omega
theorem addStep_len : (addStep k ns p).length ≤ ns.length + 1 := by
  unfold addStep
  rw [mod_len]
  exact ensure_len
theorem mod_get {f g : Nd α → Nd α} (h : ∀ q ∈ ns, q.nm = k → f q = g q) : ndMod ns k f = ndMod ns k g := by
  unfold ndMod
  refine List.map_congr_left fun q hq => ?_
  by_cases hc : q.nm = k
  · rw [if_pos hc, if_pos hc, h q hq hc]
  · rw [if_neg hc, if_neg hc]
end
theorem Srt.ab_of {w : World} {x : Addr} {st : SS Str} {D : SD} {tl : Led} (S : Srt w x st D tl) {r : NR} (hr : r ∈ D.rs) : ∀ q ∈ st.ns, q.nm = r.nm → q = r.ab := fun q hq e => by
  rw [← S.ab] at hq
  obtain ⟨r', hr', rfl⟩ := List.mem_map.mp hq
  have : r' = r := inj_of S.names hr' hr e
  rw [this]
theorem nd_left {l r : Led} (h : ((l ++ r).map (·.1)).Nodup) : (l.map (·.1)).Nodup := by
  rw [List.map_append] at h
  exact (List.nodup_append.mp h).1
theorem W.lenT {w : World} {A : Around} {h₀ : Heap} {env : Env} {ρ : Rho} {σ : Led} {a : Addr} {o : Obj} {vs : List Value} {Q : Value → Rho → Led → Prop} (hk : Kn h₀ σ a o) (hl : TObj o vs) (hf : vs.length < 2 ^ 62) (h : ∀ t', Q (.int vs.length t') ρ σ) : W w A h₀ env ρ σ (PySem.call (.builtin "len") [.ref a]) Q := fun s ht F => by
  refine PyProof.Rows.len_tuple (t := a) (items := vs.toArray) (show IsTup s.heap a vs.toArray from hl.isTuple (F.kn hk)) ?_ ?_
  · simp; lia
  · refine ⟨ρ, σ, s.heap, _, rfl, F, ?_⟩
    have := h
    simpa using this _
inductive FI1 (w : World) (x T : Addr) (oT : Obj) (r : NR) (t : Tok) (st : SS Str) (ps : List Str) (i : Nat) (ρ : Rho) (σ : Led) : Prop
  | mk (y1 : ρ "self" = some (.ref x)) (y2 : ρ "node" = some (.str r.nm t)) (D' : _) (tl' : _) (ns' : _) (y3 : σ = tl' ++ [(T, oT)]) (y4 : Srt w x { st with ns := ns' } D' tl') (y5 : ns'.length ≤ st.ns.length + 1 + i) (y6 : (∀ q ∈ ns', q.sc.length ≤ 100 + i)) (y7 : (ps.drop i).foldl (addStep r.nm) ns' = addF st.ns r.nm ps) : FI1 w x T oT r t st ps i ρ σ
theorem add_spec {w : World} {loose : List Str} {mean : ExcName → Option Value} {mg mb : Str → Option Value} {x : Addr} {st : SS Str} {D : SD} {tl₀ : Led} {k : Str} {t : Tok} {ps : List Str} {us : List Value} {h₀ : Heap} (S : Srt w x st D tl₀) (hr : st.ready = none) (hal : Al IsS ps us) (hz : st.ns.length + ps.length ≤ 500) (hz2 : ps.length ≤ 100) (hB : ∀ q ∈ st.ns, q.sc.length ≤ 100) :
   MutC w loose mean mg mb 4 (.ref 198) (.ref x :: .str k t :: us) h₀ tl₀ (fun tl v => ∃ D', Srt w x { st with ns := addF st.ns k ps } D' tl) := by
  refine enterS (k := 3) (rest := us) (binds := fun T => [("self", .ref x), ("node", .str k t), ("predecessors", T)]) (by k_is) (by k_is) (by cases us <;> rfl) (fun _ => rfl) (by rw [hal.len]; exact Nat.le_trans (by assumption) (by decide)) ?_
  intro A L T oT ρ O B hT
  have b1 := B "self" _ rfl
  have b2 := B "node" _ rfl
  have b3 := B "predecessors" _ rfl
  clear B
  have hh := O.hh
  walk_at "ws"
  have hrv : D.rv = .none := by have := S.rdy; rw [hr] at this; exact this
  refine w_getOwn (v := D.rv) O (.inl (.tail _ S.mx)) (.inl (.tail _ S.mdx)) (by k_is) (by k_is) (by k_is) (by k_is) (by rfl) (by rw [hrv]; rfl) ?_
  walk_at "ws"
  refine ite_f (by rw [hrv]; decide) ?_
  walk_at "ws"
  refine w_gmI O (.inl (.tail _ S.mx)) (.inl (.tail _ S.mdx)) (by k_is) (by k_is) (by k_is) (by rfl) ?_
  walk_at "ws"
  walk_at "un"
  with_reducible refine W.perm (σ' := tl₀ ++ [(T, oT)]) ?_ List.perm_append_comm
  with_reducible refine W.mutC O (fun h _ _ => getinfo_spec S (by lia)) (Nat.le_refl _) ?_
  rintro _ tl ⟨D1, S1, r, hr1, rfl, rfl⟩
  walk_at "ws"
  refine w_getSlot O (.inl (List.mem_append_left _ (S1.node r hr1).1)) (.inl (List.mem_append_left _ (S1.node r hr1).2.1)) (by k_is) (by k_is) (by k_is) (by k_is) (by k_is) (by k_is) (by rfl) (by rfl) ?_
  walk_at "ws"
  refine W.lenT (.inl (List.mem_append_right _ (.head _))) hT (by rw [hal.len]; exact Nat.lt_of_le_of_lt (by assumption) (by decide)) fun t1 => ?_
  walk_at "ws"
  with_reducible refine W.nd fun hnd => ?_
  refine w_setSlot (C := 151) O (.inl (List.mem_append_left _ (S1.node r hr1).2.1)) (fun o' => (upd_put (nd_left hnd) (S1.node r hr1).1).appR) (by k_is) (by k_is) (by k_is) (by k_is) (by k_is) (by decide) ?_
  rw [arr4]
  have S2 := fun t2 : Tok => S1.setRec (nd_left hnd) (r' := { r with np := r.np + us.length, t2 := t2 }) hr1 rfl rfl rfl rfl (S1.node r hr1).2.2.2 (.inl ⟨rfl, rfl, rfl⟩)
  have e2 : ndMod (ndEnsure st.ns r.nm) r.nm (fun _ => NR.ab { r with np := r.np + us.length, t2 := 0 }) = ndMod (ndEnsure st.ns r.nm) r.nm fun q => { q with np := q.np + ps.length } := by
    refine mod_get fun q hq e => ?_
    rw [S1.ab_of hr1 q hq e, hal.len]
    rfl
  have e2' : ∀ t2 : Tok, ndMod (ndEnsure st.ns r.nm) r.nm (fun _ => NR.ab { r with np := r.np + us.length, t2 := t2 }) = ndMod (ndEnsure st.ns r.nm) r.nm fun q => { q with np := q.np + ps.length } := fun _ => e2
  simp only [e2'] at S2
  have l0 : (ndMod (ndEnsure st.ns r.nm) r.nm fun q => { q with np := q.np + ps.length }).length ≤ st.ns.length + 1 := by rw [mod_len]; exact ensure_len
  have o0 : ∀ q ∈ (ndMod (ndEnsure st.ns r.nm) r.nm fun q : Nd Str => { q with np := q.np + ps.length }), q.sc.length ≤ 100 := mod_ok (ensure_ok hB) fun q hq => ensure_ok hB q hq
  have eF : addF st.ns r.nm ps = ps.foldl (addStep r.nm) (ndMod (ndEnsure st.ns r.nm) r.nm fun q => { q with np := q.np + ps.length }) := rfl
  generalize (ndMod (ndEnsure st.ns r.nm) r.nm fun q : Nd Str => { q with np := q.np + ps.length }) = ns0 at *
  walk_at "ws"
  refine w_forTuple (σ₃ := put r.a (slObj 151 r.d #[some (Value.str r.nm r.t1), some (Value.int (r.np + ↑us.length) _), some (Value.ref r.s)]) tl ++ [(T, oT)]) hh (.inl (List.mem_append_right _ (.head _))) hT (.refl _) (FI1 w x T oT r t st ps) ?_ ?_ ?_ ?_
  · exact ⟨by walk_at "look", by walk_at "look", _, _, ns0, rfl, S2 _, l0, o0, eF.symm⟩
  · rintro i ρ σ ⟨_, _, D', tl', ns', rfl, _⟩
    exact .inl (List.mem_append_right _ (.head _))
  · rintro i v I oi ρ σ hi hv ⟨c1, c2, D', tl', ns', rfl, S3, l3, o3, e3⟩
    obtain ⟨p, hp, tp, rfl⟩ := hal.get hv
    walk_at "ws"
    refine w_gmI O (.inl (.tail _ (List.mem_append_left _ S3.mx))) (.inl (.tail _ (List.mem_append_left _ S3.mdx))) (by k_is) (by k_is) (by k_is) (by rfl) ?_
    walk_at "ws"
    have hil : i < ps.length := by rw [← hal.len]; exact hi
    walk_at "un"
    with_reducible refine W.perm (σ' := tl' ++ [(I, oi), (T, oT)]) ?_ List.perm_middle
    refine W.mutC O (fun h _ _ => getinfo_spec S3 (by show ns'.length ≤ 1000; lia)) (Nat.le_refl _) ?_
    rintro _ tl4 ⟨D4, S4, r4, hr4, rfl, rfl⟩
    walk_at "ws"
    refine w_getSlot O (.inl (List.mem_append_left _ (S4.node r4 hr4).1)) (.inl (List.mem_append_left _ (S4.node r4 hr4).2.1)) (by k_is) (by k_is) (by k_is) (by k_is) (by k_is) (by k_is) (by rfl) (by rfl) ?_
    walk_at "ws"
    refine w_gm_sappend (.inl (List.mem_append_left _ (S4.node r4 hr4).2.2.1)) (S4.node r4 hr4).2.2.2 ?_
    walk_at "ws"
    have hB4 : r4.sc.length ≤ 100 + i := by
      have : r4.ab ∈ ndEnsure ns' r4.nm := by
        have := S4.ab
        rw [← show D4.rs.map NR.ab = ndEnsure ns' r4.nm from this]
        exact List.mem_map.mpr ⟨r4, hr4, rfl⟩
      exact ensure_ok o3 _ this
    with_reducible refine W.nd fun hnd2 => ?_
    with_reducible refine w_appSL (S4.node r4 hr4).2.2.2 (by lia) (fun o' => (upd_put (nd_left hnd2) (S4.node r4 hr4).2.2.1).appR) fun o' ho' => ?_
    have S5 := S4.setRec (nd_left hnd2) (r' := { r4 with os := o', sc := r4.sc ++ [r.nm] }) hr4 rfl rfl rfl rfl ho' (.inr ⟨rfl, rfl, rfl⟩)
    have e5 : ndMod (ndEnsure ns' r4.nm) r4.nm (fun _ => NR.ab { r4 with os := o', sc := r4.sc ++ [r.nm] }) = addStep r.nm ns' r4.nm := by
      unfold addStep
      refine mod_get fun q hq e => ?_
      rw [S4.ab_of hr4 q hq e]
      rfl
    simp only [e5] at S5
    walk_at "un"
    with_reducible refine W.perm (σ' := (I, oi) :: (put r4.s o' tl4 ++ [(T, oT)])) ?_ List.perm_middle.symm
    walk_at "ws"
    refine ⟨_, .refl _, by walk_at "look", by walk_at "look", _, _, addStep r.nm ns' r4.nm, rfl, S5, ?_, ?_, ?_⟩
    · have := addStep_len (k := r.nm) (ns := ns') (p := r4.nm)
      lia
    · exact addStep_ok o3
    · rw [← e3]
      obtain ⟨hlt, e⟩ := List.getElem?_eq_some_iff.mp hp
      rw [List.drop_eq_getElem_cons hlt, e]
      rfl
  · rintro ρ σ ⟨c1, c2, D', tl', ns', rfl, S3, l3, o3, e3⟩
    walk_at "ws"
    rw [hal.len, List.drop_length] at e3
    have e3 : ns' = addF st.ns r.nm ps := e3
    rw [e3] at S3
    exact ⟨_, List.sublist_append_left _ _, D', S3⟩
end
section
theorem meets_bool_new_list (l : Addr) (items : Array Value) (hfit : (items.size : Int) < 2 ^ 63) :
    Meets (Builtin.«bool.__new__» ⟨[.type "bool", .ref l], []⟩) (fun _ R s => s.heap.IsList l items ∧ R (.ok (.ret (.bool (!items.isEmpty)))) { s with toks := s.toks + 1 + 1 }) :=
  Meets.of_wp fun prog w A R s hs => by
    obtain ⟨hl, hs⟩ := hs
    obtain ⟨hp, g, d, tk, os⟩ := s
    have f1 := PySem.F.conv_sub_bool
    repeat' (first | (with_reducible refine wpAny_truthy_list hl hfit ?_) | (first | with_reducible (first | refine wpAny_pure ?_ | refine wpAny_bind ?_ | refine wpAny_holding ?_ | refine wpAny_of_eq (by assumption) ?_ | refine wpAny_rule ?_ | refine wpAny_specialOf_val (by assumption) (by assumption) ?_ | refine wpAny_fresh' ?_ | refine wpAny_alloc' ?_ | refine wpAny_attempt ?_ | refine wpAny_call ?_ | refine wpAny_loadPart' (by assumption) ?_ | refine wpAny_load' (by assumption) ?_ | refine wpAny_typeOf (by assumption) ?_ | refine wpAny_specialOf (by assumption) (by assumption) ?_ | refine wpAny_isInstance_val (by assumption) (by assumption) ?_ | refine wpAny_isInstance (by assumption) (by assumption) ?_ | refine wpAny_standAt ?_ | refine wpAny_point ?_ | refine wpAny_letGo ?_ | refine wpAny_runValue ?_ | refine wpAny_run ?_) | ((with_reducible refine wpAny_ite_false ?_ ?_); focus (rfl; done)) | ((with_reducible refine wpAny_ite_true ?_ ?_); focus (rfl; done)) | wp_delta | with_reducible_and_instances (first | refine wpAny_pure ?_ | refine wpAny_bind ?_)) | with_reducible assumption)
    all_goals first | exact ⟨_, rfl, hs⟩ | exact hs | skip
theorem w_boolL {w : World} {A : Around} {h₀ : Heap} {env : Env} {ρ : Rho} {σ : Led} {a : Addr} {o : Obj} {vs : List Value} {Q : Value → Rho → Led → Prop} (hk : Kn h₀ σ a o) (hl : LW o vs) (hz : vs.length ≤ 1000000) (h : Q (.bool (!vs.isEmpty)) ρ σ) : W w A h₀ env ρ σ (PySem.call (.type "bool") [.ref a]) Q := fun s ht F =>
  call_bool_1 (meets_bool_new_list a vs.toArray (by simp; lia)) ⟨hl.isList (F.kn hk), (show wants (fun obj s₁ => s₁.TypeIs obj "bool" ∧ Post h₀ env s Q obj s₁) _ _ _ from ⟨rfl, ρ, σ, s.heap, _, rfl, F, by
    have e : vs.toArray.isEmpty = vs.isEmpty := by simp
    rw [e]; exact h⟩)⟩
theorem active_spec {w : World} {loose : List Str} {mean : ExcName → Option Value} {mg mb : Str → Option Value} {x : Addr} {st : SS Str} {D : SD} {tl₀ : Led} {l : List Str} {h₀ : Heap} (S : Srt w x st D tl₀) (hr : st.ready = some l) (hz : l.length ≤ 1000) :
   MutC w loose mean mg mb 1 (.ref 217) [.ref x] h₀ tl₀ (fun tl v => tl = tl₀ ∧ v = .bool (decide (st.fin < st.passed) || !l.isEmpty)) := by
  refine enterP (k := 0) (binds := [("self", .ref x)]) (by k_is) (by k_is) (fun s _ => BindsTo.of_eq rfl) rfl ?_
  intro A L ρ O B
  have b1 := B "self" _ rfl
  clear B
  have hh := O.hh
  obtain ⟨r1, r2, r3, r4⟩ := S.rdyAt hr
  walk_at "ws"
  refine w_getOwn (v := D.rv) O (.inl S.mx) (.inl S.mdx) (by k_is) (by k_is) (by k_is) (by k_is) (by rfl) (by rw [r1]; rfl) ?_
  walk_at "ws"
  refine ite_f (by rw [r1]; exact Bool.false_ne_true) ?_
  walk_at "ws"
  refine w_getOwn O (.inl S.mx) (.inl S.mdx) (by k_is) (by k_is) (by k_is) (by k_is) (by rfl) (by rfl) ?_
  walk_at "ws"
  refine w_getOwn O (.inl S.mx) (.inl S.mdx) (by k_is) (by k_is) (by k_is) (by k_is) (by rfl) (by rfl) ?_
  walk_at "ws"
  by_cases hc : st.fin < st.passed
  · refine ite_t (by simpa using hc) ?_
    walk_at "ws"
    exact ⟨_, .refl _, rfl, by simp [hc, retOf]⟩
  · refine ite_f (by simpa using hc) ?_
    walk_at "ws"
    refine w_getOwn (v := D.rv) O (.inl S.mx) (.inl S.mdx) (by k_is) (by k_is) (by k_is) (by k_is) (by rfl) (by rw [r1]; rfl) ?_
    rw [r1]
    walk_at "ws"
    obtain ⟨vs, hv, hal⟩ := r3.al
    refine w_boolL (.inl r2) hv.lw (by rw [hal.len]; exact Nat.le_trans (by assumption) (by decide)) ?_
    walk_at "ws"
    refine ⟨_, .refl _, rfl, ?_⟩
    have e : vs.isEmpty = l.isEmpty := by
      have := hal.len
      cases vs <;> cases l <;> simp at this ⊢
    simp [hc, retOf, e]
theorem Srt.get {w : World} {x : Addr} {st : SS Str} {D : SD} {tl : Led} (S : Srt w x st D tl) {k : Str} (h : ndHas st.ns k = true) : ∃ r ∈ D.rs, r.nm = k ∧ valueAt (D.rs.map fun r => (r.nm, Value.ref r.a)) k = some (.ref r.a) := by
  rw [← S.ab, has_rs] at h
  rw [valueAt_rs]
  cases hf : D.rs.find? fun r => decide (r.nm = k) with
  | none =>
    obtain ⟨r, hr, e⟩ := List.any_eq_true.mp h
    exact absurd e (List.find?_eq_none.mp hf r hr)
  | some r => exact ⟨r, List.mem_of_find?_eq_some hf, by simpa using List.find?_some hf, rfl⟩
theorem has_mod {α : Type} [DecidableEq α] {ns : List (Nd α)} {k j : α} {f : Nd α → Nd α} (hf : ∀ q ∈ ns, (f q).nm = q.nm) : ndHas (ndMod ns k f) j = ndHas ns j := by
  unfold ndHas ndMod
  rw [List.any_map, Bool.eq_iff_iff]
  simp only [List.any_eq_true, Function.comp_apply, decide_eq_true_eq]
  constructor
  · rintro ⟨q, hq, e⟩
    refine ⟨q, hq, ?_⟩
    by_cases hc : q.nm = k
    · rw [if_pos hc, hf q hq] at e; exact e
    · rw [if_neg hc] at e; exact e
  · rintro ⟨q, hq, e⟩
    refine ⟨q, hq, ?_⟩
    by_cases hc : q.nm = k
    · rw [if_pos hc, hf q hq]; exact e
    · rw [if_neg hc]; exact e
section
variable {α : Type} [DecidableEq α]
end
inductive GI1 (w : World) (x T : Addr) (oT : Obj) (D : SD) (st : SS Str) (l : List Str) (i : Nat) (ρ : Rho) (σ : Led) : Prop
  | mk (y1 : ρ "self" = some (.ref x)) (y2 : ρ "result" = some (.ref T)) (y3 : ρ "n2i" = some (.ref D.N)) (D' : _) (tl' : _) (ns' : _) (y4 : σ = (T, oT) :: tl') (y5 : D'.N = D.N) (y6 : Srt w x { st with ns := ns' } D' tl') (y7 : (∀ k, ndHas ns' k = ndHas st.ns k)) (y8 : outF ns' (l.drop i) = outF st.ns l) : GI1 w x T oT D st l i ρ σ
theorem ready_spec {w : World} {loose : List Str} {mean : ExcName → Option Value} {mg mb : Str → Option Value} {x : Addr} {st : SS Str} {D : SD} {tl₀ : Led} {l : List Str} {h₀ : Heap} (S : Srt w x st D tl₀) (hr : st.ready = some l) (hz : l.length ≤ 1000) (hin : ∀ k ∈ l, ndHas st.ns k = true) :
   MutC w loose mean mg mb 1 (.ref 210) [.ref x] h₀ tl₀ (fun tl v => ∃ D' T oT us tl', tl = (T, oT) :: tl' ∧ v = .ref T ∧ TObj oT us ∧ Al IsS l us ∧ Srt w x ⟨outF st.ns l, some [], st.passed + l.length, st.fin⟩ D' tl') := by
  refine enterP (k := 0) (binds := [("self", .ref x)]) (by k_is) (by k_is) (fun s _ => BindsTo.of_eq rfl) rfl ?_
  intro A L ρ O B
  have b1 := B "self" _ rfl
  clear B
  have hh := O.hh
  obtain ⟨r1, r2, r3, r4⟩ := S.rdyAt hr
  walk_at "ws"
  refine w_getOwn (v := D.rv) O (.inl S.mx) (.inl S.mdx) (by k_is) (by k_is) (by k_is) (by k_is) (by rfl) (by rw [r1]; rfl) ?_
  walk_at "ws"
  refine ite_f (by rw [r1]; exact Bool.false_ne_true) ?_
  walk_at "ws"
  refine w_getOwn (v := D.rv) O (.inl S.mx) (.inl S.mdx) (by k_is) (by k_is) (by k_is) (by k_is) (by rfl) (by rw [r1]; rfl) ?_
  rw [r1]
  walk_at "ws"
  obtain ⟨us, hu, hal⟩ := r3.al
  have hul := hal.len
  refine w_tupOfL (.inl r2) hu (by lia) fun T oT hT => ?_
  walk_at "ws"
  refine w_getOwn O (.inl (.tail _ S.mx)) (.inl (.tail _ S.mdx)) (by k_is) (by k_is) (by k_is) (by k_is) (by rfl) (by rfl) ?_
  walk_at "ws"
  refine w_forTuple (σ₃ := (T, oT) :: tl₀) hh (.inl (.head _)) hT (.refl _) (GI1 w x T oT D st l) ?_ ?_ ?_ ?_
  · exact ⟨by walk_at "look", by walk_at "look", by walk_at "look", D, tl₀, st.ns, rfl, rfl, S, fun _ => rfl, rfl⟩
  · rintro i ρ σ ⟨_, _, _, D', tl', ns', rfl, _⟩
    exact .inl (.head _)
  · rintro i v I oi ρ σ hi hv ⟨c1, c2, c3, D', tl', ns', rfl, eN, S3, h3, e3⟩
    obtain ⟨p, hp, tp, rfl⟩ := hal.get hv
    have hpl := hin p (List.mem_of_getElem? hp)
    rw [← h3] at hpl
    obtain ⟨r, hr1, rfl, hva⟩ := S3.get (k := p) hpl
    rw [← eN] at c3
    walk_at "ws"
    refine w_subD (.inl (.tail _ (.tail _ S3.mN))) S3.dN (w_getD (.inl (.tail _ (.tail _ S3.mN))) S3.dN hva ?_)
    with_reducible refine W.nd fun hnd => ?_
    simp only [List.map_cons, List.nodup_cons] at hnd
    have S4 := fun t2 : Tok => S3.setRec hnd.2.2 (r' := { r with np := -1, t2 := t2 }) hr1 rfl rfl rfl rfl (S3.node r hr1).2.2.2 (.inl ⟨rfl, rfl, rfl⟩)
    have e4 : ∀ t2 : Tok, ndMod ns' r.nm (fun _ => NR.ab { r with np := -1, t2 := t2 }) = ndMod ns' r.nm fun q => { q with np := -1 } := fun t2 => mod_get fun q hq e => by
      rw [S3.ab_of hr1 q hq e]; rfl
    simp only [e4] at S4
    refine w_setSlot (C := 151) O (.inl (.tail _ (.tail _ (S3.node r hr1).2.1))) (fun o' => .tail _ (.tail _ (upd_put hnd.2.2 (S3.node r hr1).1))) (by k_is) (by k_is) (by k_is) (by k_is) (by k_is) (by decide) ?_
    rw [arr4]
    walk_at "ws"
    refine ⟨_, .refl _, by walk_at "look", by walk_at "look", ?_, _, _, _, rfl, ?_, S4 _, fun k => (has_mod (f := fun q : Nd Str => { q with np := -1 }) fun _ _ => rfl).trans (h3 k), ?_⟩
    · rw [← eN]; walk_at "look"
    · exact eN
    · rw [← e3]
      obtain ⟨hlt, e⟩ := List.getElem?_eq_some_iff.mp hp
      rw [List.drop_eq_getElem_cons hlt, e]
      rfl
  · rintro ρ σ ⟨c1, c2, c3, D', tl', ns', rfl, eN, S3, h3, e3⟩
    rw [hul, List.drop_length] at e3
    have e3 : ns' = outF st.ns l := e3
    obtain ⟨q1, q2, q3, q4⟩ := S3.rdyAt (l := l) hr
    walk_at "ws"
    refine w_getOwn (v := D'.rv) O (.inl (.tail _ S3.mx)) (.inl (.tail _ S3.mdx)) (by k_is) (by k_is) (by k_is) (by k_is) (by rfl) (by rw [q1]; rfl) ?_
    rw [q1]
    refine w_gm_sclear (.inl (.tail _ q2)) q3 ?_
    walk_at "ws"
    with_reducible refine W.nd fun hnd => ?_
    simp only [List.map_cons, List.nodup_cons] at hnd
    obtain ⟨vs4, hv4, hal4⟩ := q3.al
    refine w_clear hv4 (by rw [hal4.len]; lia) (fun o' => .tail _ (upd_put hnd.2 q2)) fun o' ho' => ?_
    have S5 := S3.setReady hnd.2 (l := l) hr (SL.nil ho')
    walk_at "ws"
    refine w_getOwn O (.inl (.tail _ S5.mx)) (.inl (.tail _ S5.mdx)) (by k_is) (by k_is) (by k_is) (by k_is) (by rfl) (by rfl) ?_
    walk_at "ws"
    refine W.lenT (.inl (.head _)) hT (by lia) fun t1 => ?_
    walk_at "ws"
    with_reducible refine W.nd fun hnd2 => ?_
    simp only [List.map_cons, List.nodup_cons] at hnd2
    refine w_setDict O (.inl (.tail _ S5.mx)) (fun o' => .tail _ (upd_put hnd2.2 S5.mdx)) (by k_is) (by k_is) (by k_is) (by k_is) (by rfl) (Nat.le_of_ble_eq_true rfl) fun t5 => ?_
    walk_at "ws"
    have S6 := fun tp : Tok => S5.setCount hnd2.2 (p := st.passed + us.length) (f := st.fin) (tp := tp) (tf := D'.tf)
    rw [e3] at S6
    rw [← hul]
    exact ⟨_, .refl _, _, T, oT, us, _, rfl, rfl, hT, hal, S6 _⟩
end
section
section
variable {α : Type} [DecidableEq α]
end
theorem Srt.getNd {w : World} {x : Addr} {st : SS Str} {D : SD} {tl : Led} (S : Srt w x st D tl) {r : NR} (hr : r ∈ D.rs) : ndGet st.ns r.nm = some r.ab := by
  unfold ndGet
  cases hf : st.ns.find? fun q => decide (q.nm = r.nm) with
  | none =>
    have : r.ab ∈ st.ns := by rw [← S.ab]; exact List.mem_map.mpr ⟨r, hr, rfl⟩
    have := List.find?_eq_none.mp hf _ this
    simp [NR.ab] at this
  | some q => rw [S.ab_of hr q (List.mem_of_find?_eq_some hf) (by simpa using List.find?_some hf)]
theorem fin_dict (w : World) (D : SD) (p f f' : Int) (t5 t : Tok) : dictOf (putL "_nfinished" (PyData.keyHash w.params "_nfinished") (.str "_nfinished" t5) (.int f' t) (sEs w D.t1 D.t2 D.t3 D.t4 (.ref D.N) D.rv (.int p D.tp) (.int f D.tf)))
    (putN "_nfinished" (sEs w D.t1 D.t2 D.t3 D.t4 (.ref D.N) D.rv (.int p D.tp) (.int f D.tf)) D.n) = SD.dict w { D with tp := D.tp, tf := t } p f' := rfl
theorem setR_keep {rs : List NR} {r4 r' r2 : NR} (hn : (rs.map (·.nm)).Nodup) (h4 : r4 ∈ rs) (e3 : r'.s = r4.s) (e5 : r'.os = r4.os) (h2 : r2 ∈ rs) : ∃ r3 ∈ setR rs r4.nm r', r3.s = r2.s ∧ r3.os = r2.os := by
  by_cases hc : r2.nm = r4.nm
  · have : r2 = r4 := inj_of hn h2 h4 hc
    subst this
    exact ⟨r', List.mem_map.mpr ⟨r2, h2, if_pos rfl⟩, e3, e5⟩
  · exact ⟨r2, List.mem_map.mpr ⟨r2, h2, if_neg hc⟩, rfl, rfl⟩
theorem setR_here {rs : List NR} {r4 r' : NR} (h4 : r4 ∈ rs) : r' ∈ setR rs r4.nm r' := List.mem_map.mpr ⟨r4, h4, if_pos rfl⟩
inductive EI1 (w : World) (x T : Addr) (oT : Obj) (D : SD) (st : SS Str) (l : List Str) (k : Str) (q : Nd Str) (tl₀ : Led) (i : Nat) (ρ : Rho) (σ : Led) : Prop
  | mk (y1 : ρ "self" = some (.ref x)) (y2 : ρ "n2i" = some (.ref D.N)) (tl' : _) (y3 : σ = (T, oT) :: tl') (y4 : (i = 0 → tl' = tl₀)) (y5 : (i = 1 → ∃ D', Srt w x ⟨(doneF st.ns l k q.sc).1, some (doneF st.ns l k q.sc).2, st.passed, st.fin + 1⟩ D' tl')) : EI1 w x T oT D st l k q tl₀ i ρ σ
inductive EI2 (w : World) (x T I : Addr) (oT oi : Obj) (D : SD) (st : SS Str) (l : List Str) (r : NR) (q : Nd Str) (j : Nat) (ρ : Rho) (σ : Led) : Prop
  | mk (y1 : ρ "self" = some (.ref x)) (y2 : ρ "n2i" = some (.ref D.N)) (D2 : _) (tl2 : _) (ns2 : _) (rd2 : _) (y3 : σ = (I, oi) :: (T, oT) :: tl2) (y4 : D2.N = D.N) (y5 : Srt w x ⟨ns2, some rd2, st.passed, st.fin⟩ D2 tl2) (y6 : (∃ r2 ∈ D2.rs, r2.s = r.s ∧ r2.os = r.os)) (y7 : (∀ k, ndHas ns2 k = ndHas st.ns k)) (y8 : rd2.length ≤ l.length + j) (y9 : (q.sc.drop j).foldl decStep (ns2, rd2) = doneF st.ns l r.nm q.sc) : EI2 w x T I oT oi D st l r q j ρ σ
theorem done_spec {w : World} {loose : List Str} {mean : ExcName → Option Value} {mg mb : Str → Option Value} {x : Addr} {st : SS Str} {D : SD} {tl₀ : Led} {l : List Str} {k : Str} {t : Tok} {q : Nd Str} {h₀ : Heap} (S : Srt w x st D tl₀) (hr : st.ready = some l) (hz : l.length ≤ 1000) (hq : ndGet st.ns k = some q) (hnp : q.np = -1) (hin : ∀ j ∈ q.sc, ndHas st.ns j = true) (hsz : q.sc.length ≤ 1000) :
   MutC w loose mean mg mb 1 (.ref 231) [.ref x, .str k t] h₀ tl₀ (fun tl v => v = .none ∧ ∃ D', Srt w x ⟨(doneF st.ns l k q.sc).1, some (doneF st.ns l k q.sc).2, st.passed, st.fin + 1⟩ D' tl) := by
  refine enterS (k := 0) (rest := [.str k t]) (binds := fun T => [("self", .ref x), ("nodes", T)]) (by k_is) (by k_is) rfl (fun _ => rfl) (by simp) ?_
  intro A L T oT ρ O B hT
  have b1 := B "self" _ rfl
  have b2 := B "nodes" _ rfl
  clear B
  have hh := O.hh
  obtain ⟨r1, r2, r3, r4⟩ := S.rdyAt hr
  walk_at "ws"
  refine w_getOwn (v := D.rv) O (.inl (.tail _ S.mx)) (.inl (.tail _ S.mdx)) (by k_is) (by k_is) (by k_is) (by k_is) (by rfl) (by rw [r1]; rfl) ?_
  walk_at "ws"
  refine ite_f (by rw [r1]; exact Bool.false_ne_true) ?_
  walk_at "ws"
  refine w_getOwn O (.inl (.tail _ S.mx)) (.inl (.tail _ S.mdx)) (by k_is) (by k_is) (by k_is) (by k_is) (by rfl) (by rfl) ?_
  walk_at "ws"
  refine w_forTuple (σ₃ := (T, oT) :: tl₀) hh (.inl (.head _)) hT (.refl _) (EI1 w x T oT D st l k q tl₀) ?_ ?_ ?_ ?_
  · exact ⟨by walk_at "look", by walk_at "look", tl₀, rfl, fun _ => rfl, fun h => by cases h⟩
  · rintro i ρ σ ⟨_, _, tl', rfl, _⟩
    exact .inl (.head _)
  · rintro i v I oi ρ σ hi hv ⟨c1, c2, tl', rfl, h0, _⟩
    obtain rfl : i = 0 := by simpa using hi
    obtain rfl := h0 rfl
    cases hv
    have hk : ndHas st.ns k = true := by
      unfold ndHas
      rw [List.any_eq_true]
      exact ⟨q, List.mem_of_find?_eq_some hq, List.find?_some (p := fun q : Nd Str => decide (q.nm = k)) hq⟩
    obtain ⟨r, hr1, rfl, hva⟩ := S.get (k := k) hk
    have hab : r.ab = q := by have := S.getNd hr1; rw [hq] at this; exact (Option.some.inj this).symm
    have hnp' : r.np = -1 := by rw [← hab] at hnp; exact hnp
    walk_at "ws"
    refine w_gm_dict (.inl (.tail _ (.tail _ S.mN))) S.dN PySem.F.slot_dict_get PySem.F.type_dict_get ?_
    walk_at "ws"
    refine w_dget S.sys (.inl (.tail _ (.tail _ S.mN))) S.dN ?_
    rw [hva, Option.getD_some]
    walk_at "ws"
    refine ite_f Bool.false_ne_true ?_
    walk_at "ws"
    refine w_getSlot O (.inl (.tail _ (.tail _ (S.node r hr1).1))) (.inl (.tail _ (.tail _ (S.node r hr1).2.1))) (by k_is) (by k_is) (by k_is) (by k_is) (by k_is) (by k_is) (by rfl) (by rfl) ?_
    walk_at "ws"
    refine ite_f (by rw [hnp']; decide) ?_
    walk_at "ws"
    with_reducible refine W.nd fun hnd => ?_
    simp only [List.map_cons, List.nodup_cons] at hnd
    have S1 := fun t2 : Tok => S.setRec hnd.2.2 (r' := { r with np := -2, t2 := t2 }) hr1 rfl rfl rfl rfl (S.node r hr1).2.2.2 (.inl ⟨rfl, rfl, rfl⟩)
    have e1 : ∀ t2 : Tok, ndMod st.ns r.nm (fun _ => NR.ab { r with np := -2, t2 := t2 }) = ndMod st.ns r.nm fun q => { q with np := -2 } := fun t2 => mod_get fun q hq e => by
      rw [S.ab_of hr1 q hq e]; rfl
    simp only [e1] at S1
    refine w_setSlot (C := 151) O (.inl (.tail _ (.tail _ (S.node r hr1).2.1))) (fun o' => .tail _ (.tail _ (upd_put hnd.2.2 (S.node r hr1).1))) (by k_is) (by k_is) (by k_is) (by k_is) (by k_is) (by decide) ?_
    rw [arr4]
    walk_at "ws"
    have S1' : Srt w x _ _ (put r.a (slObj 151 r.d #[some (Value.str r.nm r.t1), some (Value.int (-2) 610), some (Value.ref r.s)]) tl') := S1 610
    have hr2 : ({ r with np := -2, t2 := 610 } : NR) ∈ setR D.rs r.nm { r with np := -2, t2 := 610 } := setR_here hr1
    clear S1
    generalize put r.a (slObj 151 r.d #[some (Value.str r.nm r.t1), some (Value.int (-2) 610), some (Value.ref r.s)]) tl' = tl1 at *
    refine w_getSlot (v := .ref r.s) O (.inl (.tail _ (.tail _ (S1'.node _ hr2).1))) (.inl (.tail _ (.tail _ (S1'.node _ hr2).2.1))) (by k_is) (by k_is) (by k_is) (by k_is) (by k_is) (by k_is) (by rfl) (by rfl) ?_
    obtain ⟨vs, hvs, hal⟩ := (S.node r hr1).2.2.2.al
    have hsc : r.sc = q.sc := by rw [← hab]; rfl
    rw [hsc] at hal
    have hvl := hal.len
    refine w_forList (σ₃ := (I, oi) :: (T, oT) :: tl1) hh (.inl (.tail _ (.tail _ (S1'.node _ hr2).2.2.1))) hvs (.refl _) (EI2 w x T I oT oi D st l r q) ?_ ?_ ?_ ?_
    · rw [hr] at S1'
      exact ⟨by walk_at "look", by walk_at "look", { D with rs := setR D.rs r.nm { r with np := -2, t2 := 610 } }, tl1, _, l, rfl, rfl, S1', ⟨_, hr2, rfl, rfl⟩, fun k => has_mod (f := fun q : Nd Str => { q with np := -2 }) fun _ _ => rfl, Nat.le_refl _, rfl⟩
    · rintro j ρ σ ⟨_, _, D2, tl2, ns2, rd2, rfl, _, S2, ⟨r2, hr2, e1, e2⟩, _⟩
      have := (S2.node r2 hr2).2.2.1
      rw [e1, e2] at this
      exact .inl (.tail _ (.tail _ this))
    · rintro j v J oj ρ σ hj hv ⟨d1, d2, D2, tl2, ns2, rd2, rfl, eN, S2, ⟨r2, hr2', f1, f2⟩, h2, hlen, e2⟩
      obtain ⟨p, hp, tp, rfl⟩ := hal.get hv
      have hpl := hin p (List.mem_of_getElem? hp)
      rw [← h2] at hpl
      obtain ⟨r4, hr4, rfl, hva4⟩ := S2.get (k := p) hpl
      rw [← eN] at d2
      walk_at "ws"
      refine w_subD (.inl (.tail _ (.tail _ (.tail _ S2.mN)))) S2.dN (w_getD (.inl (.tail _ (.tail _ (.tail _ S2.mN)))) S2.dN hva4 ?_)
      walk_at "ws"
      refine w_getSlot O (.inl (.tail _ (.tail _ (.tail _ (S2.node _ hr4).1)))) (.inl (.tail _ (.tail _ (.tail _ (S2.node _ hr4).2.1)))) (by k_is) (by k_is) (by k_is) (by k_is) (by k_is) (by k_is) (by rfl) (by rfl) ?_
      walk_at "ws"
      rename_i tk
      with_reducible refine W.nd fun hnd => ?_
      simp only [List.map_cons, List.nodup_cons] at hnd
      have hnd2 := hnd.2.2.2
      clear hnd
      have S3 := fun t2 : Tok => S2.setRec hnd2 (r' := { r4 with np := r4.np - 1, t2 := t2 }) hr4 rfl rfl rfl rfl (S2.node r4 hr4).2.2.2 (.inl ⟨rfl, rfl, rfl⟩)
      have e3 : ∀ t2 : Tok, ndMod ns2 r4.nm (fun _ => NR.ab { r4 with np := r4.np - 1, t2 := t2 }) = ndMod ns2 r4.nm fun q => { q with np := q.np - 1 } := fun t2 => mod_get fun q hq e => by
        rw [S2.ab_of hr4 q hq e]; rfl
      simp only [e3] at S3
      refine w_setSlot (C := 151) O (.inl (.tail _ (.tail _ (.tail _ (S2.node r4 hr4).2.1)))) (fun o' => .tail _ (.tail _ (.tail _ (upd_put hnd2 (S2.node r4 hr4).1)))) (by k_is) (by k_is) (by k_is) (by k_is) (by k_is) (by decide) ?_
      rw [arr4]
      walk_at "ws"
      have hg : ndGet ns2 r4.nm = some r4.ab := S2.getNd hr4
      have e4 : decStep (ns2, rd2) r4.nm = (ndMod ns2 r4.nm fun q => { q with np := q.np - 1 }, if r4.np - 1 == 0 then rd2 ++ [r4.nm] else rd2) := by
        unfold decStep
        rw [hg]
        rfl
      have e5 : (q.sc.drop (j + 1)).foldl decStep (decStep (ns2, rd2) r4.nm) = doneF st.ns l r.nm q.sc := by
        rw [← e2]
        obtain ⟨hlt, e⟩ := List.getElem?_eq_some_iff.mp hp
        rw [List.drop_eq_getElem_cons hlt, e]
        rfl
      rw [e4] at e5
      have S3t : Srt w x ⟨ndMod ns2 r4.nm fun q => { q with np := q.np - 1 }, some rd2, st.passed, st.fin⟩ { D2 with rs := setR D2.rs r4.nm { r4 with np := r4.np - 1, t2 := tk } } (put r4.a (slObj 151 r4.d #[some (Value.str r4.nm r4.t1), some (Value.int (r4.np - 1) tk), some (Value.ref r4.s)]) tl2) := S3 tk
      have hr4' : ({ r4 with np := r4.np - 1, t2 := tk } : NR) ∈ setR D2.rs r4.nm { r4 with np := r4.np - 1, t2 := tk } := setR_here hr4
      have hkeep := setR_keep (r' := { r4 with np := r4.np - 1, t2 := tk }) S2.names hr4 rfl rfl hr2'
      clear S3 e3
      generalize put r4.a (slObj 151 r4.d #[some (Value.str r4.nm r4.t1), some (Value.int (r4.np - 1) tk), some (Value.ref r4.s)]) tl2 = tl3 at *
      have hhas : ∀ k, ndHas (ndMod ns2 r4.nm fun q => { q with np := q.np - 1 }) k = ndHas st.ns k := fun k => (has_mod (f := fun q : Nd Str => { q with np := q.np - 1 }) fun _ _ => rfl).trans (h2 k)
      refine w_getSlot (v := .int (r4.np - 1) tk) O (.inl (.tail _ (.tail _ (.tail _ (S3t.node _ hr4').1)))) (.inl (.tail _ (.tail _ (.tail _ (S3t.node _ hr4').2.1)))) (by k_is) (by k_is) (by k_is) (by k_is) (by k_is) (by k_is) (by rfl) (by rfl) ?_
      walk_at "ws"
      obtain ⟨r3, hr3, g1, g2⟩ := hkeep
      by_cases hc : r4.np - 1 = 0
      · refine ite_t (by rw [hc]; rfl) ?_
        obtain ⟨q1, q2, q3, q4⟩ := S3t.rdyAt (l := rd2) rfl
        have q1 : D2.rv = .ref D2.R := q1
        have q2 : (D2.R, D2.oR) ∈ tl3 := q2
        walk_at "ws"
        refine w_getOwn (v := D2.rv) O (.inl (.tail _ (.tail _ (.tail _ S3t.mx)))) (.inl (.tail _ (.tail _ (.tail _ S3t.mdx)))) (by k_is) (by k_is) (by k_is) (by k_is) (by rfl) (by rw [q1]; rfl) ?_
        rw [q1]
        refine w_gm_sappend (.inl (.tail _ (.tail _ (.tail _ q2)))) q3 ?_
        walk_at "ws"
        with_reducible refine W.nd fun hnd => ?_
        simp only [List.map_cons, List.nodup_cons] at hnd
        have hjl : j < q.sc.length := by rw [← hvl]; exact hj
        with_reducible refine w_appSL q3 (by lia) (fun o' => .tail _ (.tail _ (.tail _ (upd_put hnd.2.2.2 q2)))) fun o' ho' => ?_
        have S5 := S3t.setReady hnd.2.2.2 rfl ho'
        walk_at "ws"
        refine ⟨_, .refl _, by walk_at "look", by rw [← eN]; walk_at "look", _, _, _, _, rfl, ?_, S5, ⟨r3, hr3, g1.trans f1, g2.trans f2⟩, hhas, ?_, ?_⟩
        · exact eN
        · rw [List.length_append, List.length_singleton]; exact Nat.lt_succ_of_le (by assumption)
        · rw [← e5, hc]; rfl
      · refine ite_f (by simpa using hc) ?_
        walk_at "ws"
        refine ⟨_, .refl _, by walk_at "look", by rw [← eN]; walk_at "look", _, _, _, rd2, rfl, ?_, S3t, ⟨r3, hr3, g1.trans f1, g2.trans f2⟩, hhas, by lia, ?_⟩
        · exact eN
        · rw [← e5, if_neg (by simpa using hc)]
    · rintro ρ σ ⟨d1, d2, D2, tl2, ns2, rd2, rfl, eN, S2, ⟨r2, hr2, f1, f2⟩, h2, hlen, e2⟩
      rw [hvl, List.drop_length] at e2
      have e2 : (ns2, rd2) = doneF st.ns l r.nm q.sc := e2
      walk_at "ws"
      refine w_getOwn O (.inl (.tail _ (.tail _ S2.mx))) (.inl (.tail _ (.tail _ S2.mdx))) (by k_is) (by k_is) (by k_is) (by k_is) (by rfl) (by rfl) ?_
      walk_at "ws"
      with_reducible refine W.nd fun hnd => ?_
      simp only [List.map_cons, List.nodup_cons] at hnd
      refine w_setDict O (.inl (.tail _ (.tail _ S2.mx))) (fun o' => .tail _ (.tail _ (upd_put hnd.2.2 S2.mdx))) (by k_is) (by k_is) (by k_is) (by k_is) (by rfl) (Nat.le_of_ble_eq_true rfl) fun t5 => ?_
      walk_at "ws"
      have S6 := fun tf : Tok => S2.setCount hnd.2.2 (p := st.passed) (f := st.fin + 1) (tp := D2.tp) (tf := tf)
      refine ⟨_, .refl _, by walk_at "look", by rw [← eN]; rw [← eN] at d2; walk_at "look", _, rfl, fun h => (nomatch h), fun _ => ?_⟩
      rw [← e2, fin_dict]
      exact ⟨_, S6 _⟩
  · rintro ρ σ ⟨c1, c2, tl', rfl, _, h1⟩
    obtain ⟨D', S'⟩ := h1 rfl
    walk_at "ws"
    exact ⟨_, .cons _ (.refl _), rfl, D', S'⟩
end
section
theorem WF.hide {α : Type} {w : World} {A : Around} {h₀ : Heap} {env : Env} {ρ : Rho} {σ : Led} {t : Sem α} {Q : Heap → α → Rho → Led → Prop} (h : ∀ R : Heap → α → Rho → Led → Prop, (∀ h a ρ σ, Q h a ρ σ → R h a ρ σ) → WF w A h₀ env ρ σ t R) : WF w A h₀ env ρ σ t Q := h Q fun _ _ _ _ x => x
set_option genInjectivity false in
set_option genSizeOf false in
/-- one open node of the search -/
structure FR where
  r : NR
  p : Nat
  I : Addr
  B : Addr
  oi : Obj
noncomputable abbrev mwN (I : Addr) : Obj := mwO "list_iterator.__next__" (.ref I)
noncomputable def frLed : List FR → Led
  | [] => []
  | f :: fs => (f.I, f.oi) :: (f.B, mwN f.I) :: frLed fs
noncomputable def stk (frs : List FR) : List Str := frs.reverse.map (·.r.nm)
/-- what is still to do -/
noncomputable def todo (ns : List (Nd Str)) (S : Str → Bool) : Nat := ((ns.filter fun q => !S q.nm).map fun q => q.sc.length + 2).sum
noncomputable def remain (frs : List FR) : Nat := (frs.map fun f => f.r.sc.length - f.p).sum
theorem todo_add {ns : List (Nd Str)} {S : Str → Bool} {q : Nd Str} (hq : q ∈ ns) (hS : S q.nm = false) : todo ns (fun k => S k || decide (k = q.nm)) + (q.sc.length + 2) ≤ todo ns S := by
  induction ns with
  | nil => simp at hq
  | cons r ns ih =>
    have mono : ∀ ns : List (Nd Str), todo ns (fun k => S k || decide (k = q.nm)) ≤ todo ns S := by
      intro ns
      induction ns with
      | nil => simp [todo]
      | cons r ns ih =>
        unfold todo at ih ⊢
        by_cases h1 : S r.nm = true
        · simp [List.filter_cons, h1]; simpa using ih
        · by_cases h2 : r.nm = q.nm
          · simp [List.filter_cons, h1, h2, hS]; simp at ih; lia
          · simp [List.filter_cons, h1, h2]; simpa using ih
    rcases List.mem_cons.mp hq with rfl | hq
    · have := mono ns
      unfold todo at this ⊢
      simp [List.filter_cons, hS]; simp at this; lia
    · have := ih hq
      unfold todo at this ⊢
      by_cases h1 : S r.nm = true
      · simp [List.filter_cons, h1]; simpa using this
      · by_cases h2 : r.nm = q.nm
        · simp [List.filter_cons, h1, h2, hS]; simp at this; lia
        · simp [List.filter_cons, h1, h2]; simp at this; lia
noncomputable def unseen (ns : List (Nd Str)) (S : Str → Bool) : Nat := (ns.filter fun q => !S q.nm).length
theorem unseen_add {ns : List (Nd Str)} {S : Str → Bool} {q : Nd Str} (hq : q ∈ ns) (hS : S q.nm = false) : unseen ns (fun k => S k || decide (k = q.nm)) + 1 ≤ unseen ns S := by
  induction ns with
  | nil => simp at hq
  | cons r ns ih =>
    have mono : ∀ ns : List (Nd Str), unseen ns (fun k => S k || decide (k = q.nm)) ≤ unseen ns S := by
      intro ns
      induction ns with
      | nil => simp [unseen]
      | cons r ns ih =>
        unfold unseen at ih ⊢
        by_cases h1 : S r.nm = true
        · simp [List.filter_cons, h1]; simpa using ih
        · by_cases h2 : r.nm = q.nm
          · simp [List.filter_cons, h1, h2, hS]; simp at ih; lia
          · simp [List.filter_cons, h1, h2]; simpa using ih
    rcases List.mem_cons.mp hq with rfl | hq
    · have := mono ns
      unfold unseen at this ⊢
      simp [List.filter_cons, hS]; simp at this; lia
    · have := ih hq
      unfold unseen at this ⊢
      by_cases h1 : S r.nm = true
      · simp [List.filter_cons, h1]; simpa using this
      · by_cases h2 : r.nm = q.nm
        · simp [List.filter_cons, h1, h2, hS]; simp at this; lia
        · simp [List.filter_cons, h1, h2]; simp at this; lia
/-- the search's own things -/
structure CY (w : World) (D : SD) (ns : List (Nd Str)) (rk : Str → Nat) (frs : List FR) (oST oIT oND oSE : Obj) (kvs : List (Str × Value)) (S : Str → Bool) (c : Nat) : Prop where
  st : SL oST (stk frs)
  it : LObj oIT (frs.reverse.map fun f => Value.ref f.B)
  nd : DD w oND kvs
  keys : kvs.map (·.1) = stk frs
  se : SO w oSE S c
  cnt : c + unseen ns S ≤ ns.length
  ok : ∀ f ∈ frs, f.r ∈ D.rs ∧ ItL f.r.s f.p f.oi ∧ f.p ≤ f.r.sc.length
  up : List.Pairwise (fun f g => rk g.r.nm < rk f.r.nm) frs
  few : frs.length ≤ c
theorem stk_cons (f : FR) (fs : List FR) : stk (f :: fs) = stk fs ++ [f.r.nm] := by simp [stk]
theorem CY.notin {w : World} {D : SD} {ns : List (Nd Str)} {rk : Str → Nat} {frs : List FR} {oST oIT oND oSE : Obj} {kvs : List (Str × Value)} {S : Str → Bool} {c : Nat} (C : CY w D ns rk frs oST oIT oND oSE kvs S c) {nd : Str} (h : ∀ f ∈ frs, rk f.r.nm < rk nd) : nd ∉ kvs.map (·.1) := fun hm => by
  rw [C.keys] at hm
  obtain ⟨f, hf, e⟩ := List.mem_map.mp hm
  have := h f (List.mem_reverse.mp hf)
  rw [e] at this
  exact absurd this (Nat.lt_irrefl _)
theorem valueAt_none {kvs : List (Str × Value)} {k : Str} (h : k ∉ kvs.map (·.1)) : valueAt kvs k = none := by
  unfold valueAt
  have : kvs.find? (fun kv => decide (kv.1 = k)) = none := by
    rw [List.find?_eq_none]
    intro p hp e
    exact h (List.mem_map.mpr ⟨p, hp, by simpa using e⟩)
  rw [this]; rfl
theorem valueAt_some {kvs : List (Str × Value)} {k : Str} (h : k ∈ kvs.map (·.1)) : (valueAt kvs k).isSome = true := by
  obtain ⟨p, hp, e⟩ := List.mem_map.mp h
  unfold valueAt
  cases hf : kvs.find? fun kv => decide (kv.1 = k) with
  | none => exact absurd (by simpa using e) (List.find?_eq_none.mp hf p hp)
  | some q => rfl
theorem stored_new {kvs : List (Str × Value)} {k : Str} {v : Value} (h : k ∉ kvs.map (·.1)) : stored kvs k v = kvs ++ [(k, v)] := by
  unfold stored
  rw [if_neg]
  intro e
  obtain ⟨p, hp, e⟩ := List.any_eq_true.mp e
  exact h (List.mem_map.mpr ⟨p, hp, by simpa using e⟩)
theorem frLed_mem {frs : List FR} {p : Addr × Obj} {R : Led} (h : p ∈ R) : p ∈ frLed frs ++ R := List.mem_append_right _ h
theorem w_gm_set {w : World} {A : Around} {h₀ : Heap} {env : Env} {ρ : Rho} {σ : Led} {d : Addr} {o : Obj} {S : Str → Bool} {n : Nat} {name : Str} {id : String} {pl : Sem Bool} {Q : Value × List Value → Rho → Led → Prop} (hk : Kn h₀ σ d o) (hd : SO w o S n) (slot : Slot "set" name id) (hty : typeOf (.builtin id) = pure (.type "method_descriptor"))
    (h : Q (.builtin id, [.ref d]) ρ σ) : W w A h₀ env ρ σ (getMethod (.ref d) name pl) Q := fun s ht F => by
  have hS := hd _ _ (F.kn hk)
  exact getMethod_builtin hS.typeIs PySem.F.plainAttrs_set slot hty (fun b e => by cases e; obtain ⟨o', es, ep, tb, e1, e2, _⟩ := hS; exact ⟨_, e1, e2.2.1⟩) (Post.now F h)
theorem ok_pred {w : World} {loose : List Str} {mean : ExcName → Option Value} {mg mb : Str → Option Value} {need : Nat} {A : Around} {env : Env} {h₀ : Heap} (O : Ok w loose mean mg mb need A env h₀) : ∃ OK : Heap → Prop, OK h₀ ∧ (∀ h, OK h → Ok w loose mean mg mb need A env h) ∧ (∀ h, Ok w loose mean mg mb need A env h → OK h) := ⟨fun h => Ok w loose mean mg mb need A env h, O, fun _ h => h, fun _ h => h⟩
inductive CN (D : SD) (ST IT SE ND : Addr) (ρ : Rho) : Prop
  | mk (y1 : ρ "n2i" = some (.ref D.N)) (y2 : ρ "stack" = some (.ref ST)) (y3 : ρ "itstack" = some (.ref IT)) (y4 : ρ "seen" = some (.ref SE)) (y5 : ρ "node2stacki" = some (.ref ND)) : CN D ST IT SE ND ρ
inductive YI1 (w : World) (OK : Heap → Prop) (D : SD) (st : SS Str) (rk : Str → Nat) (ST IT SE ND : Addr) (tl₀ : Led) (i : Nat) (h : Heap) (ρ : Rho) (σ : Led) : Prop
  | mk (y1 : OK h) (y2 : CN D ST IT SE ND ρ) (oST : _) (oIT : _) (oND : _) (oSE : _) (kvs : _) (Sf : _) (c : _) (y3 : σ = (ND, oND) :: (SE, oSE) :: (IT, oIT) :: (ST, oST) :: tl₀) (y4 : CY w D st.ns rk [] oST oIT oND oSE kvs Sf c) : YI1 w OK D st rk ST IT SE ND tl₀ i h ρ σ
inductive YI2 (w : World) (OK : Heap → Prop) (D : SD) (st : SS Str) (rk : Str → Nat) (ST IT SE ND I : Addr) (o : Obj) (tl₀ : Led) (n : Nat) (h : Heap) (ρ : Rho) (σ : Led) : Prop
  | mk (y1 : OK h) (y2 : CN D ST IT SE ND ρ) (nd : _) (tn : _) (y3 : ρ "node" = some (.str nd tn)) (y4 : ndHas st.ns nd = true) (frs : _) (oST : _) (oIT : _) (oND : _) (oSE : _) (kvs : _) (Sf : _) (c : _) (y5 : σ = frLed frs ++ ((I, o) :: (ND, oND) :: (SE, oSE) :: (IT, oIT) :: (ST, oST) :: tl₀)) (y6 : CY w D st.ns rk frs oST oIT oND oSE kvs Sf c) (y7 : (∀ f ∈ frs, rk f.r.nm < rk nd)) (y8 : n = todo st.ns Sf + remain frs) : YI2 w OK D st rk ST IT SE ND I o tl₀ n h ρ σ
inductive YI3 (w : World) (OK : Heap → Prop) (D : SD) (st : SS Str) (rk : Str → Nat) (ST IT SE ND I : Addr) (o : Obj) (tl₀ : Led) (Sf : Str → Bool) (frs : List FR) (h : Heap) (f : Flow) (ρ : Rho) (σ : Led) : Prop
  | mk (y1 : f = .next) (y2 : OK h) (y3 : CN D ST IT SE ND ρ) (frs' : _) (oST : _) (oIT : _) (oND : _) (oSE : _) (kvs : _) (Sf' : _) (c : _) (y4 : σ = frLed frs' ++ ((I, o) :: (ND, oND) :: (SE, oSE) :: (IT, oIT) :: (ST, oST) :: tl₀)) (y5 : CY w D st.ns rk frs' oST oIT oND oSE kvs Sf' c) (y6 : todo st.ns Sf' + remain frs' ≤ todo st.ns Sf + remain frs) : YI3 w OK D st rk ST IT SE ND I o tl₀ Sf frs h f ρ σ
inductive YI4 (w : World) (OK : Heap → Prop) (D : SD) (st : SS Str) (rk : Str → Nat) (ST IT SE ND I : Addr) (o : Obj) (tl₀ : Led) (n0 : Nat) (k : Nat) (h : Heap) (ρ : Rho) (σ : Led) : Prop
  | mk (y1 : OK h) (y2 : CN D ST IT SE ND ρ) (frs' : _) (oST : _) (oIT : _) (oND : _) (oSE : _) (kvs : _) (Sf' : _) (c : _) (y3 : σ = frLed frs' ++ ((I, o) :: (ND, oND) :: (SE, oSE) :: (IT, oIT) :: (ST, oST) :: tl₀)) (y4 : CY w D st.ns rk frs' oST oIT oND oSE kvs Sf' c) (y5 : todo st.ns Sf' + remain frs' ≤ n0) (y6 : k = frs'.length) : YI4 w OK D st rk ST IT SE ND I o tl₀ n0 k h ρ σ
theorem cycle_spec {w : World} {loose : List Str} {mean : ExcName → Option Value} {mg mb : Str → Option Value} {x : Addr} {st : SS Str} {D : SD} {tl₀ : Led} {rk : Str → Nat} {h₀ : Heap} (S : Srt w x st D tl₀) (hrk : ∀ q ∈ st.ns, ∀ j ∈ q.sc, ndHas st.ns j = true ∧ rk q.nm < rk j) (hz : st.ns.length ≤ 90) (hz2 : ∀ q ∈ st.ns, q.sc.length ≤ 1000) :
   MutF w loose mean mg mb 1 (.ref 238) [.ref x] h₀ tl₀ (fun tl v => tl = tl₀ ∧ v = .none) := by
  refine enterF (k := 0) (binds := [("self", .ref x)]) (by k_is) (by k_is) (fun s _ => BindsTo.of_eq rfl) rfl ?_
  intro A L ρ outer O hA B
  have b1 := B "self" _ rfl
  clear B
  refine WF.execs_W ?_
  walk_at "ws"
  refine w_getOwn O (.inl S.mx) (.inl S.mdx) (by k_is) (by k_is) (by k_is) (by k_is) (by rfl) (by rfl) ?_
  walk_at "ws"
  refine WF.execs_W ?_
  walk_at "ws"
  refine ⟨by simp, fun ST oST hST => ?_⟩
  walk_at "ws"
  refine WF.execs_W ?_
  walk_at "ws"
  refine ⟨by simp, fun IT oIT hIT => ?_⟩
  walk_at "ws"
  refine WF.execs_W ?_
  walk_at "ws"
  with_reducible refine w_callT0 (w_set0 fun SE oSE hSE => ?_)
  walk_at "ws"
  refine WF.execs_W ?_
  walk_at "ws"
  intro ND oND hsys hND
  walk_at "ws"
  have hL : L ∈ fsOf A := by unfold fsOf; rw [hA]; exact .head _
  obtain ⟨OK, OK0, hOK, kOK⟩ := ok_pred O
  have hnc : ∀ (c : Str) (a : Addr), ([] : List (Str × Addr)).lookup c = some a → h₀.get? a = none := fun _ _ e => nomatch e
  refine WF.execs_cons (WF.for ?_ (by intro _; with_unfolding_all rfl) (by intro _ _; with_unfolding_all rfl))
  walk_at "ws"
  refine w_iterKeys (.inl (.tail _ (.tail _ (.tail _ (.tail _ S.mN))))) S.sys S.dN fun I0 oi0 ep hDA hI0 => ?_
  refine ⟨fun h σ => Kn h σ D.N D.oN, _, _, _, YI1 w OK D st rk ST IT SE ND tl₀, I0, oi0, _, fun h₁ => proto_keys O.hh hDA, rfl, .refl _, hI0, ⟨OK0, ⟨by walk_at "look", by walk_at "look", by walk_at "look", by walk_at "look", by walk_at "look"⟩, oST, oIT, oND, oSE, [], fun _ => false, 0, rfl, ?_⟩, ?_, ?_, ?_⟩
  · exact ⟨SL.nil hST, hIT, hND, rfl, hSE, by rw [Nat.zero_add]; exact List.length_filter_le .., fun f hf => (nomatch hf), .nil, by simp⟩
  · rintro i h₁ ρ σ ⟨_, _, oST, oIT, oND, oSE, kvs, Sf, c, rfl, _⟩
    exact .inl (.tail _ (.tail _ (.tail _ (.tail _ S.mN))))
  · rintro i v I o h₁ ρ σ hi ⟨⟨k, u⟩, t, hp, rfl⟩ _ ⟨O1, ⟨c1, c2, c3, c4, c5⟩, oST, oIT, oND, oSE, kvs, Sf, c, rfl, C⟩
    have hkn : ndHas st.ns k = true := by
      have : (k, u) ∈ D.rs.map fun r => (r.nm, Value.ref r.a) := List.mem_of_getElem? hp
      obtain ⟨r, hr, e⟩ := List.mem_map.mp this
      rw [← S.ab, has_rs]
      exact List.any_eq_true.mpr ⟨r, hr, by cases e; simp⟩
    have O' := hOK _ O1
    walk_at "ws"
    refine WF.hide fun R HR => ?_
    refine WF.execs_cons (WF.ifs ?_)
    walk_at "ws"
    refine w_inSet (.inl (.tail _ (.tail _ (.head _)))) C.se ?_
    walk_at "ws"
    cases hk : Sf k with
    | true =>
      refine ite_t rfl ?_
      refine WF.execs_W ?_
      walk_at "ws"
      exact HR _ _ _ _ ⟨_, .refl _, O1, ⟨by walk_at "look", by walk_at "look", by walk_at "look", by walk_at "look", by walk_at "look"⟩, oST, oIT, oND, oSE, kvs, Sf, c, rfl, C⟩
    | false =>
      refine ite_f (by decide) (WF.execs_nil ?_)
      refine WF.execs_cons (WF.while (YI2 w OK D st rk ST IT SE ND I o tl₀)
        ?_ _ ⟨O1, ⟨by walk_at "look", by walk_at "look", by walk_at "look", by walk_at "look", by walk_at "look"⟩, k, t, by walk_at "look", hkn, [], oST, oIT, oND, oSE, kvs, Sf, c, rfl, C, fun f hf => (nomatch hf), rfl⟩)
      clear C hk c1 c2 c3 c4 c5 O1 O'
      rintro n h₂ ρ σ ⟨O2, ⟨c1, c2, c3, c4, c5⟩, nd, tn, c6, hhas, frs, oST, oIT, oND, oSE, kvs, Sf, c, rfl, C, hup, rfl⟩
      have O' := hOK _ O2
      walk_at "ws"
      refine ite_t rfl ?_
      refine WF.hide fun R2 HR2 => ?_
      refine WF.execs_cons (WF.mono (Q := YI3 w OK D st rk ST IT SE ND I o tl₀ Sf frs) ?_ ?_)
      · refine WF.ifs ?_
        walk_at "ws"
        refine w_inSet (.inl (frLed_mem (.tail _ (.tail _ (.head _))))) C.se ?_
        walk_at "ws"
        cases hk : Sf nd with
        | true =>
          refine ite_t rfl ?_
          refine WF.execs_W ?_
          walk_at "ws"
          refine w_inD hsys (.inl (frLed_mem (.tail _ (.head _)))) C.nd ?_
          rw [valueAt_none (C.notin hup)]
          walk_at "ws"
          refine ite_f (by decide) ?_
          walk_at "ws"
          exact WF.execs_nil ⟨rfl, O2, ⟨c1, c2, c3, c4, c5⟩, frs, oST, oIT, oND, oSE, kvs, Sf, c, rfl, C, Nat.le_refl _⟩
        | false =>
          refine ite_f (by decide) ?_
          refine WF.ofW ?_
          obtain ⟨r, hr, rfl, hva⟩ := S.get hhas
          have hrab : r.ab ∈ st.ns := by rw [← S.ab]; exact List.mem_map.mpr ⟨r, hr, rfl⟩
          have hcnt := C.cnt
          have hua := unseen_add hrab hk
          have hta := todo_add hrab hk
          obtain ⟨us, hus, hual⟩ := (S.node r hr).2.2.2.al
          have mtl : ∀ {p : Addr × Obj} {oSE : Obj}, p ∈ tl₀ → p ∈ frLed frs ++ ((I, o) :: (ND, oND) :: (SE, oSE) :: (IT, oIT) :: (ST, oST) :: tl₀) := fun hp => frLed_mem (.tail _ (.tail _ (.tail _ (.tail _ (.tail _ hp)))))
          walk_at "ws"
          refine w_gm_set (.inl (frLed_mem (.tail _ (.tail _ (.head _))))) C.se PySem.F.slot_set_add PySem.F.type_set_add ?_
          walk_at "ws"
          with_reducible refine w_addSet C.se (by lia) (fun o' => Upd.pre (frLed frs) (.tail _ (.tail _ (.head _)))) fun oSE' hSE' => ?_
          walk_at "ws"
          refine w_gm_list (.inl (frLed_mem (.tail _ (.tail _ (.tail _ (.head _)))))) C.it PySem.F.slot_list_append PySem.F.type_list_append ?_
          walk_at "ws"
          refine w_subD (.inl (mtl S.mN)) S.dN (w_getD (.inl (mtl S.mN)) S.dN hva ?_)
          refine w_getSlot O' (.inl (mtl (S.node r hr).1)) (.inl (mtl (S.node r hr).2.1)) (by k_is) (by k_is) (by k_is) (by k_is) (by k_is) (by k_is) (by rfl) (by rfl) ?_
          walk_at "ws"
          refine w_iter (.inl (mtl (S.node r hr).2.2.1)) hus fun I2 => ?_
          refine w_boundNext (.inl (.head _)) fun B2 => ?_
          walk_at "ws"
          have hfl : frs.length ≤ 90 := Nat.le_trans C.few (by lia)
          refine w_append C.it (by simp; exact Nat.le_trans (by assumption) (by decide)) (fun o' => .tail _ (.tail _ (Upd.pre (frLed frs) (.tail _ (.tail _ (.tail _ (.head _))))))) fun oIT' hIT' => ?_
          walk_at "ws"
          obtain ⟨ls, hls, els⟩ := C.st
          have hll : ls.length = frs.length := by have := congrArg List.length els; rw [List.length_map] at this; rw [this]; simp [stk]
          refine W.lenL (.inl (.tail _ (.tail _ (frLed_mem (.tail _ (.tail _ (.tail _ (.tail _ (.head _)))))))) ) hls (by rw [strValues_len]; lia) fun t9 => ?_
          walk_at "ws"
          have hkl : kvs.length = frs.length := by have := congrArg List.length C.keys; rw [List.length_map] at this; rw [this]; simp [stk]
          have hni := C.notin hup
          with_reducible refine w_setD C.nd (by lia) (fun o' => .tail _ (.tail _ (Upd.pre (frLed frs) (.tail _ (.head _))))) fun oND' hND' => ?_
          rw [stored_new hni] at hND'
          walk_at "ws"
          refine w_gm_sappend (.inl (.tail _ (.tail _ (frLed_mem (.tail _ (.tail _ (.tail _ (.tail _ (.head _))))))))) C.st ?_
          walk_at "ws"
          refine w_appSL C.st (by simp [stk]; lia) (fun o' => .tail _ (.tail _ (Upd.pre (frLed frs) (.tail _ (.tail _ (.tail _ (.tail _ (.head _)))))))) fun oST' hST' => ?_
          walk_at "un"
          with_reducible refine W.perm (σ' := (I2, _) :: (B2, _) :: (frLed frs ++ ((I, o) :: (ND, oND') :: (SE, oSE') :: (IT, oIT') :: (ST, oST') :: tl₀))) ?_ (List.Perm.swap _ _ _)
          walk_at "ws"
          refine ⟨rfl, O2, ⟨by walk_at "look", by walk_at "look", by walk_at "look", by walk_at "look", by walk_at "look"⟩, ⟨r, 0, I2, B2, _⟩ :: frs, oST', oIT', oND', oSE', _, _, _, rfl, ⟨?_, ?_, hND', ?_, hSE', ?_, ?_, ?_, ?_⟩, ?_⟩
          · rw [stk_cons]; exact hST'
          · simpa using hIT'
          · rw [List.map_append, C.keys, stk_cons]; rfl
          · have e : (if Sf r.nm = true then c else c + 1) = c + 1 := by rw [hk]; rfl
            rw [e]
            have hua : unseen st.ns (fun k => Sf k || decide (k = r.nm)) + 1 ≤ unseen st.ns Sf := hua
            lia
          · intro f hf
            rcases List.mem_cons.mp hf with rfl | hf
            · exact ⟨hr, ⟨rfl, rfl⟩, Nat.zero_le _⟩
            · exact C.ok f hf
          · exact .cons hup C.up
          · have e : (if Sf r.nm = true then c else c + 1) = c + 1 := by rw [hk]; rfl
            rw [e, List.length_cons]
            exact Nat.succ_le_succ C.few
          · have hta : todo st.ns (fun k => Sf k || decide (k = r.nm)) + (r.sc.length + 2) ≤ todo st.ns Sf := hta
            unfold remain at *
            rw [List.map_cons, List.sum_cons]
            show _ + ((r.sc.length - 0) + _) ≤ _
            lia
      · rintro h₃ _ ρ σ _ ⟨rfl, O3, ⟨d1, d2, d3, d4, d5⟩, frs1, oST, oIT, oND, oSE, kvs, Sf1, c, rfl, C, hmu⟩
        generalize todo st.ns Sf + remain frs = n0 at *
        clear hup c1 c2 c3 c4 c5 c6 O'
        dsimp only
        refine WF.execs_cons (WF.while (YI4 w OK D st rk ST IT SE ND I o tl₀ n0)
          ?_ _ ⟨O3, ⟨d1, d2, d3, d4, d5⟩, frs1, oST, oIT, oND, oSE, kvs, Sf1, c, rfl, C, hmu, rfl⟩)
        clear C hmu d1 d2 d3 d4 d5 O3
        rintro n h₄ ρ σ ⟨O4, ⟨d1, d2, d3, d4, d5⟩, frs1, oST, oIT, oND, oSE, kvs, Sf1, c, rfl, C, hmu, rfl⟩
        have O' := hOK _ O4
        have hcnt := C.cnt
        have hfew := C.few
        walk_at "ws"
        obtain ⟨ls, hls, els⟩ := C.st
        have hll : ls.length = frs1.length := by have := congrArg List.length els; rw [List.length_map] at this; rw [this]; simp [stk]
        refine w_trL (.inl (frLed_mem (.tail _ (.tail _ (.tail _ (.tail _ (.head _))))))) hls (by rw [strValues_len]; lia) ?_
        cases frs1 with
        | nil =>
          have e : ls = [] := by cases ls with | nil => rfl | cons a b => simp at hll
          subst e
          refine ite_f (by decide) ?_
          refine WF.execs_W ?_
          walk_at "ws"
          exact HR2 _ _ _ _ (WF.execs_nil (HR _ _ _ _ ⟨_, .refl _, O4, ⟨d1, d2, d3, d4, d5⟩, oST, oIT, oND, oSE, kvs, Sf1, c, rfl, C⟩))
        | cons f fs =>
          obtain ⟨p, ls', rfl⟩ : ∃ p ls', ls = p :: ls' := by cases ls with | nil => simp at hll | cons a b => exact ⟨a, b, rfl⟩
          refine ite_t rfl ?_
          refine WF.hide fun R4 HR4 => ?_
          obtain ⟨hfr, hfi, hfp⟩ := C.ok f (.head _)
          obtain ⟨us, hus, hual⟩ := (S.node f.r hfr).2.2.2.al
          have hul := hual.len
          have hit : LObj oIT ((fs.reverse.map fun f => Value.ref f.B) ++ [.ref f.B]) := by simpa using C.it
          have hfl : fs.length ≤ 90 := by rw [List.length_cons] at hfew; lia
          have hpw := C.up
          rw [List.pairwise_cons] at hpw
          have hst := C.st
          rw [stk_cons] at hst
          have hkeys := C.keys
          rw [stk_cons] at hkeys
          have hrem : remain (f :: fs) = (f.r.sc.length - f.p) + remain fs := by unfold remain; rw [List.map_cons, List.sum_cons]
          rw [hrem] at hmu
          have hab : f.r.ab ∈ st.ns := by rw [← S.ab]; exact List.mem_map.mpr ⟨f.r, hfr, rfl⟩
          refine WF.execs_cons (wf_tryNext (I := f.I) (B := f.B) (σ := frLed fs ++ ((I, o) :: (ND, oND) :: (SE, oSE) :: (IT, oIT) :: (ST, oST) :: tl₀)) (a := f.r.s) (o := f.r.os) (i := f.p) (vs := us) O' hA rfl (fun _ _ e => nomatch e) (.inl (frLed_mem (.tail _ (.tail _ (.tail _ (.tail _ (.tail _ (S.node f.r hfr).2.2.1))))))) hus hfi ?_ ?_ ?_ (by k_is) (by with_unfolding_all rfl) (by with_unfolding_all rfl) (by with_unfolding_all rfl))
          · walk_at "ws"
            refine w_lastL (.inl (.tail _ (.tail _ (frLed_mem (.tail _ (.tail _ (.tail _ (.head _)))))))) hit.lw (by simp; exact Nat.le_trans (by assumption) (by decide)) ?_
            exact ⟨rfl, rfl, rfl⟩
          · rintro v o' hv hi'
            obtain ⟨j, hj, tj, rfl⟩ := hual.get hv
            have hjm := List.mem_of_getElem? hj
            obtain ⟨hlt, _⟩ := List.getElem?_eq_some_iff.mp hj
            obtain ⟨hrj, hrk'⟩ := hrk f.r.ab hab j hjm
            walk_at "ws"
            refine HR4 _ _ _ _ (WF.execs_nil (HR2 _ _ _ _ ⟨_, ?_, O4, ⟨by walk_at "look", by walk_at "look", by walk_at "look", by walk_at "look", by walk_at "look"⟩, j, tj, by walk_at "look", hrj, { f with p := f.p + 1, oi := o' } :: fs, oST, oIT, oND, oSE, kvs, Sf1, c, rfl, ⟨?_, ?_, C.nd, ?_, C.se, C.cnt, ?_, ?_, C.few⟩, ?_, rfl⟩))
            · have e : remain ({ f with p := f.p + 1, oi := o' } :: fs) = (f.r.sc.length - (f.p + 1)) + remain fs := by unfold remain; rw [List.map_cons, List.sum_cons]
              rw [e]; grind
            · rw [stk_cons]; exact hst
            · simpa using C.it
            · rw [stk_cons]; exact hkeys
            · intro g hg
              rcases List.mem_cons.mp hg with rfl | hg
              · exact ⟨hfr, hi', hlt⟩
              · exact C.ok g (.tail _ hg)
            · exact .cons hpw.1 hpw.2
            · intro g hg
              rcases List.mem_cons.mp hg with rfl | hg
              · exact hrk'
              · exact Nat.lt_trans (hpw.1 g hg) hrk'
          · rintro hv h₅ e O5
            obtain ⟨ls2, hls2, els2⟩ := hst
            obtain ⟨ls3, q3, rfl, e4, e5⟩ : ∃ ls3 q3, ls2 = ls3 ++ [q3] ∧ ls3.map (·.1) = stk fs ∧ q3.1 = f.r.nm := by
              rcases List.eq_nil_or_concat ls2 with rfl | ⟨l3, q3, rfl⟩
              · simp at els2
              · rw [List.concat_eq_append, List.map_append] at els2
                have := List.append_inj' els2 rfl
                exact ⟨l3, q3, by rw [List.concat_eq_append], this.1, by simpa using this.2⟩
            have hlls : ls3.length = fs.length := by have := congrArg List.length e4; rw [List.length_map] at this; rw [this]; simp [stk]
            rw [strValues_app] at hls2
            walk_at "ws"
            refine w_gm_list (.inl (.tail _ (frLed_mem (.tail _ (.tail _ (.tail _ (.tail _ (.head _)))))))) hls2 PySem.F.slot_list_pop PySem.F.type_list_pop ?_
            walk_at "ws"
            refine w_pop (vs := strValues ls3) (v := .str q3.1 q3.2) hls2 (by rw [strValues_len]; lia) (fun o' => .tail _ (Upd.pre (frLed fs) (.tail _ (.tail _ (.tail _ (.tail _ (.head _))))))) fun oST' hST' => ?_
            walk_at "ws"
            have hkl : kvs.length = fs.length + 1 := by have := congrArg List.length hkeys; rw [List.length_map] at this; rw [this]; simp [stk]
            refine w_delItemD C.nd (by lia) (valueAt_some (by rw [hkeys, e5]; simp)) (fun o' => .tail _ (Upd.pre (frLed fs) (.tail _ (.head _)))) fun oND' hND' => ?_
            walk_at "ws"
            refine w_gm_list (.inl (.tail _ (frLed_mem (.tail _ (.tail _ (.tail _ (.head _))))))) hit PySem.F.slot_list_pop PySem.F.type_list_pop ?_
            walk_at "ws"
            refine w_pop hit (by simp; lia) (fun o' => .tail _ (Upd.pre (frLed fs) (.tail _ (.tail _ (.tail _ (.head _)))))) fun oIT' hIT' => ?_
            walk_at "un"
            with_reducible refine W.sub (σ' := frLed fs ++ ((I, o) :: (ND, oND') :: (SE, oSE) :: (IT, oIT') :: (ST, oST') :: tl₀)) ?_ (.cons _ (.refl _))
            walk_at "ws"
            refine WF.execs_nil (HR4 _ _ _ _ ⟨fs.length, by simp, kOK _ O5, ⟨d1, d2, d3, d4, d5⟩, fs, oST', oIT', oND', oSE, _, Sf1, c, rfl, ⟨⟨ls3, hST', e4⟩, hIT', hND', ?_, C.se, C.cnt, fun g hg => C.ok g (.tail _ hg), hpw.2, by rw [List.length_cons] at hfew; lia⟩, by lia, rfl⟩)
            have nin : f.r.nm ∉ stk fs := fun hm => by
              obtain ⟨g, hg, e⟩ := List.mem_map.mp hm
              have := hpw.1 g (List.mem_reverse.mp hg)
              rw [e] at this
              exact absurd this (Nat.lt_irrefl _)
            rw [e5]
            show (kvs.filter fun kv => decide (kv.1 ≠ f.r.nm)).map (·.1) = stk fs
            have e6 : (kvs.filter fun kv => decide (kv.1 ≠ f.r.nm)).map (·.1) = (kvs.map (·.1)).filter fun k => decide (k ≠ f.r.nm) := by
              rw [List.filter_map]; rfl
            rw [e6, hkeys, List.filter_append]
            have e7 : (stk fs).filter (fun k => decide (k ≠ f.r.nm)) = stk fs := by
              rw [List.filter_eq_self]
              intro a ha
              have : a ≠ f.r.nm := fun q => nin (q ▸ ha)
              simpa using this
            rw [e7]
            simp
  · rintro h₁ ρ σ ⟨O1, _, oST, oIT, oND, oSE, kvs, Sf, c, rfl, C⟩
    refine WF.execs_nil ?_
    refine WF.execs_W ?_
    walk_at "ws"
    exact ⟨tl₀, .cons _ (.cons _ (.cons _ (.cons _ (.refl _)))), rfl, rfl⟩
end
section
theorem w_trNone {w : World} {A : Around} {h₀ : Heap} {env : Env} {ρ : Rho} {σ : Led} {Q : Bool → Rho → Led → Prop} (h : Q false ρ σ) : W w A h₀ env ρ σ (truthy .none) Q := W.leaf0 (fun s R q => truthy_none q) h
theorem rdy_dict (w : World) (D : SD) (p f : Int) (R : Addr) (oR : Obj) (t5 : Tok) : dictOf (putL "_ready_nodes" (PyData.keyHash w.params "_ready_nodes") (.str "_ready_nodes" t5) (.ref R) (sEs w D.t1 D.t2 D.t3 D.t4 (.ref D.N) D.rv (.int p D.tp) (.int f D.tf)))
    (putN "_ready_nodes" (sEs w D.t1 D.t2 D.t3 D.t4 (.ref D.N) D.rv (.int p D.tp) (.int f D.tf)) D.n) = SD.dict w { D with rv := .ref R, R := R, oR := oR } p f := rfl
theorem prepare_spec {w : World} {loose : List Str} {mean : ExcName → Option Value} {mg mb : Str → Option Value} {x : Addr} {st : SS Str} {D : SD} {tl₀ : Led} {rk : Str → Nat} {h₀ : Heap} (S : Srt w x st D tl₀) (hr : st.ready = none) (hrk : ∀ q ∈ st.ns, ∀ j ∈ q.sc, ndHas st.ns j = true ∧ rk q.nm < rk j) (hz : st.ns.length ≤ 90) (hz2 : ∀ q ∈ st.ns, q.sc.length ≤ 1000) :
   MutF w loose mean mg mb 2 (.ref 203) [.ref x] h₀ tl₀ (fun tl v => v = .none ∧ ∃ D', Srt w x ⟨st.ns, some ((st.ns.filter fun q => q.np == 0).map (·.nm)), st.passed, st.fin⟩ D' tl) := by
  refine enterF (k := 1) (binds := [("self", .ref x)]) (by k_is) (by k_is) (fun s _ => BindsTo.of_eq rfl) rfl ?_
  intro A L ρ outer O hA B
  have b1 := B "self" _ rfl
  clear B
  have hh := O.hh
  have r1 : D.rv = .none := by have := S.rdy; rw [hr] at this; exact this
  refine WF.execs_cons (WF.ifs ?_)
  walk_at "ws"
  refine w_getOwn (v := D.rv) O (.inl S.mx) (.inl S.mdx) (by k_is) (by k_is) (by k_is) (by k_is) (by rfl) (by rw [r1]; rfl) ?_
  walk_at "ws"
  refine ite_f (by rw [r1]; exact Bool.false_ne_true) (WF.execs_nil ?_)
  refine WF.execs_W ?_
  walk_at "ws"
  refine w_listComp O (by with_unfolding_all rfl) (fun _ _ h => h) (clk_of (by with_unfolding_all rfl)) (by decide) (by with_unfolding_all rfl) (by decide) (by intro _; with_unfolding_all rfl) (by intro _ _; with_unfolding_all rfl) ?_
  walk_at "ws"
  refine w_getOwn O (.inl S.mx) (.inl S.mdx) (by k_is) (by k_is) (by k_is) (by k_is) (by rfl) (by rfl) ?_
  walk_at "ws"
  refine w_gm_dict (.inl S.mN) S.dN PySem.F.slot_dict_values PySem.F.type_dict_values ?_
  walk_at "ws"
  refine w_values S.sys (.inl S.mN) S.dN fun V => ?_
  obtain ⟨ep, da⟩ := S.dN.da
  refine w_iterValues (.inl (.head _)) (.inl (.tail _ S.mN)) da fun I => ?_
  have hln : D.rs.length = st.ns.length := by rw [← S.ab, List.length_map]
  refine compAt_of (xs := D.rs) (p := fun r => r.np == 0) (U := fun r v => v = .ref r.a) (V := fun r v => v = .str r.nm r.t1) (fun base env' hs => (proto_values hh da).mono (fun _ _ => .inr (hs.2 _ (.tail _ S.mN))) fun _ _ _ h => h) (by simp) (by simp; lia) ?_ ⟨rfl, rfl⟩ ?_ ?_
  · rintro i v ⟨p, hp, rfl⟩
    rw [List.getElem?_map] at hp
    cases e : D.rs[i]? with
    | none => rw [e] at hp; cases hp
    | some r => rw [e] at hp; cases hp; exact ⟨r, rfl, rfl⟩
  · rintro h₁ C ρc r v hs O' hc hr' rfl
    have nd := S.node r hr'
    have n1 := hs.2 _ (.tail _ nd.1)
    have n2 := hs.2 _ (.tail _ nd.2.1)
    walk_at "ws"
    refine w_getSlot O' (.inr n1) (.inr n2) (by k_is) (by k_is) (by k_is) (by k_is) (by k_is) (by k_is) (by rfl) (by rfl) ?_
    walk_at "ws"
    refine ⟨?_, fun _ => ?_⟩
    · rfl
    walk_at "ws"
    refine w_getSlot O' (.inr n1) (.inr n2) (by k_is) (by k_is) (by k_is) (by k_is) (by k_is) (by k_is) (by rfl) (by rfl) ?_
    rfl
  · intro R oR rs hR hal
    walk_at "ws"
    walk_at "un"
    with_reducible refine W.sub (σ' := (R, oR) :: tl₀) ?_ (.cons₂ _ (.cons _ (.refl _)))
    with_reducible refine W.nd fun hnd => ?_
    have hnd' := hnd
    simp only [List.map_cons, List.nodup_cons] at hnd'
    have hsR : ∀ q ∈ D.rs, q.s ≠ R := fun q hq e => hnd'.1 (e ▸ List.mem_map.mpr ⟨_, (S.node q hq).2.2.1, rfl⟩)
    have hl : SL oR ((st.ns.filter fun q => q.np == 0).map (·.nm)) := by
      refine SL.of hR ?_
      rw [← S.ab, List.filter_map, List.map_map]
      exact hal.of_map fun r v e => ⟨r.t1, e⟩
    have S1 := Srt.newReady (S.more (R, oR)) hnd (.head _) hl hsR
    refine w_setDict O (.inl (.tail _ S.mx)) (fun o' => upd_put hnd (S.more (R, oR)).mdx) (by k_is) (by k_is) (by k_is) (by k_is) (by rfl) (Nat.le_of_ble_eq_true rfl) fun t5 => ?_
    rw [rdy_dict (R := R) (oR := oR)]
    generalize put D.dx (SD.dict w { D with rv := .ref R, R := R, oR := oR } st.passed st.fin) ((R, oR) :: tl₀) = tl1 at *
    generalize ({ D with rv := .ref R, R := R, oR := oR } : SD) = D1 at *
    refine WF.execs_cons (WF.assign ?_ (by with_unfolding_all rfl))
    refine WF.method ?_ (by with_unfolding_all rfl)
    walk_at "ws"
    refine w_gmI O (.inl S1.mx) (.inl S1.mdx) (by k_is) (by k_is) (by k_is) (by rfl) ?_
    refine wf_callK0 O (by k_is) ?_
    have hL : L ∈ fsOf A := by unfold fsOf; rw [hA]; exact .head _
    have h0 : tl1 = tl1 ++ [] := by simp
    rw [h0]
    refine WF.mutF (P := fun tl v => tl = tl1 ∧ v = .none) O hL (fun _ _ e => nomatch e) (fun h _ _ => cycle_spec S1 hrk hz hz2) (Nat.le_refl _) ?_
    rintro h₁ _ tl O1 ⟨rfl, rfl⟩
    clear O
    walk_at "ws"
    refine WF.execs_W ?_
    walk_at "ws"
    with_reducible refine w_trNone ?_
    refine ite_f (by decide) ?_
    walk_at "ws"
    refine WF.execs_nil ⟨tl, by simp, rfl, _, S1⟩
end
section
section
variable {α : Type} [BEq α] [Append α]
end
theorem perm_two {α : Type} (a b c d i s : α) (tl : List α) : (i :: s :: a :: b :: c :: d :: tl).Perm (a :: b :: c :: d :: i :: s :: tl) :=
  (List.perm_append_comm (l₁ := [i, s]) (l₂ := [a, b, c, d])).append_right tl
theorem perm_mid {α : Type} (i s : α) (t r : List α) : (i :: s :: (t ++ r)).Perm (t ++ i :: s :: r) :=
  ((List.perm_middle (a := i)).trans (List.Perm.cons i (List.perm_middle (a := s)))).symm
inductive CI1 (w : World) (name : Str) (tn : Tok) (d ST : Addr) (x0 : Str) (xs : List Str) (R : Str → List Str × List Str) (i : Nat) (ρ : Rho) (σ : Led) : Prop
  | mk (y1 : ρ "name" = some (.str name tn)) (y2 : ρ "records" = some (.ref d)) (y3 : ρ "steps" = some (.ref ST)) (oST : _) (us : _) (tl : _) (y4 : σ = (ST, oST) :: tl) (y5 : LObj oST us) (y6 : us.length = i) (y7 : Al (fun r v => ∃ x, v = .ref x ∧ EntK w (fun a o => (a, o) ∈ tl) x r.1 r.2) (((x0 :: xs).take i).map fun one => stepF name one (R one)) us) : CI1 w name tn d ST x0 xs R i ρ σ
inductive CI2 (w : World) (name : Str) (tn : Tok) (S1 : Addr) (oS1 : Obj) (us' : List Value) (x0 : Str) (xs : List Str) (R : Str → List Str × List Str) (i : Nat) (ρ : Rho) (σ : Led) : Prop
  | mk (y1 : ρ "name" = some (.str name tn)) (e : _) (tl : _) (r : _) (y2 : ρ "record" = some (.ref e)) (y3 : σ = (S1, oS1) :: tl) (y4 : EntK w (fun a o => (a, o) ∈ tl) e r.1 r.2) (y5 : Al (fun r v => ∃ x, v = .ref x ∧ EntK w (fun a o => (a, o) ∈ tl) x r.1 r.2) (xs.map fun one => stepF name one (R one)) us') (y6 : r.1.length ≤ 81) (y7 : r.2.length ≤ 100 * (i + 1)) (y8 : ((xs.drop i).map fun one => stepF name one (R one)).foldl mergeF r = (xs.map fun one => stepF name one (R one)).foldl mergeF (stepF name x0 (R x0))) : CI2 w name tn S1 oS1 us' x0 xs R i ρ σ
theorem record_spec {w : World} {loose : List Str} {mean : ExcName → Option Value} {mg mb : Str → Option Value} {name : Str} {tn : Tok} {a d : Addr} {o od : Obj} {ws : List Str} {kvs : List (Str × Value)} {R : Str → List Str × List Str} {h₀ : Heap}
    (ha : h₀.get? a = some o) (hs : SL o ws) (hd : h₀.get? d = some od) (hdd : DD w od kvs) (hr : ∀ x ∈ ws, ∃ e, valueAt kvs x = some (.ref e) ∧ EntK w (fun a o => h₀.get? a = some o) e (R x).1 (R x).2)
    (z0 : ws.length ≤ 8) (zn : name.length ≤ 100) (z1 : ∀ x ∈ ws, x.length ≤ 100 ∧ (R x).1.length ≤ 80 ∧ (R x).2.length ≤ 100 ∧ ∀ l ∈ (R x).2, l.length ≤ 100) :
   PureC w loose mean mg mb 4 (.ref 267) [.str name tn, .ref a, .ref d] h₀ (fun tl v => ∃ x, v = .ref x ∧ EntK w (fun a o => (a, o) ∈ tl) x (recF name ws R).1 (recF name ws R).2) := by
  refine enterC (k := 3) (binds := [("name", .str name tn), ("waits", .ref a), ("records", .ref d)]) (by k_is) (by k_is) rfl rfl rfl ?_
  intro A L ρ O B
  have b1 := B "name" _ rfl
  have b2 := B "waits" _ rfl
  have b3 := B "records" _ rfl
  clear B
  have hh := O.hh
  walk_at "ws"
  refine ⟨by simp, fun D oD hD => ?_⟩
  refine w_eqSL O (.inr ha) (.inl (.head _)) hs (SL.nil hD) ?_
  walk_at "ws"
  cases ws with
  | nil =>
    refine ite_t rfl ?_
    walk_at "ws"
    with_reducible refine w_entry O (by decide) fun x dx U R' oU oR v1 v2 v3 v4 hU hR => ?_
    walk_at "ws"
    refine w_getOwn O (.inl (by walk_at "mem")) (.inl (by walk_at "mem")) (by k_is) (by k_is) (by k_is) (by k_is) (by rfl) (by rfl) ?_
    refine w_gm_sappend (.inl (by walk_at "mem")) (SL.nil hU) ?_
    walk_at "ws"
    with_reducible refine w_appSL (SL.nil hU) (by decide) (fun o' => .tail _ (.head _)) fun oU' hU' => ?_
    walk_at "ws"
    refine w_getOwn O (.inl (by walk_at "mem")) (.inl (by walk_at "mem")) (by k_is) (by k_is) (by k_is) (by k_is) (by rfl) (by rfl) ?_
    refine w_gm_sappend (.inl (by walk_at "mem")) (SL.nil hR) ?_
    walk_at "ws"
    with_reducible refine W.nd fun hnd => ?_
    simp only [List.map_cons, List.nodup_cons, List.mem_cons, not_or] at hnd
    with_reducible refine w_appSL (SL.nil hR) (by decide) (fun o' => .head _) fun oR' hR' => ?_
    walk_at "ws"
    exact ⟨_, .refl _, x, rfl, dx, U, R', oU', oR', v1, v2, v3, v4, _, by walk_at "mem", by walk_at "mem", by walk_at "mem", by walk_at "mem", hU', hR', Ne.symm hnd.1.1⟩
  | cons x0 xs =>
    refine ite_f (by simp) ?_
    walk_at "ws"
    refine ⟨by simp, fun ST oST hST => ?_⟩
    walk_at "ws"
    obtain ⟨vs, hv, hal⟩ := hs.al
    have hvl := hal.len
    refine w_forList (σ₃ := [(ST, oST)]) hh (.inr ha) hv (.cons₂ _ (.cons _ (.refl _))) (CI1 w name tn d ST x0 xs R) ?_ ?_ ?_ ?_
    · exact ⟨by walk_at "look", by walk_at "look", by walk_at "look", oST, [], [], rfl, hST, rfl, .nil⟩
    · exact fun _ _ _ _ => .inr ha
    · rintro i v I oi ρ σ hi hv' ⟨c1, c2, c3, oST, us, tl, rfl, hST, hul, hU0⟩
      obtain ⟨one, hx, t1, rfl⟩ := hal.get hv'
      have hxm := List.mem_of_getElem? hx
      obtain ⟨e, he, hE⟩ := hr one hxm
      obtain ⟨y1, y2, y3, y4⟩ := z1 one hxm
      obtain ⟨dy, V, S, oV, oS, u1, u2, u3, u4, n', p1, p2, p3, p4, p5, p6, _⟩ := hE
      walk_at "ws"
      with_reducible refine w_entry O (by decide) fun x dx U R' oU oR v1 v2 v3 v4 hU hR => ?_
      walk_at "ws"
      refine w_getOwn O (.inl (by walk_at "mem")) (.inl (by walk_at "mem")) (by k_is) (by k_is) (by k_is) (by k_is) (by rfl) (by rfl) ?_
      refine w_gm_sextend (.inl (by walk_at "mem")) (SL.nil hU) ?_
      walk_at "ws"
      refine w_subD (.inr hd) hdd (w_getD (.inr hd) hdd he ?_)
      refine w_getOwn O (.inr p1) (.inr p2) (by k_is) (by k_is) (by k_is) (by k_is) (by rfl) (by rfl) ?_
      walk_at "ws"
      with_reducible refine W.addS (by lia) fun t2 => ?_
      walk_at "ws"
      refine ⟨by simp, fun E1 oE1 hE1 => ?_⟩
      obtain ⟨l5, hl5, el5⟩ := p5
      have zl5 := congrArg List.length el5
      rw [List.length_map] at zl5
      refine w_addL (.inr p3) (.inl (.head _)) hl5 hE1 (by rw [strValues_len]; simp; lia) fun E2 oE2 hE2 => ?_
      have hE2 : SL oE2 ((R one).1 ++ [one ++ name]) := ⟨l5 ++ [(one ++ name, t2)], by rw [strValues_app]; exact hE2, by rw [List.map_append, el5]; rfl⟩
      walk_at "ws"
      refine w_extSL (SL.nil hU) (.inl (.head _)) hE2 (by simp; exact Nat.le_trans (by assumption) (by decide)) (fun o' => .tail _ (.tail _ (.tail _ (.head _)))) fun oU' hU' => ?_
      walk_at "un"
      with_reducible refine W.sub (σ' := (R', oR) :: (U, oU') :: (x, instObj 76 dx) :: (dx, dictOf (eEs w v1 v2 v3 v4 (.ref U) (.ref R') .none .none) 4) :: (I, oi) :: (ST, oST) :: tl) ?_ (.cons _ (.cons _ (.refl _)))
      walk_at "ws"
      refine w_getOwn O (.inl (by walk_at "mem")) (.inl (by walk_at "mem")) (by k_is) (by k_is) (by k_is) (by k_is) (by rfl) (by rfl) ?_
      refine w_gm_sextend (.inl (by walk_at "mem")) (SL.nil hR) ?_
      walk_at "ws"
      refine w_listComp (cl := [("name", L + 1)]) O (by with_unfolding_all rfl) (hcl1 (by with_unfolding_all rfl)) (clk_of (by with_unfolding_all rfl)) (by decide) (by with_unfolding_all rfl) (by decide) (by intro _; with_unfolding_all rfl) (by intro _ _; with_unfolding_all rfl) ?_
      walk_at "ws"
      refine w_subD (.inr hd) hdd (w_getD (.inr hd) hdd he ?_)
      refine w_getOwn O (.inr p1) (.inr p2) (by k_is) (by k_is) (by k_is) (by k_is) (by rfl) (by rfl) ?_
      obtain ⟨us6, hl6, al6⟩ := p6.al
      refine w_compL (p := fun _ => true) (V := fun l v => IsS (l ++ name) v) hh (.inr p4) hl6 al6 (by exact Nat.le_trans (by assumption) (by decide)) ?_ ?_
      · rintro h₁ C ρc l v hs O' hc hl ⟨t, rfl⟩
        have c4 := hc "name" _ _ rfl (by walk_at "look")
        have := y4 l hl
        walk_at "ws"
        refine ⟨rfl, fun _ => ?_⟩
        walk_at "ws"
        with_reducible refine W.addS (by lia) fun t2 => ?_
        exact ⟨_, rfl⟩
      · intro E3 oE3 rs hE3 hrs
        walk_at "ws"
        have hE3' : SL oE3 ((R one).2.map (· ++ name)) := by
          refine SL.of hE3 ?_
          rw [List.filter_eq_self.mpr fun _ _ => rfl] at hrs
          exact hrs.of_map (f := (· ++ name)) (V' := IsS) fun _ _ q => q
        with_reducible refine W.nd fun hnd => ?_
        simp only [List.map_cons, List.nodup_cons, List.mem_cons, not_or] at hnd
        refine w_extSL (SL.nil hR) (.inl (.head _)) hE3' (by simp; lia) (fun o' => .tail _ (.head _)) fun oR2 hR2 => ?_
        walk_at "un"
        with_reducible refine W.sub (σ' := (R', oR2) :: (U, oU') :: (x, instObj 76 dx) :: (dx, dictOf (eEs w v1 v2 v3 v4 (.ref U) (.ref R') .none .none) 4) :: (I, oi) :: (ST, oST) :: tl) ?_ (.cons _ (.refl _))
        walk_at "ws"
        refine w_gm_lappend (.inl (by walk_at "mem")) hST ?_
        walk_at "ws"
        refine w_append hST (by rw [hul]; lia) (fun o' => .tail _ (.tail _ (.tail _ (.tail _ (.tail _ (.head _)))))) fun oST2 hST2 => ?_
        walk_at "un"
        with_reducible refine W.perm (σ' := (I, oi) :: (ST, oST2) :: (R', oR2) :: (U, oU') :: (x, instObj 76 dx) :: (dx, dictOf (eEs w v1 v2 v3 v4 (.ref U) (.ref R') .none .none) 4) :: tl) ?_ (perm_two _ _ _ _ _ _ _)
        walk_at "ws"
        refine ⟨_, .refl _, by walk_at "look", by walk_at "look", by walk_at "look", oST2, _, _, rfl, hST2, by simp [hul], ?_⟩
        rw [List.take_add_one, hx, List.map_append]
        refine (hU0.mono fun r v _ ⟨x, e, q⟩ => ⟨x, e, q.mono fun _ _ h => .tail _ (.tail _ (.tail _ (.tail _ h)))⟩).snoc ⟨x, rfl, dx, U, R', oU', oR2, v1, v2, v3, v4, _, by walk_at "mem", by walk_at "mem", by walk_at "mem", by walk_at "mem", ?_, ?_, Ne.symm hnd.2.1.1⟩
        · exact hU'
        · exact hR2
    · rintro ρ σ ⟨c1, c2, c3, oST, us, tl, rfl, hST, hul, hU⟩
      rw [hvl, List.take_length, List.map_cons] at hU
      obtain ⟨e0, us', rfl, hE0, hU'⟩ : ∃ e0 us', us = .ref e0 :: us' ∧ EntK w (fun a o => (a, o) ∈ tl) e0 (stepF name x0 (R x0)).1 (stepF name x0 (R x0)).2 ∧ Al (fun r v => ∃ x, v = .ref x ∧ EntK w (fun a o => (a, o) ∈ tl) x r.1 r.2) (xs.map fun one => stepF name one (R one)) us' := by
        cases hU with
        | cons h t => obtain ⟨e0, rfl, h⟩ := h; exact ⟨e0, _, rfl, h, t⟩
      walk_at "ws"
      refine w_item (.inl (.head _)) hST (i := 0) rfl rfl (by decide) ?_
      walk_at "ws"
      intro I3 oi3 hs3
      refine w_subFrom 1 hs3 rfl (by simp) (.inl (.head _)) hST (by rw [hul]; lia) fun S1 oS1 hS1 => ?_
      have hS1 : LObj oS1 us' := hS1
      have hul' : us'.length = xs.length := by rw [hU'.len, List.length_map]
      walk_at "ws"
      have zz : ∀ one ∈ x0 :: xs, (stepF name one (R one)).1.length ≤ 81 ∧ (stepF name one (R one)).2.length ≤ 100 := fun one h1 => by
        obtain ⟨y1, y2, y3, y4⟩ := z1 one h1
        unfold stepF
        rw [List.length_append, List.length_map]
        exact ⟨Nat.succ_le_succ y2, y3⟩
      refine w_forList (σ₃ := (S1, oS1) :: tl) hh (.inl (.head _)) hS1 (.cons₂ _ (.cons _ (.cons _ (.refl _)))) (CI2 w name tn S1 oS1 us' x0 xs R) ?_ ?_ ?_ ?_
      · exact ⟨by walk_at "look", e0, tl, _, by walk_at "look", rfl, hE0, hU', (zz x0 (.head _)).1, (zz x0 (.head _)).2, rfl⟩
      · rintro i ρ σ ⟨_, e, tl, r, _, rfl, _⟩
        exact .inl (.head _)
      · rintro i v I oi ρ σ hi hv' ⟨c1, e, tl, r, c2, rfl, hE, hU2, q1, q2, q3⟩
        obtain ⟨r2, hx, e2, rfl, hE2⟩ := hU2.get hv'
        rw [List.getElem?_map] at hx
        have hlt : i < xs.length := by lia
        rw [List.getElem?_eq_getElem hlt] at hx
        cases hx
        have hE2 : EntK w (fun a o => (a, o) ∈ tl) e2 (stepF name xs[i] (R xs[i])).1 (stepF name xs[i] (R xs[i])).2 := hE2
        have hzz := zz xs[i] (.tail _ (List.getElem_mem hlt))
        have hsum := z0
        rw [List.length_cons] at hsum
        walk_at "ws"
        refine W.pureC O (fun h F => merge_spec (hE.mono fun a o hm => F.get (.tail _ (.tail _ hm))) (hE2.mono fun a o hm => F.get (.tail _ (.tail _ hm))) (by exact Nat.le_trans (by assumption) (by decide)) (by lia) (by lia)) (by decide) ?_
        rintro _ tl2 ⟨x, rfl, hM⟩
        walk_at "un"
        with_reducible refine W.perm (σ' := (I, oi) :: (S1, oS1) :: (tl2 ++ tl)) ?_ (perm_mid _ _ _ _)
        walk_at "ws"
        refine ⟨_, .refl _, by walk_at "look", x, tl2 ++ tl, mergeF r (stepF name xs[i] (R xs[i])), by walk_at "look", rfl, hM.mono fun _ _ h => List.mem_append_left _ h, hU2.mono fun r v _ ⟨x, e, q⟩ => ⟨x, e, q.mono fun _ _ h => List.mem_append_right _ h⟩, ?_, ?_, ?_⟩
        · exact Nat.le_trans (List.length_filter_le ..) q1
        · show (r.2 ++ (stepF name xs[i] (R xs[i])).2).length ≤ _
          rw [List.length_append]
          lia
        · rw [← q3, List.drop_eq_getElem_cons hlt, List.map_cons, List.foldl_cons]
      · rintro ρ σ ⟨c1, e, tl, r, c2, rfl, hE, hU2, q1, q2, q3⟩
        rw [hul', List.drop_length] at q3
        walk_at "ws"
        obtain ⟨dx, U, R', oU, oR, v1, v2, v3, v4, n, p1, p2, p3, p4, p5, p6, p7⟩ := hE
        refine w_getOwn O (.inl (.tail _ p1)) (.inl (.tail _ p2)) (by k_is) (by k_is) (by k_is) (by k_is) (by rfl) (by rfl) ?_
        refine w_gm_sappend (.inl (.tail _ p3)) p5 ?_
        walk_at "ws"
        with_reducible refine W.nd fun hnd => ?_
        simp only [List.map_cons, List.nodup_cons] at hnd
        have n1 := ne_cls hnd.2 p1 p3 (by rw [p5.cls]; exact ref_ne_type)
        have n2 := ne_cls hnd.2 p2 p3 (by rw [p5.cls]; exact dict_ne_list)
        with_reducible refine w_appSL p5 (by exact Nat.le_trans (by assumption) (by decide)) (fun o' => .tail _ (upd_put hnd.2 p3)) fun oU' hU' => ?_
        walk_at "ws"
        have q4 : r = (xs.map fun one => stepF name one (R one)).foldl mergeF (stepF name x0 (R x0)) := q3
        refine ⟨_, .cons _ (.refl _), e, rfl, dx, U, R', oU', oR, v1, v2, v3, v4, n, put_mem p1 n1, put_mem p2 n2, put_here p3, put_mem p4 (Ne.symm p7), ?_, ?_, p7⟩
        · have : SL oU' (r.1 ++ [name]) := hU'
          rw [q4] at this
          exact this
        · have : SL oR r.2 := p6
          rw [q4] at this
          exact this
end
section
/-! the whole run of the sorter, told by plain data -/
section
variable {α : Type} [DecidableEq α] [BEq α] [Append α]
end
/-! the dict of records -/
inductive RR (w : World) (K : Addr → Obj → Prop) : List (Str × Value) → List (Str × List Str × List Str) → Prop
  | nil : RR w K [] []
  | cons {k : Str} {e : Addr} {us ls : List Str} {kvs : List (Str × Value)} {recs : List (Str × List Str × List Str)} : EntK w K e us ls → RR w K kvs recs → RR w K ((k, .ref e) :: kvs) ((k, us, ls) :: recs)
theorem RR.mono {w : World} {K K' : Addr → Obj → Prop} (hk : ∀ a o, K a o → K' a o) {kvs : List (Str × Value)} {recs : List (Str × List Str × List Str)} (h : RR w K kvs recs) : RR w K' kvs recs := by
  induction h with
  | nil => exact .nil
  | cons h _ ih => exact .cons (h.mono hk) ih
theorem RR.snoc {w : World} {K : Addr → Obj → Prop} {k : Str} {e : Addr} {us ls : List Str} (h : EntK w K e us ls) {kvs : List (Str × Value)} {recs : List (Str × List Str × List Str)} (r : RR w K kvs recs) : RR w K (kvs ++ [(k, .ref e)]) (recs ++ [(k, us, ls)]) := by
  induction r with
  | nil => exact .cons h .nil
  | cons g _ ih => exact .cons g ih
theorem RR.len {w : World} {K : Addr → Obj → Prop} {kvs : List (Str × Value)} {recs : List (Str × List Str × List Str)} (r : RR w K kvs recs) : kvs.length = recs.length := by
  induction r with
  | nil => rfl
  | cons _ _ ih => exact congrArg Nat.succ ih
theorem RR.get {w : World} {K : Addr → Obj → Prop} {k : Str} {r : List Str × List Str} {kvs : List (Str × Value)} {recs : List (Str × List Str × List Str)} (x : RR w K kvs recs) (h : lookR recs k = some r) : ∃ e, valueAt kvs k = some (.ref e) ∧ EntK w K e r.1 r.2 := by
  induction x with
  | nil => cases h
  | @cons k' _ us ls kvs recs g x ih =>
    by_cases hc : k' = k
    · subst hc
      have : (us, ls) = r := by simpa [lookR] using h
      subst this
      exact ⟨_, by simp [valueAt], g⟩
    · have h' : lookR recs k = some r := by simpa [lookR, List.find?_cons, hc] using h
      obtain ⟨e, h1, h2⟩ := ih h'
      exact ⟨e, by simpa [valueAt, List.find?_cons, hc] using h1, h2⟩
theorem RR.new {w : World} {K : Addr → Obj → Prop} {k : Str} {v : Value} {kvs : List (Str × Value)} {recs : List (Str × List Str × List Str)} (x : RR w K kvs recs) (h : lookR recs k = none) : k ∉ kvs.map (·.1) := by
  induction x with
  | nil => simp
  | @cons k' _ _ _ kvs recs g x ih =>
    by_cases hc : k' = k
    · subst hc
      simp [lookR] at h
    · have h' : lookR recs k = none := by simpa [lookR, List.find?_cons, hc] using h
      rw [List.map_cons, List.mem_cons, not_or]
      exact ⟨Ne.symm hc, ih h'⟩
/-- the table of waits, in a ledger -/
structure WaitsL (w : World) (σ : Led) (d : Addr) (f : Str → List Str) (names : List Str) : Prop where
  sm : (d == sysModules) = false
  obj : ∃ o kvs, (d, o) ∈ σ ∧ DD w o kvs ∧ ∀ x ∈ names, ∃ a oa, valueAt kvs x = some (.ref a) ∧ (a, oa) ∈ σ ∧ SL oa (f x)
section
variable {α : Type} [DecidableEq α] [BEq α] [Append α] {len : α → Nat} {rk : α → Nat} {names : List α} {f : α → List α} {recs : List (α × List α × List α)}
theorem runF_parts (h : runF len rk names f = some recs) : ∃ ns, addsF names f names.reverse [] = some ns ∧ prepOK rk ns = true ∧ loopF len names f 10 ⟨ns, startF ns, 0, 0, []⟩ = some recs := by
  unfold runF at h
  cases h1 : addsF names f names.reverse [] with
  | none => rw [h1] at h; cases h
  | some ns =>
    rw [h1] at h
    cases h2 : prepOK rk ns with
    | false => simp [h2] at h
    | true => exact ⟨ns, rfl, h2, by simpa [h2] using h⟩
theorem addsF_cons {k : α} {ks : List α} {ns e : List (Nd α)} (h : addsF names f (k :: ks) ns = some e) : fitA names f ns k = true ∧ addsF names f ks (addF ns k (f k)) = some e := by
  unfold addsF at h
  cases h2 : fitA names f ns k with
  | false => simp [h2] at h
  | true => exact ⟨rfl, by simpa [h2] using h⟩
theorem fitA_parts {ns : List (Nd α)} {k : α} (h : fitA names f ns k = true) : k ∈ names ∧ ns.length + (f k).length ≤ 500 ∧ (f k).length ≤ 100 ∧ ∀ q ∈ ns, q.sc.length ≤ 100 := by
  unfold fitA at h
  simp only [Bool.and_eq_true, decide_eq_true_eq, List.all_eq_true, List.any_eq_true] at h
  obtain ⟨⟨⟨⟨x, hx, rfl⟩, h2⟩, h3⟩, h4⟩ := h
  exact ⟨hx, h2, h3, h4⟩
theorem prepOK_parts {ns : List (Nd α)} (h : prepOK rk ns = true) : (∀ q ∈ ns, ∀ j ∈ q.sc, ndHas ns j = true ∧ rk q.nm < rk j) ∧ ns.length ≤ 90 ∧ ∀ q ∈ ns, q.sc.length ≤ 1000 := by
  unfold prepOK at h
  simp only [Bool.and_eq_true, decide_eq_true_eq, List.all_eq_true] at h
  exact ⟨fun q hq j hj => (h.1 q hq).2 j hj, h.2, fun q hq => (h.1 q hq).1⟩
theorem loopF_parts {n : Nat} {st : RS α} (h : loopF len names f n st = some recs) : ∃ m, n = m + 1 ∧ st.ready.length ≤ 900 ∧ (∀ k ∈ st.ready, ndHas st.ns k = true) ∧
    (if decide (st.fin < st.passed) || !st.ready.isEmpty then ∃ st', innerF len names f st.ready ⟨outF st.ns st.ready, [], st.passed + st.ready.length, st.fin, st.recs⟩ = some st' ∧ loopF len names f m st' = some recs else st.recs = recs) := by
  cases n with
  | zero => cases h
  | succ m =>
    unfold loopF at h
    cases h1 : decide (st.ready.length ≤ 900) && st.ready.all (ndHas st.ns) with
    | false => rw [h1] at h; simp at h
    | true =>
      rw [h1, if_pos rfl] at h
      simp only [Bool.and_eq_true, decide_eq_true_eq, List.all_eq_true] at h1
      refine ⟨m, rfl, h1.1, h1.2, ?_⟩
      cases h2 : decide (st.fin < st.passed) || !st.ready.isEmpty with
      | false => rw [h2] at h; simpa using h
      | true =>
        rw [h2, if_pos rfl] at h
        rw [if_pos rfl]
        cases h3 : innerF len names f st.ready ⟨outF st.ns st.ready, [], st.passed + st.ready.length, st.fin, st.recs⟩ with
        | none => rw [h3] at h; cases h
        | some st' => rw [h3] at h; exact ⟨st', rfl, h⟩
theorem innerF_cons {k : α} {ks : List α} {st e : RS α} (h : innerF len names f (k :: ks) st = some e) : ∃ st', nodeStep len names f st k = some st' ∧ innerF len names f ks st' = some e := by
  unfold innerF at h
  cases h1 : nodeStep len names f st k with
  | none => rw [h1] at h; cases h
  | some st' => rw [h1] at h; exact ⟨st', rfl, h⟩
theorem nodeStep_parts {st st' : RS α} {k : α} (h : nodeStep len names f st k = some st') : ∃ q, ndGet st.ns k = some q ∧ q.np = -1 ∧ (∀ j ∈ q.sc, ndHas st.ns j = true) ∧ st.ready.length + q.sc.length ≤ 900 ∧ k ∈ names ∧ (f k).length ≤ 8 ∧ len k ≤ 100 ∧ (∀ x ∈ f k, len x ≤ 100 ∧ ∃ r, lookR st.recs x = some r ∧ r.1.length ≤ 80 ∧ r.2.length ≤ 100 ∧ ∀ l ∈ r.2, len l ≤ 100) ∧ lookR st.recs k = none ∧ st.recs.length ≤ 100 ∧
    st' = ⟨(doneF st.ns st.ready k q.sc).1, (doneF st.ns st.ready k q.sc).2, st.passed, st.fin + 1, st.recs ++ [(k, recF k (f k) (hereR st.recs))]⟩ := by
  unfold nodeStep at h
  cases h1 : ndGet st.ns k with
  | none => rw [h1] at h; cases h
  | some q =>
    rw [h1] at h
    dsimp only at h
    cases h2 : fitN len names f st k q with
    | false => simp [h2] at h
    | true =>
      rw [h2, if_pos rfl] at h
      unfold fitN smallR at h2
      simp only [Bool.and_eq_true, decide_eq_true_eq, List.all_eq_true, List.any_eq_true, Option.any_eq_true, Option.isNone_iff_eq_none] at h2
      obtain ⟨⟨⟨⟨⟨⟨⟨⟨h3, h4⟩, h5⟩, ⟨x, hx, rfl⟩⟩, h7⟩, h8⟩, h9⟩, h10⟩, h11⟩ := h2
      refine ⟨q, rfl, h3, h4, h5, hx, h7, h8, fun y hy => ?_, h10, h11, (Option.some.inj h).symm⟩
      obtain ⟨g1, r, g2, ⟨g3, g4⟩, g5⟩ := h9 y hy
      exact ⟨g1, r, g2, g3, g4, g5⟩
end
end
section
theorem al_reverse {α : Type} {V : α → Value → Prop} {xs : List α} {vs : List Value} (h : Al V xs vs) : Al V xs.reverse vs.reverse := by
  induction h with
  | nil => exact .nil
  | cons h _ ih =>
    rw [List.reverse_cons, List.reverse_cons]
    exact ih.snoc h
theorem perm_in {α : Type} (p s t e r : List α) : (p ++ (s ++ ((t ++ e) ++ r))).Perm (t ++ (p ++ (s ++ (e ++ r)))) := by
  rw [List.append_assoc, ← List.append_assoc p, ← List.append_assoc p]
  exact List.perm_append_comm_assoc (p ++ s) t (e ++ r)
inductive XI1 (w : World) (x d S1 : Addr) (oS1 : Obj) (σ₀ : Led) (names : List Str) (f : Str → List Str) (nsE : List (Nd Str)) (i : Nat) (ρ : Rho) (σ : Led) : Prop
  | mk (y1 : ρ "sorter" = some (.ref x)) (y2 : ρ "waits" = some (.ref d)) (D : _) (tl : _) (ns : _) (y3 : σ = (S1, oS1) :: (tl ++ σ₀)) (y4 : Srt w x ⟨ns, none, 0, 0⟩ D tl) (y5 : addsF names f (names.reverse.drop i) ns = some nsE) : XI1 w x d S1 oS1 σ₀ names f nsE i ρ σ
inductive XI2 (w : World) (x d Dr : Addr) (σ₀ : Led) (names : List Str) (f : Str → List Str) (recs : List (Str × List Str × List Str)) (n : Nat) (ρ : Rho) (σ : Led) : Prop
  | mk (y1 : ρ "sorter" = some (.ref x)) (y2 : ρ "waits" = some (.ref d)) (y3 : ρ "records" = some (.ref Dr)) (st : RS Str) (D : SD) (tl tlE : Led) (kvs : List (Str × Value)) (oDr : Obj) (y4 : σ = (Dr, oDr) :: (tl ++ (tlE ++ σ₀))) (y5 : Srt w x ⟨st.ns, some st.ready, st.passed, st.fin⟩ D tl) (y6 : DD w oDr kvs) (y7 : RR w (fun a o => (a, o) ∈ tlE) kvs st.recs) (y8 : loopF Str.length names f n st = some recs) : XI2 w x d Dr σ₀ names f recs n ρ σ
inductive XI3 (w : World) (x d Dr T : Addr) (oT : Obj) (σ₀ : Led) (names : List Str) (f : Str → List Str) (st st' : RS Str) (i : Nat) (ρ : Rho) (σ : Led) : Prop
  | mk (y1 : ρ "sorter" = some (.ref x)) (y2 : ρ "waits" = some (.ref d)) (y3 : ρ "records" = some (.ref Dr)) (st1 : RS Str) (D : SD) (tl tlE : Led) (kvs : List (Str × Value)) (oDr : Obj) (y4 : σ = (T, oT) :: (Dr, oDr) :: (tl ++ (tlE ++ σ₀))) (y5 : Srt w x ⟨st1.ns, some st1.ready, st1.passed, st1.fin⟩ D tl) (y6 : DD w oDr kvs) (y7 : RR w (fun a o => (a, o) ∈ tlE) kvs st1.recs) (y8 : innerF Str.length names f (st.ready.drop i) st1 = some st') : XI3 w x d Dr T oT σ₀ names f st st' i ρ σ
inductive RecsP (w : World) (recs : List (Str × List Str × List Str)) (σ₀ tl : Led) (v : Value) : Prop
  | mk (Dr : Addr) (oDr : Obj) (kvs : List (Str × Value)) (tl' : Led) (y1 : v = .ref Dr) (y2 : (Dr == sysModules) = false) (y3 : DD w oDr kvs) (y4 : tl = tl' ++ σ₀) (y5 : (Dr, oDr) ∈ tl') (y6 : RR w (fun a o => (a, o) ∈ tl') kvs recs) : RecsP w recs σ₀ tl v
theorem records_spec {w : World} {loose : List Str} {mean : ExcName → Option Value} {mg mb : Str → Option Value} {a d : Addr} {o : Obj} {names : List Str} {f : Str → List Str} {rk : Str → Nat} {recs : List (Str × List Str × List Str)} {σ₀ : Led} {h₀ : Heap}
    (ha : (a, o) ∈ σ₀) (hs : SL o names) (hw : WaitsL w σ₀ d f names) (h0 : names.length ≤ 100) (hrun : runF Str.length rk names f = some recs) :
   MutF w loose mean mg mb 5 (.ref 274) [.ref a, .ref d] h₀ σ₀ (RecsP w recs σ₀) := by
  refine enterF (k := 4) (binds := [("names", .ref a), ("waits", .ref d)]) (by k_is) (by k_is) (fun s _ => BindsTo.of_eq rfl) rfl ?_
  intro A L ρ outer O hA B
  have b1 := B "names" _ rfl
  have b2 := B "waits" _ rfl
  clear B
  have hh := O.hh
  refine WF.execs_W ?_
  walk_at "ws"
  with_reducible refine w_sorter O (by decide) fun x D tl S => ?_
  walk_at "ws"
  refine WF.execs_W ?_
  walk_at "ws"
  intro I3 oi3 hs3
  obtain ⟨vs, hv, hal⟩ := hs.al
  refine w_subSlL hs3 (.inl (List.mem_append_right _ ha)) hv .none .none (.int _ _) (by decide) (by rw [hal.len]; exact Nat.le_trans (by assumption) (by decide)) fun S1 oS1 hS1 => ?_
  rw [krv_pick] at hS1
  have hS1 : LObj oS1 vs.reverse := by simpa using hS1
  have hal1 := al_reverse hal
  obtain ⟨nsE, hadd, hprep, hloop⟩ := runF_parts hrun
  obtain ⟨od, wkvs, hd, hdd, hwk⟩ := hw.obj
  refine w_forList (σ₃ := (S1, oS1) :: (tl ++ σ₀)) hh (.inl (.head _)) hS1 (.cons₂ _ (.cons _ (.refl _))) (XI1 w x d S1 oS1 σ₀ names f nsE) ?_ ?_ ?_ ?_
  · exact ⟨by walk_at "look", by walk_at "look", D, tl, [], rfl, S, hadd⟩
  · rintro i ρ σ ⟨_, _, D, tl, ns, rfl, _⟩
    exact .inl (.head _)
  · rintro i v I oi ρ σ hi hv' ⟨c1, c2, D, tl, ns, rfl, S, he⟩
    obtain ⟨k, hk, tk, rfl⟩ := hal1.get hv'
    obtain ⟨hlt, hk'⟩ := List.getElem?_eq_some_iff.mp hk
    rw [List.drop_eq_getElem_cons hlt, hk'] at he
    obtain ⟨hfit, he⟩ := addsF_cons he
    obtain ⟨f1, f2, f3, f4⟩ := fitA_parts hfit
    obtain ⟨aw, oaw, g1, g2, g3⟩ := hwk k f1
    obtain ⟨ws, hws, hwal⟩ := g3.al
    walk_at "ws"
    with_reducible refine w_methodS ?_ (by with_unfolding_all rfl)
    walk_at "ws"
    refine w_bound O (.inl (.tail _ (.tail _ (List.mem_append_left _ S.mx)))) (.inl (.tail _ (.tail _ (List.mem_append_left _ S.mdx)))) (by k_is) (by k_is) (by k_is) (by k_is) (by k_is) (by k_is) (by rfl) fun q => ?_
    with_reducible refine w_callSM (g := 198) (self := .ref x) O (by k_is) ?_ (by with_unfolding_all rfl) (by with_unfolding_all rfl)
    walk_at "ws"
    with_reducible refine w_star ?_ (by with_unfolding_all rfl)
    walk_at "ws"
    refine w_subD (.inl (.tail _ (.tail _ (.tail _ (List.mem_append_right _ hd))))) hdd (w_getD (.inl (.tail _ (.tail _ (.tail _ (List.mem_append_right _ hd))))) hdd g1 ?_)
    refine ⟨aw, oaw, ws, rfl, .inl (.tail _ (.tail _ (.tail _ (List.mem_append_right _ g2)))), hws.lw, by rw [hwal.len]; exact Nat.le_trans (by assumption) (by decide), ?_⟩
    walk_at "ws"
    refine ⟨.inl (.head _), ?_⟩
    walk_at "un"
    with_reducible refine W.perm (σ' := tl ++ ([(q, methodObj (.ref 198) (.ref x)), (I, oi), (S1, oS1)] ++ σ₀)) ?_ (List.perm_append_comm_assoc _ _ _)
    refine W.mutC (P := fun tl v => ∃ D', Srt w x { ns := addF ns k (f k), ready := none, passed := 0, fin := 0 } D' tl) O (fun h _ hσ => MutC.meth (hσ _ (.head _)) (add_spec S rfl (by rw [List.append_nil]; exact hwal) f2 f3 f4)) (Nat.le_refl _) ?_
    rintro v tl2 ⟨D2, S2⟩
    walk_at "un"
    refine W.perm (σ' := (q, methodObj (.ref 198) (.ref x)) :: (I, oi) :: (S1, oS1) :: (tl2 ++ σ₀)) ?_ (List.perm_append_comm_assoc [_, _, _] tl2 σ₀)
    walk_at "ws"
    exact ⟨_, .cons _ (.refl _), by walk_at "look", by walk_at "look", D2, tl2, _, rfl, S2, he⟩
  · rintro ρ σ ⟨c1, c2, D, tl, ns, rfl, S, he⟩
    have hlr : vs.reverse.length = names.reverse.length := hal1.len
    rw [hlr, List.drop_length] at he
    obtain rfl : ns = nsE := by simpa [addsF] using he
    walk_at "ws"
    refine WF.execs_cons (WF.expr ?_ (by with_unfolding_all rfl) (by with_unfolding_all rfl))
    refine WF.method ?_ (by with_unfolding_all rfl)
    walk_at "ws"
    refine w_gmI O (.inl (.tail _ (List.mem_append_left _ S.mx))) (.inl (.tail _ (List.mem_append_left _ S.mdx))) (by k_is) (by k_is) (by k_is) (by rfl) ?_
    refine wf_callK0 O (by k_is) ?_
    have hL : L ∈ fsOf A := by unfold fsOf; rw [hA]; exact .head _
    obtain ⟨y1, y2, y3⟩ := prepOK_parts hprep
    refine WF.sub (σ' := tl ++ σ₀) ?_ (.cons _ (.refl _))
    refine WF.mutF (P := fun tl v => v = .none ∧ ∃ D', Srt w x ⟨ns, some (startF ns), 0, 0⟩ D' tl) O hL (fun _ _ e => nomatch e) (fun h _ _ => prepare_spec S rfl y1 y2 y3) (by decide) ?_
    rintro h₁ _ tl1 O1 ⟨rfl, D1, S1⟩
    clear O S
    refine WF.ofW ?_
    walk_at "ws"
    intro Dr oDr hsm hDr
    walk_at "ws"
    refine W.while (XI2 w x d Dr σ₀ names f recs)
      ?_ 10 ⟨by walk_at "look", by walk_at "look", by walk_at "look", ⟨ns, startF ns, 0, 0, []⟩, D1, tl1, [], [], oDr, rfl, S1, hDr, .nil, hloop⟩
    clear hDr S1 oDr D1 tl1 c1 c2
    rintro n ρ σ ⟨c1, c2, c3, st, D, tl, tlE, kvs, oDr, rfl, S, hDr, hRR, hl⟩
    obtain ⟨m, rfl, hr9, hrin, hif⟩ := loopF_parts hl
    walk_at "ws"
    refine w_gmI O1 (.inl (.tail _ (List.mem_append_left _ S.mx))) (.inl (.tail _ (List.mem_append_left _ S.mdx))) (by k_is) (by k_is) (by k_is) (by rfl) ?_
    walk_at "ws"
    walk_at "un"
    with_reducible refine W.perm (σ' := tl ++ ([(Dr, oDr)] ++ (tlE ++ σ₀))) ?_ (List.perm_append_comm_assoc _ _ _)
    with_reducible refine W.mutC (P := fun t v => t = tl ∧ v = .bool (decide (st.fin < st.passed) || !st.ready.isEmpty)) O1 (fun h _ hσ => active_spec S rfl (by exact Nat.le_trans (by assumption) (by decide))) (by decide) ?_
    rintro _ t9 ⟨e9, rfl⟩
    rw [e9]
    walk_at "un"
    with_reducible refine W.perm (σ' := (Dr, oDr) :: (tl ++ (tlE ++ σ₀))) ?_ (List.perm_append_comm_assoc [_] _ _)
    walk_at "ws"
    cases hact : decide (st.fin < st.passed) || !st.ready.isEmpty with
    | false =>
      rw [hact] at hif
      refine ite_f Bool.false_ne_true ?_
      have hif : st.recs = recs := hif
      rw [hif] at hRR
      walk_at "ws"
      exact ⟨_, .refl _, Dr, oDr, kvs, (Dr, oDr) :: (tl ++ tlE), rfl, hsm, hDr, by simp, .head _, hRR.mono fun _ _ hm => .tail _ (List.mem_append_right _ hm)⟩
    | true =>
      rw [hact, if_pos rfl] at hif
      obtain ⟨st', hin, hl'⟩ := hif
      refine ite_t rfl ?_
      walk_at "ws"
      refine w_gmI O1 (.inl (.tail _ (List.mem_append_left _ S.mx))) (.inl (.tail _ (List.mem_append_left _ S.mdx))) (by k_is) (by k_is) (by k_is) (by rfl) ?_
      walk_at "ws"
      walk_at "un"
      with_reducible refine W.perm (σ' := tl ++ ([(Dr, oDr)] ++ (tlE ++ σ₀))) ?_ (List.perm_append_comm_assoc _ _ _)
      with_reducible refine W.mutC O1 (fun h _ hσ => ready_spec S rfl (by lia) hrin) (by decide) ?_
      rintro _ _ ⟨D2, T, oT, us, tl2, rfl, rfl, hT, hal2, S2⟩
      walk_at "un"
      with_reducible refine W.perm (σ' := (T, oT) :: (Dr, oDr) :: (tl2 ++ (tlE ++ σ₀))) ?_ ((List.perm_append_comm_assoc [_] _ _).cons _)
      walk_at "ws"
      refine w_forTuple (σ₃ := (T, oT) :: (Dr, oDr) :: (tl2 ++ (tlE ++ σ₀))) hh (.inl (.head _)) hT (.refl _) (XI3 w x d Dr T oT σ₀ names f st st') ?_ ?_ ?_ ?_
      · exact ⟨by walk_at "look", by walk_at "look", by walk_at "look", ⟨outF st.ns st.ready, [], st.passed + st.ready.length, st.fin, st.recs⟩, D2, tl2, tlE, kvs, oDr, rfl, S2, hDr, hRR, hin⟩
      · rintro i ρ σ ⟨_, _, _, st, D, tl, tlE, kvs, oDr, rfl, _⟩
        exact .inl (.head _)
      · clear e9 hDr hRR hin c1 c2 c3 S S2 tl2 D D2 tl kvs oDr tlE
        rintro i v I oi ρ σ hi hv ⟨c1, c2, c3, st1, D, tl, tlE, kvs, oDr, rfl, S, hDr, hRR, hin⟩
        obtain ⟨k, hk, tk, rfl⟩ := hal2.get hv
        obtain ⟨hlt, hk'⟩ := List.getElem?_eq_some_iff.mp hk
        rw [List.drop_eq_getElem_cons hlt, hk'] at hin
        obtain ⟨st2, hstep, hin⟩ := innerF_cons hin
        obtain ⟨q, q1, q2, q3, q4, q5, q6, q7, q8, q9, q10, rfl⟩ := nodeStep_parts hstep
        obtain ⟨aw, oaw, g1, g2, g3⟩ := hwk k q5
        have inσ : ∀ {p : Addr × Obj}, p ∈ σ₀ → p ∈ (I, oi) :: (T, oT) :: (Dr, oDr) :: (tl ++ (tlE ++ σ₀)) := fun hp => .tail _ (.tail _ (.tail _ (List.mem_append_right _ (List.mem_append_right _ hp))))
        have inE : ∀ {p : Addr × Obj}, p ∈ tlE → p ∈ (I, oi) :: (T, oT) :: (Dr, oDr) :: (tl ++ (tlE ++ σ₀)) := fun hp => .tail _ (.tail _ (.tail _ (List.mem_append_right _ (List.mem_append_left _ hp))))
        walk_at "ws"
        refine w_subD (.inl (inσ hd)) hdd (w_getD (.inl (inσ hd)) hdd g1 ?_)
        walk_at "ws"
        refine W.pureC O1 (fun h F => record_spec (R := hereR st1.recs) (F.get (inσ g2)) g3 (F.get (.tail _ (.tail _ (.head _)))) hDr (fun y hy => ?_) q6 q7 fun y hy => ?_) (Nat.le_refl _) ?_
        · obtain ⟨_, r, e1, _⟩ := q8 y hy
          obtain ⟨e, e2, e3⟩ := hRR.get e1
          refine ⟨e, e2, ?_⟩
          unfold hereR
          rw [e1]
          exact e3.mono fun a o hm => F.get (inE hm)
        · obtain ⟨z1, r, e1, z2, z3, z4⟩ := q8 y hy
          unfold hereR
          rw [e1]
          exact ⟨z1, z2, z3, z4⟩
        rintro _ tl3 ⟨e, rfl, hE⟩
        walk_at "un"
        with_reducible refine W.perm (σ' := (I, oi) :: (T, oT) :: (Dr, oDr) :: (tl ++ ((tl3 ++ tlE) ++ σ₀))) ?_ (perm_in [_, _, _] _ _ _ _)
        walk_at "ws"
        refine w_setD hDr (by rw [hRR.len]; exact Nat.le_trans (by assumption) (by decide)) (fun o' => .tail _ (.tail _ (.head _))) fun oDr2 hDr2 => ?_
        rw [stored_new (hRR.new (v := .none) q9)] at hDr2
        walk_at "ws"
        refine w_gmI O1 (.inl (.tail _ (.tail _ (.tail _ (List.mem_append_left _ S.mx))))) (.inl (.tail _ (.tail _ (.tail _ (List.mem_append_left _ S.mdx))))) (by k_is) (by k_is) (by k_is) (by rfl) ?_
        walk_at "ws"
        walk_at "un"
        with_reducible refine W.perm (σ' := tl ++ ([(I, oi), (T, oT), (Dr, oDr2)] ++ ((tl3 ++ tlE) ++ σ₀))) ?_ (List.perm_append_comm_assoc _ _ _)
        with_reducible refine W.mutC O1 (fun h _ hσ => done_spec S rfl (by lia) q1 q2 q3 (by lia)) (by decide) ?_
        rintro _ tl4 ⟨rfl, D4, S4⟩
        walk_at "un"
        with_reducible refine W.perm (σ' := (I, oi) :: (T, oT) :: (Dr, oDr2) :: (tl4 ++ ((tl3 ++ tlE) ++ σ₀))) ?_ (List.perm_append_comm_assoc [_, _, _] _ _)
        walk_at "ws"
        exact ⟨_, .refl _, by walk_at "look", by walk_at "look", by walk_at "look", _, D4, tl4, tl3 ++ tlE, _, oDr2, rfl, S4, hDr2, (hRR.mono fun _ _ hm => List.mem_append_right _ hm).snoc (hE.mono fun _ _ hm => List.mem_append_left _ hm), hin⟩
      · rintro ρ σ ⟨c1, c2, c3, st1, D, tl, tlE, kvs, oDr, rfl, S, hDr, hRR, hin⟩
        rw [hal2.len, List.drop_length] at hin
        obtain rfl : st1 = st' := by simpa [innerF] using hin
        walk_at "un"
        with_reducible refine W.sub (σ' := (Dr, oDr) :: (tl ++ (tlE ++ σ₀))) ?_ (.cons _ (.refl _))
        walk_at "ws"
        exact ⟨m, Nat.lt_succ_self _, c1, c2, c3, st1, D, tl, tlE, kvs, oDr, rfl, S, hDr, hRR, hl'⟩
end
section
theorem text_mk (b : List Nat) : takesText (mk b) = mk (replL (replL (replL b [40, 63, 62, 46, 42, 63] [60]) [41] []) [46, 42] [62]) := by
  unfold takesText
  rw [show ("(?>.*?" : Str) = mk [40, 63, 62, 46, 42, 63] from rfl, show ("<" : Str) = mk [60] from rfl, show (")" : Str) = mk [41] from rfl, show ("" : Str) = mk [] from rfl, show (".*" : Str) = mk [46, 42] from rfl, show (">" : Str) = mk [62] from rfl,
    repl_mk b [40, 63, 62, 46, 42, 63] [60] (by decide), repl_mk _ [41] [] (by decide), repl_mk _ [46, 42] [62] (by decide)]
theorem go_mk (n : List Nat) : ∀ (ps : List (List Nat)) (a : Nat), (∀ p ∈ ps, p ≠ []) → takesLoop (mk n) (ps.map mk) a = (goL n ps a).map fun k : Nat => (k : Int)
  | [], a, _ => rfl
  | p :: ps, a, h => by
    rw [List.map_cons]
    unfold takesLoop goL
    rw [find_mk n p a (h p (.head _))]
    cases findL n p a with
    | none => rfl
    | some k =>
      dsimp only
      have h0 : ¬ (k : Int) < 0 := by lia
      rw [if_neg h0]
      exact go_mk n ps (k + p.length) fun q hq => h q (.tail _ hq)
theorem takes_mk (b n : List Nat) (h : ∀ p ∈ (parseL b).1.tail, p ≠ []) : takesF (mk b) (mk n) = takeL (parseL b) n := by
  unfold takesF
  rw [text_mk, show (">" : Str) = mk [62] from rfl, part_mk]
  dsimp only
  rw [show ("<" : Str) = mk [60] from rfl, split_mk _ _ (by decide)]
  unfold takeL
  unfold parseL at h ⊢
  dsimp only at h ⊢
  generalize partL (replL (replL (replL b [40, 63, 62, 46, 42, 63] [60]) [41] []) [46, 42] [62]) 62 = p at *
  cases hs : splitL p.1 60 with
  | nil => rfl
  | cons p0 ps =>
    rw [hs] at h
    rw [List.map_cons]
    dsimp only
    rw [starts_mk, mk_len]
    cases hp : pre p0 n with
    | false => simp
    | true =>
      rw [if_pos rfl, Bool.true_and, go_mk n ps p0.length h]
      cases hg : goL n ps p0.length with
      | none => rfl
      | some k =>
        dsimp only [Option.map_some]
        cases hm : p.2.1 with
        | false =>
          rw [if_neg Bool.false_ne_true, if_neg Bool.false_ne_true, if_pos (by rfl)]
          rw [Bool.eq_iff_iff, beq_iff_eq, Nat.beq_eq, mk_len]
          lia
        | true =>
          rw [if_pos rfl, if_pos rfl, if_neg (by decide)]
          rw [ends_mk]
          congr 1
          rw [Bool.eq_iff_iff, decide_eq_true_eq, Nat.ble_eq, mk_len, mk_len]
          lia
theorem join_mk (ps : List (List Nat)) : Txt.join "" (ps.map mk) = mk ps.flatten := by
  unfold Txt.join
  rw [show ("" : Str) = mk [] from rfl, glued_mk]
  congr 1
  unfold gluedL
  cases ps with
  | nil => rfl
  | cons p l =>
    have h : ∀ (l : List (List Nat)) (acc : List Nat), l.foldl (fun acc p => acc ++ [] ++ p) acc = acc ++ l.flatten := by
      intro l
      induction l with
      | nil => intro acc; simp
      | cons q l ih => intro acc; rw [List.foldl_cons, ih]; simp
    simpa using h l p
theorem sp_mk : ∀ l : List (Option Nat), spanS l = ((spL l).1.map fun c => mk [c], (spL l).2)
  | [] => rfl
  | none :: r => rfl
  | some c :: r => by
    unfold spanS spL
    rw [sp_mk r]
    rfl
theorem flat1 : ∀ l : List Nat, (l.map fun c => [c]).flatten = l
  | [] => rfl
  | c :: r => by rw [List.map_cons, List.flatten_cons, flat1 r]; rfl
theorem singles (l : List Nat) : Txt.join "" (l.map fun c => mk [c]) = mk l := by
  have : (l.map fun c => mk [c]) = (l.map fun c => [c]).map mk := by rw [List.map_map]; rfl
  rw [this, join_mk, flat1]
theorem jB_mk : ∀ (n : Nat) (l : List (Option Nat)), jB n l = (jBL n l).map mk
  | 0, _ => rfl
  | n + 1, [] => rfl
  | n + 1, [none] => rfl
  | n + 1, none :: x :: r => by
    unfold jB jBL
    rw [sp_mk (x :: r)]
    dsimp only
    split
    · rw [singles]; rfl
    · rw [singles, jB_mk n]
      rw [List.map_cons]
      congr 1
      rw [show ("" : Str) = mk [] from rfl, show ("(?>.*?" : Str) = mk [40, 63, 62, 46, 42, 63] from rfl, show (")" : Str) = mk [41] from rfl, app_mk, app_mk, app_mk]
      rfl
  | n + 1, some c :: r => rfl
theorem trans_mk (x : List Nat) : transF (mk x) = mk ([40, 63, 115, 58] ++ bodyL x ++ [41, 92, 90]) := by
  unfold transF joinF jA
  rw [show (mk x).cps.toList = x from rfl, sp_mk, jB_mk]
  have e : ((spL (trF x)).1.map fun c => mk [c]) ++ (jBL (trF x).length (spL (trF x)).2).map mk = (((spL (trF x)).1.map fun c => [c]) ++ jBL (trF x).length (spL (trF x)).2).map mk := by
    rw [List.map_append, List.map_map]; rfl
  dsimp only
  rw [e, join_mk, show ("" : Str) = mk [] from rfl, show ("(?s:" : Str) = mk [40, 63, 115, 58] from rfl, show (")\\Z" : Str) = mk [41, 92, 90] from rfl, app_mk, app_mk, app_mk]
  congr 1
  unfold bodyL
  rw [List.flatten_append, flat1]
  rfl
theorem sl_none_lo (u : Option Int) (n : Nat) : strSliceIndices none u 1 n = strSliceIndices (some 0) u 1 n := by
  have e : max (0 : Int) (min 0 (n : Int)) = 0 := by lia
  simp only [strSliceIndices, show ((1 : Int) > 0) = True from by simp, if_true, show ¬ ((0 : Int) < 0) by decide, if_false, e]
theorem sl_none_hi (l : Option Int) (n : Nat) : strSliceIndices l none 1 n = strSliceIndices l (some (n : Int)) 1 n := by
  have e : max (0 : Int) (min (n : Int) (n : Int)) = n := by simp
  simp only [strSliceIndices, show ((1 : Int) > 0) = True from by simp, if_true, show ¬ ((n : Int) < 0) by lia, if_false, e]
theorem slice_mk (xs : List Nat) {a b : Nat} (hab : a ≤ b) (hb : b ≤ xs.length) : sliceT (mk xs) (some (a : Int)) (some (b : Int)) = mk ((xs.drop a).take (b - a)) := by
  unfold sliceT
  have e : (strSliceIndices (some (a : Int)) (some (b : Int)) 1 (mk xs).length).filterMap ((mk xs).cps[·]?) = (xs.drop a).take (b - a) := StrLaws.sliced_plain (mk xs) hab hb
  split
  · rename_i h
    rw [StrLaws.strSliceIndices_plain hab (by rw [mk_len]; exact hb), List.length_map, List.length_range, mk_len] at h
    have h0 : a = 0 := by grind
    have h1 : b = xs.length := by lia
    subst h0
    rw [h1]
    simp
  · rw [e]
theorem slice_lo (xs : List Nat) {b : Nat} (hb : b ≤ xs.length) : sliceT (mk xs) none (some (b : Int)) = mk (xs.take b) := by
  have : sliceT (mk xs) none (some (b : Int)) = sliceT (mk xs) (some ((0 : Nat) : Int)) (some (b : Int)) := by
    unfold sliceT
    rw [sl_none_lo]
    rfl
  rw [this, slice_mk xs (Nat.zero_le _) hb]
  simp
theorem slice_neg (xs : List Nat) {c : Nat} (hc : c ≤ xs.length) (h0 : 0 < c) : sliceT (mk xs) (some (-(c : Int))) none = mk (xs.drop (xs.length - c)) := by
  have : sliceT (mk xs) (some (-(c : Int))) none = sliceT (mk xs) (some ((xs.length - c : Nat) : Int)) (some (xs.length : Int)) := by
    unfold sliceT
    rw [sl_none_hi, StrLaws.sliceIdx_neg_lo _ _ (by lia) (by rw [mk_len]; lia), mk_len, show -(c : Int) + (xs.length : Int) = ((xs.length - c : Nat) : Int) by grind]
  rw [this, slice_mk xs (by simp) (Nat.le_refl _), List.take_of_length_le (by simp)]
theorem slice_mid (xs : List Nat) {a c : Nat} (hc : a + c ≤ xs.length) (h0 : 0 < c) : sliceT (mk xs) (some (a : Int)) (some (-(c : Int))) = mk ((xs.drop a).take (xs.length - c - a)) := by
  have : sliceT (mk xs) (some (a : Int)) (some (-(c : Int))) = sliceT (mk xs) (some (a : Int)) (some ((xs.length - c : Nat) : Int)) := by
    unfold sliceT
    rw [StrLaws.sliceIdx_neg_hi _ _ (by lia) (by rw [mk_len]; lia), mk_len, show -(c : Int) + (xs.length : Int) = ((xs.length - c : Nat) : Int) by lia]
  rw [this, slice_mk xs (by lia) (by simp)]
theorem body_mk (x : List Nat) : bodyF (mk x) = mk (bodyL x) := by
  unfold bodyF
  rw [trans_mk]
  have l : ([40, 63, 115, 58] ++ bodyL x ++ [41, 92, 90]).length = 4 + (bodyL x).length + 3 := by simp; lia
  have e1 : sliceT (mk ([40, 63, 115, 58] ++ bodyL x ++ [41, 92, 90])) none (some 4) = mk [40, 63, 115, 58] := by
    have := slice_lo ([40, 63, 115, 58] ++ bodyL x ++ [41, 92, 90]) (b := 4) (by rw [l]; lia)
    refine this.trans ?_
    rfl
  have e2 : sliceT (mk ([40, 63, 115, 58] ++ bodyL x ++ [41, 92, 90])) (some (-3)) none = mk [41, 92, 90] := by
    have := slice_neg ([40, 63, 115, 58] ++ bodyL x ++ [41, 92, 90]) (c := 3) (by rw [l]; exact Nat.le_add_left _ _) (by decide)
    refine this.trans ?_
    rw [l, show 4 + (bodyL x).length + 3 - 3 = ([40, 63, 115, 58] ++ bodyL x).length by simp; lia, List.drop_left]
  have e3 : sliceT (mk ([40, 63, 115, 58] ++ bodyL x ++ [41, 92, 90])) (some 4) (some (-3)) = mk (bodyL x) := by
    have := slice_mid ([40, 63, 115, 58] ++ bodyL x ++ [41, 92, 90]) (a := 4) (c := 3) (by rw [l]; lia) (by decide)
    refine this.trans ?_
    rw [l, show 4 + (bodyL x).length + 3 - 3 - 4 = (bodyL x).length by simp]
    simp
  rw [e1, e2, e3, if_pos (by decide)]
end
section
theorem wrap_mk (x : List Nat) : wrapS (mk x) = mk (wrapL x) := by
  unfold wrapS wrapL
  rw [show Str.empty = mk [] from rfl, show ("(?>.*?" : Str) = mk [40, 63, 62, 46, 42, 63] from rfl, show (")" : Str) = mk [41] from rfl, app_mk, app_mk, app_mk]
  rfl
theorem getD_mk (ss : List (List Nat)) (i : Nat) : (ss.map mk).getD i ⟨#[]⟩ = mk (ss.getD i []) := by
  simp only [List.getD, List.getElem?_map]
  cases ss[i]? <;> rfl
theorem set_mk (ss : List (List Nat)) (i : Nat) (x : List Nat) : (ss.map mk).set i (mk x) = (ss.set i x).map mk := by
  rw [List.map_set]
theorem tpLoop_mk : ∀ (k i : Nat) (ss : List (List Nat)), tpLoop k i (ss.map mk) = (tpLoopL k i ss).map mk
  | 0, _, _ => rfl
  | k + 1, i, ss => by
    unfold tpLoop tpLoopL
    rw [getD_mk, wrap_mk, set_mk, tpLoop_mk k]
theorem tp_mk (x : List Nat) : tpF (mk x) = mk (tpL x) := by
  unfold tpF tpL
  dsimp only
  rw [show ("*" : Str) = mk [42] from rfl, split_mk _ _ (by decide), List.length_map, tpLoop_mk, List.length_map, getD_mk]
  have e : ∀ y : List Nat, lastS (mk y) = mk ([46, 42] ++ y) := fun y => by
    unfold lastS
    rw [show Str.empty = mk [] from rfl, show (".*" : Str) = mk [46, 42] from rfl, app_mk, app_mk]
    rfl
  rw [e, set_mk, join_mk]
theorem patStep_mk (ags : List (List Nat)) (k : Nat) (acc : List Nat) : patStep (ags.map mk) k (mk acc) = mk (patStepL ags k acc) := by
  unfold patStep patStepL
  rw [getD_mk, getD_mk, mk_len, mk_len, show ("*" : Str) = mk [42] from rfl, app_mk, app_mk, app_mk]
  split
  · split <;> rfl
  · rfl
theorem patLoop_mk (ags : List (List Nat)) : ∀ (n k : Nat) (acc : List Nat), patLoop (ags.map mk) n k (mk acc) = mk (patLoopL ags n k acc)
  | 0, _, _ => rfl
  | n + 1, k, acc => by
    unfold patLoop patLoopL
    rw [patStep_mk, patLoop_mk ags n]
theorem pat_mk (ags : List (List Nat)) : patF (ags.map mk) = mk (patL ags) := by
  unfold patF patL
  rw [List.length_map, getD_mk, patLoop_mk]
end
section
/-! the run under a renaming -/
structure Hm {α β : Type} [BEq α] [BEq β] [Append α] [Append β] (lenA : α → Nat) (lenB : β → Nat) (φ : α → β) : Prop where
  inj : ∀ a b, φ a = φ b ↔ a = b
  app : ∀ a b, φ (a ++ b) = φ a ++ φ b
  beq : ∀ a b, (φ a == φ b) = (a == b)
  len : ∀ a, lenB (φ a) = lenA a
noncomputable def Nd.map {α β : Type} (φ : α → β) (q : Nd α) : Nd β := ⟨φ q.nm, q.np, q.sc.map φ⟩
noncomputable def rmap {α β : Type} (φ : α → β) (r : List α × List α) : List β × List β := (r.1.map φ, r.2.map φ)
noncomputable def rsmap {α β : Type} (φ : α → β) (recs : List (α × List α × List α)) : List (β × List β × List β) := recs.map fun p => (φ p.1, rmap φ p.2)
noncomputable def RS.map {α β : Type} (φ : α → β) (st : RS α) : RS β := ⟨st.ns.map (Nd.map φ), st.ready.map φ, st.passed, st.fin, rsmap φ st.recs⟩
section
variable {α β : Type} [DecidableEq α] [DecidableEq β] [BEq α] [BEq β] [Append α] [Append β] {lenA : α → Nat} {lenB : β → Nat} {φ : α → β} (H : Hm lenA lenB φ)
include H
theorem Hm.dec (a b : α) : decide (φ a = φ b) = decide (a = b) := by
  have := H.inj a b
  by_cases h : a = b
  · rw [decide_eq_true h, decide_eq_true (this.mpr h)]
  · rw [decide_eq_false h, decide_eq_false fun e => h (this.mp e)]
theorem ndHas_map (ns : List (Nd α)) (k : α) : ndHas (ns.map (Nd.map φ)) (φ k) = ndHas ns k := by
  unfold ndHas
  rw [List.any_map]
  congr 1
  funext q
  exact H.dec q.nm k
theorem ndEnsure_map (ns : List (Nd α)) (k : α) : ndEnsure (ns.map (Nd.map φ)) (φ k) = (ndEnsure ns k).map (Nd.map φ) := by
  unfold ndEnsure
  rw [ndHas_map H]
  split
  · rfl
  · rw [List.map_append]; rfl
theorem ndMod_map (ns : List (Nd α)) (k : α) (f : Nd α → Nd α) (g : Nd β → Nd β) (hf : ∀ q, g (Nd.map φ q) = Nd.map φ (f q)) : ndMod (ns.map (Nd.map φ)) (φ k) g = (ndMod ns k f).map (Nd.map φ) := by
  unfold ndMod
  rw [List.map_map, List.map_map]
  refine List.map_congr_left fun q _ => ?_
  show (if φ q.nm = φ k then g (Nd.map φ q) else Nd.map φ q) = Nd.map φ (if q.nm = k then f q else q)
  by_cases h : q.nm = k
  · rw [if_pos h, if_pos ((H.inj _ _).mpr h), hf]
  · rw [if_neg h, if_neg fun e => h ((H.inj _ _).mp e)]
theorem ndGet_map (ns : List (Nd α)) (k : α) : ndGet (ns.map (Nd.map φ)) (φ k) = (ndGet ns k).map (Nd.map φ) := by
  unfold ndGet
  rw [List.find?_map]
  congr 1
  congr 1
  funext q
  exact H.dec q.nm k
theorem addStep_map (k : α) (ns : List (Nd α)) (p : α) : addStep (φ k) (ns.map (Nd.map φ)) (φ p) = (addStep k ns p).map (Nd.map φ) := by
  unfold addStep
  rw [ndEnsure_map H]
  refine ndMod_map H _ _ _ _ fun q => ?_
  show (⟨φ q.nm, q.np, q.sc.map φ ++ [φ k]⟩ : Nd β) = ⟨φ q.nm, q.np, (q.sc ++ [k]).map φ⟩
  rw [List.map_append]; rfl
theorem addF_map (ns : List (Nd α)) (k : α) (ps : List α) : addF (ns.map (Nd.map φ)) (φ k) (ps.map φ) = (addF ns k ps).map (Nd.map φ) := by
  unfold addF
  rw [List.length_map, ndEnsure_map H, ndMod_map H _ _ (fun q => { q with np := q.np + ps.length }) (fun q => { q with np := q.np + ps.length }) fun q => rfl]
  generalize ndMod (ndEnsure ns k) k (fun q => { q with np := q.np + ps.length }) = ns
  induction ps generalizing ns with
  | nil => rfl
  | cons p ps ih =>
    rw [List.map_cons, List.foldl_cons, List.foldl_cons, addStep_map H, ih]
theorem decStep_map (s : List (Nd α) × List α) (k : α) : decStep (s.1.map (Nd.map φ), s.2.map φ) (φ k) = ((decStep s k).1.map (Nd.map φ), (decStep s k).2.map φ) := by
  unfold decStep
  rw [ndMod_map H _ _ (fun q => { q with np := q.np - 1 }) (fun q => { q with np := q.np - 1 }) fun q => rfl, ndGet_map H, Option.any_map]
  show ((ndMod s.1 k fun q => { q with np := q.np - 1 }).map (Nd.map φ), if (ndGet s.1 k).any (fun q => q.np - 1 == 0) = true then s.2.map φ ++ [φ k] else s.2.map φ) = _
  split
  · rw [List.map_append]; rfl
  · rfl
theorem doneF_map (ns : List (Nd α)) (ready : List α) (k : α) (sc : List α) : doneF (ns.map (Nd.map φ)) (ready.map φ) (φ k) (sc.map φ) = ((doneF ns ready k sc).1.map (Nd.map φ), (doneF ns ready k sc).2.map φ) := by
  unfold doneF
  rw [ndMod_map H _ _ (fun q => { q with np := -2 }) (fun q => { q with np := -2 }) fun q => rfl]
  generalize ndMod ns k (fun q => { q with np := -2 }) = ns
  induction sc generalizing ns ready with
  | nil => rfl
  | cons p ps ih =>
    rw [List.map_cons, List.foldl_cons, List.foldl_cons]
    rw [decStep_map H (ns, ready) p]
    exact ih (decStep (ns, ready) p).2 (decStep (ns, ready) p).1
theorem outF_map (ns : List (Nd α)) (l : List α) : outF (ns.map (Nd.map φ)) (l.map φ) = (outF ns l).map (Nd.map φ) := by
  unfold outF
  induction l generalizing ns with
  | nil => rfl
  | cons p ps ih =>
    rw [List.map_cons, List.foldl_cons, List.foldl_cons, ndMod_map H _ _ (fun q => { q with np := -1 }) (fun q => { q with np := -1 }) fun q => rfl, ih]
omit H [DecidableEq α] [DecidableEq β] [BEq α] [BEq β] [Append α] [Append β] in
theorem startF_map (ns : List (Nd α)) : startF (ns.map (Nd.map φ)) = (startF ns).map φ := by
  unfold startF
  rw [List.filter_map, List.map_map, List.map_map]
  rfl
theorem any_names (names : List α) (k : α) : ((names.map φ).any fun x => decide (x = φ k)) = names.any fun x => decide (x = k) := by
  rw [List.any_map]
  congr 1
  funext x
  exact H.dec x k
theorem stepF_map (name one : α) (r : List α × List α) : stepF (φ name) (φ one) (rmap φ r) = rmap φ (stepF name one r) := by
  unfold stepF rmap
  simp only [List.map_append, List.map_cons, List.map_nil, List.map_map, H.app]
  congr 1
  refine List.map_congr_left fun x _ => ?_
  exact (H.app x name).symm
theorem mergeF_map (a b : List α × List α) : mergeF (rmap φ a) (rmap φ b) = rmap φ (mergeF a b) := by
  unfold mergeF rmap
  simp only [List.map_append, List.filter_map]
  congr 1
  congr 1
  refine List.filter_congr fun k _ => ?_
  show ((b.1.map φ).any fun x => x == φ k) = _
  rw [List.any_map]
  congr 1
  funext x
  exact H.beq x k
theorem recF_map (name : α) (ws : List α) (R : α → List α × List α) (R' : β → List β × List β) (hR : ∀ x ∈ ws, R' (φ x) = rmap φ (R x)) : recF (φ name) (ws.map φ) R' = rmap φ (recF name ws R) := by
  cases ws with
  | nil => rfl
  | cons x xs =>
    unfold recF
    rw [List.map_cons]
    dsimp only
    have e : ((xs.map φ).map fun one => stepF (φ name) one (R' one)) = (xs.map fun one => stepF name one (R one)).map (rmap φ) := by
      rw [List.map_map, List.map_map]
      refine List.map_congr_left fun y hy => ?_
      show stepF (φ name) (φ y) (R' (φ y)) = rmap φ (stepF name y (R y))
      rw [hR y (.tail _ hy), stepF_map H]
    rw [e, hR x (.head _), stepF_map H]
    have fl : ∀ (l : List (List α × List α)) (a : List α × List α), (l.map (rmap φ)).foldl mergeF (rmap φ a) = rmap φ (l.foldl mergeF a) := by
      intro l
      induction l with
      | nil => intro a; rfl
      | cons b l ih => intro a; rw [List.map_cons, List.foldl_cons, List.foldl_cons, mergeF_map H, ih]
    rw [fl]
    unfold rmap
    rw [List.map_append]
    rfl
theorem lookR_map (recs : List (α × List α × List α)) (k : α) : lookR (rsmap φ recs) (φ k) = (lookR recs k).map (rmap φ) := by
  unfold lookR rsmap
  rw [List.find?_map, Option.map_map, Option.map_map]
  have e : ((fun p : β × List β × List β => decide (p.1 = φ k)) ∘ fun p : α × List α × List α => (φ p.1, rmap φ p.2)) = fun p => decide (p.1 = k) := by
    funext p
    exact H.dec p.1 k
  rw [e]
  rfl
theorem hereR_map (recs : List (α × List α × List α)) (k : α) : hereR (rsmap φ recs) (φ k) = rmap φ (hereR recs k) := by
  unfold hereR
  rw [lookR_map H]
  cases lookR recs k <;> rfl
theorem smallR_map (r : List α × List α) : smallR lenB (rmap φ r) = smallR lenA r := by
  unfold smallR rmap
  simp only [List.length_map, List.all_map]
  congr 2
  funext l
  show decide (lenB (φ l) ≤ 100) = _
  rw [H.len]
variable {names : List α} {f : α → List α} {g : β → List β} (hf : ∀ a ∈ names, g (φ a) = (f a).map φ)
include hf
theorem fitA_map (ns : List (Nd α)) (k : α) : fitA (names.map φ) g (ns.map (Nd.map φ)) (φ k) = fitA names f ns k := by
  unfold fitA
  rw [any_names H]
  cases hk : names.any fun x => decide (x = k) with
  | false => rfl
  | true =>
    obtain ⟨x, hx, e⟩ := List.any_eq_true.mp hk
    have : x = k := by simpa using e
    subst this
    rw [hf x hx]
    simp only [List.length_map, List.all_map]
    congr 1
    congr 1
    funext q
    show decide ((q.sc.map φ).length ≤ 100) = _
    rw [List.length_map]
theorem addsF_map : ∀ (l : List α) (ns : List (Nd α)), addsF (names.map φ) g (l.map φ) (ns.map (Nd.map φ)) = (addsF names f l ns).map (List.map (Nd.map φ))
  | [], _ => rfl
  | k :: l, ns => by
    rw [List.map_cons]
    unfold addsF
    rw [fitA_map H hf]
    cases hk : fitA names f ns k with
    | false => rfl
    | true =>
      rw [if_pos rfl, if_pos rfl, hf k (fitA_parts hk).1, addF_map H]
      exact addsF_map l _
omit hf in
theorem prepOK_map {rk : α → Nat} {rk' : β → Nat} (hrk : ∀ a, rk' (φ a) = rk a) (ns : List (Nd α)) : prepOK rk' (ns.map (Nd.map φ)) = prepOK rk ns := by
  unfold prepOK
  rw [List.length_map, List.all_map]
  congr 1
  congr 1
  funext q
  show (decide ((q.sc.map φ).length ≤ 1000) && (q.sc.map φ).all fun j => ndHas (ns.map (Nd.map φ)) j && decide (rk' (φ q.nm) < rk' j)) = _
  rw [List.length_map, List.all_map]
  congr 1
  congr 1
  funext j
  show (ndHas (ns.map (Nd.map φ)) (φ j) && decide (rk' (φ q.nm) < rk' (φ j))) = _
  rw [ndHas_map H, hrk, hrk]
theorem nodeStep_map (st : RS α) (k : α) : nodeStep lenB (names.map φ) g (RS.map φ st) (φ k) = (nodeStep lenA names f st k).map (RS.map φ) := by
  unfold nodeStep
  show (match ndGet (st.ns.map (Nd.map φ)) (φ k) with | none => none | some q => _) = _
  rw [ndGet_map H]
  cases hq : ndGet st.ns k with
  | none => rfl
  | some q =>
    dsimp only [Option.map_some]
    have ef : fitN lenB (names.map φ) g (RS.map φ st) (φ k) (Nd.map φ q) = fitN lenA names f st k q := by
      unfold fitN
      rw [any_names H]
      cases hk : names.any fun x => decide (x = k) with
      | false => simp
      | true =>
        obtain ⟨x, hx, e⟩ := List.any_eq_true.mp hk
        have : x = k := by simpa using e
        subst this
        have e1 : (Nd.map φ q).sc.all (ndHas (RS.map φ st).ns) = q.sc.all (ndHas st.ns) := by
          show (q.sc.map φ).all (ndHas (st.ns.map (Nd.map φ))) = _
          rw [List.all_map]
          congr 1
          funext j
          exact ndHas_map H st.ns j
        have e2 : ((RS.map φ st).ready.length + (Nd.map φ q).sc.length) = st.ready.length + q.sc.length := by
          show (st.ready.map φ).length + (q.sc.map φ).length = _
          rw [List.length_map, List.length_map]
        have e3 : ((g (φ x)).all fun x => decide (lenB x ≤ 100) && (lookR (RS.map φ st).recs x).any (smallR lenB)) = (f x).all fun x => decide (lenA x ≤ 100) && (lookR st.recs x).any (smallR lenA) := by
          rw [hf x hx, List.all_map]
          congr 1
          funext y
          show (decide (lenB (φ y) ≤ 100) && (lookR (rsmap φ st.recs) (φ y)).any (smallR lenB)) = _
          rw [H.len, lookR_map H, Option.any_map]
          congr 2
          funext r
          exact smallR_map H r
        have e4 : (lookR (RS.map φ st).recs (φ x)).isNone = (lookR st.recs x).isNone := by
          show (lookR (rsmap φ st.recs) (φ x)).isNone = _
          rw [lookR_map H]
          cases lookR st.recs x <;> rfl
        have e5 : (RS.map φ st).recs.length = st.recs.length := List.length_map ..
        rw [e1, e2, e3, e4, e5, hf x hx, H.len, List.length_map]
        rfl
    rw [ef]
    cases hfit : fitN lenA names f st k q with
    | false => rfl
    | true =>
      rw [if_pos rfl, if_pos rfl]
      have hk : k ∈ names := by
        unfold fitN at hfit
        simp only [Bool.and_eq_true, decide_eq_true_eq, List.any_eq_true] at hfit
        obtain ⟨⟨⟨⟨⟨⟨_, x, hx, e⟩, _⟩, _⟩, _⟩, _⟩, _⟩ := hfit
        exact e ▸ hx
      have d : doneF (RS.map φ st).ns (RS.map φ st).ready (φ k) (Nd.map φ q).sc = ((doneF st.ns st.ready k q.sc).1.map (Nd.map φ), (doneF st.ns st.ready k q.sc).2.map φ) := doneF_map H st.ns st.ready k q.sc
      rw [d]
      dsimp only [Option.map_some]
      unfold RS.map
      congr 2
      show rsmap φ st.recs ++ [(φ k, recF (φ k) (g (φ k)) (hereR (rsmap φ st.recs)))] = rsmap φ (st.recs ++ [(k, recF k (f k) (hereR st.recs))])
      rw [hf k hk, recF_map H k (f k) (hereR st.recs) (hereR (rsmap φ st.recs)) fun x _ => hereR_map H st.recs x]
      unfold rsmap
      rw [List.map_append]
      rfl
theorem innerF_map : ∀ (l : List α) (st : RS α), innerF lenB (names.map φ) g (l.map φ) (RS.map φ st) = (innerF lenA names f l st).map (RS.map φ)
  | [], _ => rfl
  | k :: l, st => by
    rw [List.map_cons]
    unfold innerF
    rw [nodeStep_map H hf]
    cases nodeStep lenA names f st k with
    | none => rfl
    | some st' => exact innerF_map l st'
theorem loopF_map : ∀ (n : Nat) (st : RS α), loopF lenB (names.map φ) g n (RS.map φ st) = (loopF lenA names f n st).map (rsmap φ)
  | 0, _ => rfl
  | n + 1, st => by
    unfold loopF
    have e1 : (decide ((RS.map φ st).ready.length ≤ 900) && (RS.map φ st).ready.all (ndHas (RS.map φ st).ns)) = (decide (st.ready.length ≤ 900) && st.ready.all (ndHas st.ns)) := by
      show (decide ((st.ready.map φ).length ≤ 900) && (st.ready.map φ).all (ndHas (st.ns.map (Nd.map φ)))) = _
      rw [List.length_map, List.all_map]
      congr 2
      funext j
      exact ndHas_map H st.ns j
    have e2 : (decide ((RS.map φ st).fin < (RS.map φ st).passed) || !(RS.map φ st).ready.isEmpty) = (decide (st.fin < st.passed) || !st.ready.isEmpty) := by
      show (decide (st.fin < st.passed) || !(st.ready.map φ).isEmpty) = _
      rw [List.isEmpty_map]
    rw [e1, e2]
    split
    · split
      · have e3 : (⟨outF (RS.map φ st).ns (RS.map φ st).ready, [], (RS.map φ st).passed + (RS.map φ st).ready.length, (RS.map φ st).fin, (RS.map φ st).recs⟩ : RS β) = RS.map φ ⟨outF st.ns st.ready, [], st.passed + st.ready.length, st.fin, st.recs⟩ := by
          show (⟨outF (st.ns.map (Nd.map φ)) (st.ready.map φ), [], st.passed + (st.ready.map φ).length, st.fin, rsmap φ st.recs⟩ : RS β) = ⟨(outF st.ns st.ready).map (Nd.map φ), [], st.passed + st.ready.length, st.fin, rsmap φ st.recs⟩
          rw [outF_map H, List.length_map]
        rw [e3]
        have e4 := innerF_map H hf st.ready ⟨outF st.ns st.ready, [], st.passed + st.ready.length, st.fin, st.recs⟩
        rw [show (RS.map φ st).ready = st.ready.map φ from rfl, e4]
        cases innerF lenA names f st.ready ⟨outF st.ns st.ready, [], st.passed + st.ready.length, st.fin, st.recs⟩ with
        | none => rfl
        | some st' => exact loopF_map n st'
      · rfl
    · rfl
theorem runF_map {rk : α → Nat} {rk' : β → Nat} (hrk : ∀ a, rk' (φ a) = rk a) : runF lenB rk' (names.map φ) g = (runF lenA rk names f).map (rsmap φ) := by
  unfold runF
  have e := addsF_map H hf names.reverse []
  rw [List.map_reverse] at e
  rw [show ([] : List (Nd β)) = ([] : List (Nd α)).map (Nd.map φ) from rfl, e]
  cases addsF names f names.reverse [] with
  | none => rfl
  | some ns =>
    dsimp only [Option.map_some]
    rw [prepOK_map H hrk]
    split
    · have e2 := loopF_map H hf 10 ⟨ns, startF ns, 0, 0, []⟩
      have e3 : RS.map φ ⟨ns, startF ns, 0, 0, []⟩ = ⟨ns.map (Nd.map φ), startF (ns.map (Nd.map φ)), 0, 0, []⟩ := by
        rw [startF_map]; rfl
      rw [e3] at e2
      exact e2
    · rfl
end
end
section
/-! the text functions under a change of letters -/
structure Gm (g : Nat → Nat) : Prop where
  inj : ∀ a b, g a = g b ↔ a = b
  fix : ∀ c, c < 97 → g c = c
section
variable {g : Nat → Nat} (H : Gm g)
include H
theorem Gm.beq (a b : Nat) : Nat.beq (g a) (g b) = Nat.beq a b := by
  rw [Bool.eq_iff_iff, Nat.beq_eq, Nat.beq_eq]
  exact H.inj a b
theorem pre_map : ∀ (ys xs : List Nat), pre (ys.map g) (xs.map g) = pre ys xs
  | [], xs => by simp [pre]
  | y :: ys, [] => by simp [pre]
  | y :: ys, x :: xs => by
    show (Nat.beq (g y) (g x) && pre (ys.map g) (xs.map g)) = (Nat.beq y x && pre ys xs)
    rw [H.beq, pre_map ys xs]
theorem occS_map (ys : List Nat) (n limit : Nat) : ∀ (xs : List Nat) (i c free : Nat), occS (ys.map g) n limit (xs.map g) i c free = occS ys n limit xs i c free
  | [], _, _, _ => rfl
  | x :: xs, i, c, free => by
    have h1 := pre_map H ys (x :: xs)
    rw [List.map_cons] at h1
    rw [List.map_cons]
    unfold occS
    rw [h1, occS_map ys n limit xs, occS_map ys n limit xs]
omit H in
theorem partsL_map (xs cuts : List Nat) (n : Nat) : partsL (xs.map g) cuts n = (partsL xs cuts n).map (List.map g) := by
  unfold partsL
  rw [List.map_map, List.length_map]
  refine List.map_congr_left fun p _ => ?_
  simp
omit H in
theorem gluedL_map (z : List Nat) (ps : List (List Nat)) : gluedL (z.map g) (ps.map (List.map g)) = (gluedL z ps).map g := by
  have h : ∀ (l : List (List Nat)) (acc : List Nat), (l.map (List.map g)).foldl (fun acc p => acc ++ z.map g ++ p) (acc.map g) = (l.foldl (fun acc p => acc ++ z ++ p) acc).map g := by
    intro l
    induction l with
    | nil => intro acc; rfl
    | cons p l ih =>
      intro acc
      rw [List.map_cons, List.foldl_cons, List.foldl_cons, ← ih]
      simp
  unfold gluedL
  cases ps with
  | nil => rfl
  | cons p l => simpa using h l p
theorem replL_map (xs ys zs : List Nat) : replL (xs.map g) (ys.map g) (zs.map g) = (replL xs ys zs).map g := by
  unfold replL
  rw [List.length_map, List.length_map, occS_map H]
  cases occS ys ys.length (xs.length + 1) xs 0 0 0 with
  | nil => rfl
  | cons i r =>
    dsimp only
    rw [partsL_map, gluedL_map]
theorem fix_map (l : List Nat) (h : l.all (fun c => Nat.blt c 97) = true) : l.map g = l := by
  have : ∀ c ∈ l, g c = c := fun c hc => H.fix c (by
    have := List.all_eq_true.mp h c hc
    exact Nat.le_of_ble_eq_true this)
  rw [List.map_congr_left this, List.map_id']
theorem splitL_map (xs : List Nat) (c : Nat) (hc : c < 97) : splitL (xs.map g) c = (splitL xs c).map (List.map g) := by
  unfold splitL
  have e : [c] = [c].map g := by rw [List.map_cons, H.fix c hc]; rfl
  have : occS [c] 1 ((xs.map g).length + 1) (xs.map g) 0 0 0 = occS [c] 1 (xs.length + 1) xs 0 0 0 := by
    rw [List.length_map]
    conv => lhs; rw [e]
    exact occS_map H [c] 1 _ xs 0 0 0
  rw [this]
  cases occS [c] 1 (xs.length + 1) xs 0 0 0 with
  | nil => rfl
  | cons i r => exact partsL_map xs (i :: r) 1
theorem partL_map (xs : List Nat) (c : Nat) (hc : c < 97) : partL (xs.map g) c = ((partL xs c).1.map g, (partL xs c).2.1, (partL xs c).2.2.map g) := by
  unfold partL
  have e : [c] = [c].map g := by rw [List.map_cons, H.fix c hc]; rfl
  have : occS [c] 1 1 (xs.map g) 0 0 0 = occS [c] 1 1 xs 0 0 0 := by
    conv => lhs; rw [e]
    exact occS_map H [c] 1 1 xs 0 0 0
  rw [this]
  cases occS [c] 1 1 xs 0 0 0 with
  | nil => rfl
  | cons i r => simp
theorem findL_map (xs ys : List Nat) (i : Nat) : findL (xs.map g) (ys.map g) i = findL xs ys i := by
  unfold findL
  rw [List.length_map, ← List.map_drop, occS_map H]
theorem endsL_map (xs ys : List Nat) : endsL (xs.map g) (ys.map g) = endsL xs ys := by
  unfold endsL
  rw [List.length_map, List.length_map, ← List.map_drop, pre_map H]
theorem goL_map (n : List Nat) : ∀ (ps : List (List Nat)) (a : Nat), goL (n.map g) (ps.map (List.map g)) a = goL n ps a
  | [], _ => rfl
  | p :: ps, a => by
    rw [List.map_cons]
    unfold goL
    rw [findL_map H, List.length_map]
    cases findL n p a with
    | none => rfl
    | some k => exact goL_map n ps _
noncomputable def pmap (g : Nat → Nat) (pp : List (List Nat) × Bool × List Nat) : List (List Nat) × Bool × List Nat := (pp.1.map (List.map g), pp.2.1, pp.2.2.map g)
theorem takeL_map (pp : List (List Nat) × Bool × List Nat) (n : List Nat) : takeL (pmap g pp) (n.map g) = takeL pp n := by
  unfold takeL pmap
  cases pp.1 with
  | nil => rfl
  | cons p0 ps =>
    rw [List.map_cons]
    dsimp only
    rw [pre_map H, List.length_map, goL_map H, endsL_map H, List.length_map, List.length_map]
theorem parseL_map (b : List Nat) : parseL (b.map g) = pmap g (parseL b) := by
  unfold parseL pmap
  have h1 : ([40, 63, 62, 46, 42, 63] : List Nat) = [40, 63, 62, 46, 42, 63].map g := (fix_map H _ (by decide)).symm
  have h2 : ([60] : List Nat) = [60].map g := (fix_map H _ (by decide)).symm
  have h3 : ([41] : List Nat) = [41].map g := (fix_map H _ (by decide)).symm
  have h4 : ([] : List Nat) = ([] : List Nat).map g := rfl
  have h5 : ([46, 42] : List Nat) = [46, 42].map g := (fix_map H _ (by decide)).symm
  have h6 : ([62] : List Nat) = [62].map g := (fix_map H _ (by decide)).symm
  have e1 : replL (b.map g) [40, 63, 62, 46, 42, 63] [60] = (replL b [40, 63, 62, 46, 42, 63] [60]).map g := by
    conv => lhs; rw [h1, h2]
    exact replL_map H b _ _
  have e2 : ∀ x : List Nat, replL (x.map g) [41] [] = (replL x [41] []).map g := fun x => by
    conv => lhs; rw [h3, h4]
    exact replL_map H x _ _
  have e3 : ∀ x : List Nat, replL (x.map g) [46, 42] [62] = (replL x [46, 42] [62]).map g := fun x => by
    conv => lhs; rw [h5, h6]
    exact replL_map H x _ _
  rw [e1, e2, e3, partL_map H _ 62 (by decide)]
  dsimp only
  rw [splitL_map H _ 60 (by decide)]
noncomputable def omap (g : Nat → Nat) (l : List (Option Nat)) : List (Option Nat) := l.map (Option.map g)
theorem trStep_map (acc : List (Option Nat)) (c : Nat) : trStep (omap g acc) (g c) = omap g (trStep acc c) := by
  have hc : g c = 42 ↔ c = 42 := by
    have := H.inj c 42
    rw [H.fix 42 (by decide)] at this
    exact this
  have hl : (omap g acc).getLast? = some none ↔ acc.getLast? = some none := by
    unfold omap
    rw [List.getLast?_map]
    cases acc.getLast? with
    | none => simp
    | some o => cases o <;> simp
  unfold trStep
  by_cases h1 : c = 42
  · rw [if_pos (hc.mpr h1), if_pos h1]
    by_cases h2 : acc.getLast? = some none
    · rw [if_pos (hl.mpr h2), if_pos h2]
    · rw [if_neg fun e => h2 (hl.mp e), if_neg h2]
      unfold omap
      rw [List.map_append]; rfl
  · rw [if_neg fun e => h1 (hc.mp e), if_neg h1]
    unfold omap
    rw [List.map_append]; rfl
theorem trF_map (x : List Nat) : trF (x.map g) = omap g (trF x) := by
  have : ∀ (l : List Nat) (acc : List (Option Nat)), (l.map g).foldl trStep (omap g acc) = omap g (l.foldl trStep acc) := by
    intro l
    induction l with
    | nil => intro acc; rfl
    | cons c l ih => intro acc; rw [List.map_cons, List.foldl_cons, List.foldl_cons, trStep_map H, ih]
  exact this x []
omit H in
theorem spL_map : ∀ l : List (Option Nat), spL (omap g l) = ((spL l).1.map g, omap g (spL l).2)
  | [] => rfl
  | none :: r => rfl
  | some c :: r => by
    show (g c :: (spL (omap g r)).1, (spL (omap g r)).2) = _
    rw [spL_map r]
    rfl
theorem jBL_map : ∀ (n : Nat) (l : List (Option Nat)), jBL n (omap g l) = (jBL n l).map (List.map g)
  | 0, _ => rfl
  | n + 1, [] => rfl
  | n + 1, [none] => by
    show [[46, 42]] = [[46, 42].map g]
    rw [fix_map H _ (by decide)]
  | n + 1, none :: x :: r => by
    have e : jBL (n + 1) (omap g (none :: x :: r)) = if (spL (omap g (x :: r))).2 = [] then [[46, 42], (spL (omap g (x :: r))).1] else ([40, 63, 62, 46, 42, 63] ++ (spL (omap g (x :: r))).1 ++ [41]) :: jBL n (spL (omap g (x :: r))).2 := rfl
    have e2 : jBL (n + 1) (none :: x :: r) = if (spL (x :: r)).2 = [] then [[46, 42], (spL (x :: r)).1] else ([40, 63, 62, 46, 42, 63] ++ (spL (x :: r)).1 ++ [41]) :: jBL n (spL (x :: r)).2 := rfl
    rw [e, e2, spL_map]
    dsimp only
    by_cases h : (spL (x :: r)).2 = []
    · rw [if_pos h, if_pos (by rw [h]; rfl)]
      show [[46, 42], (spL (x :: r)).1.map g] = [[46, 42].map g, (spL (x :: r)).1.map g]
      rw [fix_map H [46, 42] (by decide)]
    · rw [if_neg h, if_neg (fun e => h (by
        cases hq : (spL (x :: r)).2 with
        | nil => rfl
        | cons a b => rw [hq] at e; simp [omap] at e)), List.map_cons, jBL_map n, List.map_append, List.map_append, fix_map H [40, 63, 62, 46, 42, 63] (by decide), fix_map H [41] (by decide)]
  | n + 1, some c :: r => rfl
theorem bodyL_map (x : List Nat) : bodyL (x.map g) = (bodyL x).map g := by
  unfold bodyL
  rw [trF_map H, spL_map]
  dsimp only
  rw [jBL_map H, List.map_append, List.map_flatten]
  unfold omap
  rw [List.length_map]
omit H in
theorem getD_map (ss : List (List Nat)) (i : Nat) : (ss.map (List.map g)).getD i [] = (ss.getD i []).map g := by
  simp only [List.getD, List.getElem?_map]
  cases ss[i]? <;> rfl
theorem wrapL_map (x : List Nat) : wrapL (x.map g) = (wrapL x).map g := by
  unfold wrapL
  rw [List.map_append, List.map_append, fix_map H [40, 63, 62, 46, 42, 63] (by decide), fix_map H [41] (by decide)]
theorem tpLoopL_map : ∀ (k i : Nat) (ss : List (List Nat)), tpLoopL k i (ss.map (List.map g)) = (tpLoopL k i ss).map (List.map g)
  | 0, _, _ => rfl
  | k + 1, i, ss => by
    unfold tpLoopL
    rw [getD_map, wrapL_map H, ← List.map_set, tpLoopL_map k]
theorem tpL_map (x : List Nat) : tpL (x.map g) = (tpL x).map g := by
  unfold tpL
  dsimp only
  rw [splitL_map H _ 42 (by decide), List.length_map, tpLoopL_map H, List.length_map, getD_map, List.map_flatten, List.map_set, List.map_append, fix_map H [46, 42] (by decide)]
theorem patStepL_map (ags : List (List Nat)) (k : Nat) (acc : List Nat) : patStepL (ags.map (List.map g)) k (acc.map g) = (patStepL ags k acc).map g := by
  unfold patStepL
  rw [getD_map, getD_map, List.length_map, List.length_map]
  split
  · split
    · rw [List.map_append]
    · rw [List.map_append, List.map_append, fix_map H [42] (by decide)]
  · rfl
theorem patL_map (ags : List (List Nat)) : patL (ags.map (List.map g)) = (patL ags).map g := by
  have h : ∀ (n k : Nat) (acc : List Nat), patLoopL (ags.map (List.map g)) n k (acc.map g) = (patLoopL ags n k acc).map g := by
    intro n
    induction n with
    | zero => intro k acc; rfl
    | succ n ih =>
      intro k acc
      unfold patLoopL
      rw [patStepL_map H, ih]
  unfold patL
  rw [List.length_map, getD_map, h]
end
end
section
/-! what the texts must answer -/
noncomputable def dueF (ss : List Str) (f : Str → List Str) (x : Str) : List Str := (waysF ss f).filter fun way => itemT way (way.length - 1) == x
noncomputable def TxtOk (q : Str) : Prop := (∀ c ∈ q.cps.toList, c = 42 ∨ lettr c = true) ∧ q.length ≤ 100
structure Facts (ss : List Str) (f : Str → List Str) (qs : List Str) : Prop where
  run : ∃ (recs : List (Str × List Str × List Str)) (rk : Str → Nat), runF Str.length rk ss f = some recs ∧ ∀ x ∈ ss, ∃ r, lookR recs x = some r ∧ r.2.Perm (dueF ss f x) ∧ r.1 = sharedF (dueF ss f x)
  due : ∀ x ∈ ss, dueF ss f x ≠ [] ∧ (dueF ss f x).length ≤ 60
  ways : (waysF ss f).length ≤ 1000 ∧ ∀ y ∈ waysF ss f, 0 < y.length ∧ y.length ≤ 100
  pat : sharedF (dueF ss f (ss.getD 4 ⟨#[]⟩)) ≠ [] ∧ (sharedF (dueF ss f (ss.getD 4 ⟨#[]⟩))).length ≤ 100 ∧ ∀ x ∈ sharedF (dueF ss f (ss.getD 4 ⟨#[]⟩)), x.length ≤ 2
  txt : TxtOk (patF (sharedF (dueF ss f (ss.getD 4 ⟨#[]⟩))))
  split : (∀ p ∈ Txt.split (patF (sharedF (dueF ss f (ss.getD 4 ⟨#[]⟩)))) "*", p.cps.toList.all lettr = true ∧ p.length ≤ 100) ∧ 0 < (Txt.split (patF (sharedF (dueF ss f (ss.getD 4 ⟨#[]⟩)))) "*").length ∧ (Txt.split (patF (sharedF (dueF ss f (ss.getD 4 ⟨#[]⟩)))) "*").length ≤ 100
  tp : (tpF (patF (sharedF (dueF ss f (ss.getD 4 ⟨#[]⟩))))).length ≤ 100 ∧ (dueF ss f (ss.getD 4 ⟨#[]⟩)).all (takesF (tpF (patF (sharedF (dueF ss f (ss.getD 4 ⟨#[]⟩)))))) = true
  body : (bodyF (patF (sharedF (dueF ss f (ss.getD 4 ⟨#[]⟩))))).length ≤ 100 ∧ (dueF ss f (ss.getD 4 ⟨#[]⟩)).all (takesF (bodyF (patF (sharedF (dueF ss f (ss.getD 4 ⟨#[]⟩)))))) = true
  drawn : ∀ q ∈ qs ++ [Txt.replace (patF (sharedF (dueF ss f (ss.getD 4 ⟨#[]⟩)))) "*" ""], TxtOk q ∧ (bodyF q).length ≤ 100 ∧ (dueF ss f (ss.getD 4 ⟨#[]⟩)).all (takesF (bodyF q)) = takesF (bodyF q) (patF (sharedF (dueF ss f (ss.getD 4 ⟨#[]⟩))))
noncomputable def PlainLaw : Prop := ∀ cs : List Int, cs.length = 5 → Facts (namesOf ((cs.getD 0 0).fmod 5)) (waitsF (namesOf ((cs.getD 0 0).fmod 5)) cs) (drawnF (namesOf ((cs.getD 0 0).fmod 5)) cs)
/-- two lists of truths that are alike -/
theorem w_eqBL {w : World} {A : Around} {h₀ : Heap} {env : Env} {ρ : Rho} {σ : Led} {loose : List Str} {mean : ExcName → Option Value} {mg mb : Str → Option Value} {need : Nat} (O : Ok w loose mean mg mb need A env h₀) {a b : Addr} {o o' : Obj} {bs : List Bool} {Q : Value → Rho → Led → Prop}
    (ha : Kn h₀ σ a o) (hb : Kn h₀ σ b o') (sa : LObj o (bs.map .bool)) (sb : LObj o' (bs.map .bool)) (h : Q (.bool true) ρ σ) : W w A h₀ env ρ σ (compareOp .Eq (.ref a) (.ref b)) Q := fun s ht F => by
  have hu : A.units < cLine := by have := O.un; lia
  refine PySem.SeqAt.eq_listAt (e := fun _ => true) (sa.isList (F.kn ha)) (sb.isList (F.kn hb)) rfl hu (fun j h1 h2 => ?_) ?_
  · have k1 : j < bs.length := by simpa using h1
    have := PySem.SeqAt.EqAt.bool_bool (A := A.in1) (s := s) bs[j] bs[j]
    simpa using this
  · have e : (List.range (bs.map Value.bool).toArray.size).all (fun _ => true) = true := List.all_eq_true.mpr fun _ _ => rfl
    rw [e]
    exact Post.now F h
theorem al_bools {α : Type} {f : α → Bool} {xs : List α} {vs : List Value} (h : Al (fun x v => v = .bool (f x)) xs vs) : vs = (xs.map f).map .bool := by
  induction h with
  | nil => rfl
  | cons h _ ih => rw [h, ih]; rfl
/-! the law's body -/
noncomputable def LawG (w : World) (qual : Str) (body : List Stmt) (scope : Scope) : Prop :=
  ∀ (loose : List Str) (mean : ExcName → Option Value) (mg mb : Str → Option Value) (L f : Addr) (cd : Value) (A : Around) (h₀ : Heap) (ρ : Rho) (s : Shared) (a : Addr) (o : Obj) (vs : List Value) (ns : List Int),
    Ok w loose mean mg mb 6 A (envOfC qual scope L f cd) h₀ → A.frames = some [envOfC qual scope L f cd] → (∀ x c, (envOfC qual scope L f cd).cells.lookup x = some c → h₀.get? c = none) →
    FS h₀ (envOfC qual scope L f cd) ρ [(120, tabObj #[])] s.heap → ρ "script" = some (.ref a) → h₀.get? a = some o → LW o vs → IntsAre vs ns → vs.length ≤ 63 →
    wpAny (model PP w) A (execs body (envOfC qual scope L f cd)) (PostF A h₀ (envOfC qual scope L f cd) s fun _ fl _ σ => fl = .ret (.bool true) ∧ (120, tabObj #[]) ∈ σ) (fun _ _ => False) s
theorem law_enter {w : World} {f : Addr} {G : Str → List Stmt → Scope → Prop} {name qual : Str} {params : Arguments} {body : List Stmt} {scope : Scope} {dV kV doc pm cdv ct oc : Value} {an od : Option Addr} {osl : Array (Option Value)}
    (ho : (KB w.params).lookup f = some ⟨oc, od, .func (fnOf name qual params body scope dV kV doc pm an cdv ct), osl⟩) (h : G qual body scope) :
    ∀ {name' qual' : Str} {params' : Arguments} {body' : List Stmt} {scope' : Scope} {dV' kV' doc' pm' cdv' ct' oc' : Value} {an' od' : Option Addr} {osl' : Array (Option Value)},
      (KB w.params).lookup f = some ⟨oc', od', .func (fnOf name' qual' params' body' scope' dV' kV' doc' pm' an' cdv' ct'), osl'⟩ → G qual' body' scope' := by
  intro name' qual' params' body' scope' dV' kV' doc' pm' cdv' ct' oc' an' od' osl' ho'
  rw [ho] at ho'
  cases ho'
  exact h
inductive LI1 (CO N RD WY : Addr) (σ₀ : Led) (i : Nat) (ρ : Rho) (σ : Led) : Prop
  | mk (y1 : ρ "codes" = some (.ref CO)) (y2 : ρ "names" = some (.ref N)) (y3 : ρ "records" = some (.ref RD)) (y4 : ρ "ways" = some (.ref WY)) (y5 : σ = σ₀) : LI1 CO N RD WY σ₀ i ρ σ
theorem law_walk (PL : PlainLaw) {w : World} : ∀ {name' qual' : Str} {params' : Arguments} {body' : List Stmt} {scope' : Scope} {dV' kV' doc' pm' cdv' ct' oc' : Value} {an' od' : Option Addr} {osl' : Array (Option Value)},
      (KB w.params).lookup 315 = some ⟨oc', od', .func (fnOf name' qual' params' body' scope' dV' kV' doc' pm' an' cdv' ct'), osl'⟩ → LawG w qual' body' scope' := by
  refine law_enter (G := LawG w) (by k_is) ?_
  intro loose mean mg mb L f cd A h₀ ρ s a o vs ns O hA hcell F b1 ha hl hI hz
  have hh := O.hh
  have hL : L ∈ fsOf A := by unfold fsOf; rw [hA]; exact .head _
  refine wf_first (cl := [("script", L + 1)]) O F (by with_unfolding_all rfl) (by with_unfolding_all rfl) (hcl1 (by with_unfolding_all rfl)) (clk_of (by with_unfolding_all rfl)) (by decide) (by with_unfolding_all rfl) (by decide) (by intro _; with_unfolding_all rfl) (by intro _ _; with_unfolding_all rfl) (by with_unfolding_all rfl) (by with_unfolding_all rfl) (by with_unfolding_all rfl) (by k_is) (by boot_by_name) (by with_unfolding_all rfl) (by with_unfolding_all rfl) ?_
  intro D0 o0 hr0
  have hIa := al_of_ints hI
  refine w_compR (n := 5) (V := fun _ v => ∃ c t, v = .int c t ∧ 0 ≤ c ∧ c < 1000000000) (fun _ => true) hh (.inl (.head _)) hr0 (by decide) (by decide) (by decide) ?_ ?_
  · rintro h₁ C ρc i t hs O' hc hi
    have e1 := hc "script" _ _ rfl b1
    have ha1 := hs.1 _ _ ha
    walk_at "ws"
    refine ⟨rfl, fun _ => ?_⟩
    walk_at "ws"
    intro I3 oi3 hs3
    refine w_subSlW hs3 (.inr ha1) hl (.int _ _) .none (.int _ _) (by decide) (by exact Nat.le_trans (by assumption) (by decide)) fun D1 o1 hl1 => ?_
    obtain ⟨ns1, hal1⟩ := ints_ex fun v hv => al_ex hIa v (show v ∈ vs.toArray.toList from pick_mem v hv)
    walk_at "ws"
    refine w_sum O'.hh (.inl (.head _)) hl1.lw hal1 fun t5 => ?_
    walk_at "ws"
    with_reducible refine W.powI (by decide) (by decide) (by decide) fun t9 => ?_
    with_reducible refine W.modI (by decide) fun t10 => ?_
    refine ⟨_, _, rfl, ?_⟩
    have hp : (10 : Int) ^ (9 : Int).toNat = 1000000000 := by decide
    rw [hp, Int.fmod_eq_emod_of_nonneg _ (by decide)]
    exact ⟨Int.emod_nonneg _ (by decide), Int.emod_lt_of_pos _ (by decide)⟩
  · intro CO oCO vcs hCO hcs
    rw [List.filter_eq_self.mpr fun _ _ => rfl] at hcs
    obtain ⟨cs, hlc, halc, hpos⟩ : ∃ cs : List Int, cs.length = 5 ∧ Al IsI cs vcs ∧ ∀ c ∈ cs, 0 ≤ c ∧ c < 1000000000 := by
      have ex : ∀ {xs : List Int} {us : List Value}, Al (fun _ v => ∃ c t, v = .int c t ∧ 0 ≤ c ∧ c < 1000000000) xs us → ∃ cs : List Int, Al IsI cs us ∧ ∀ c ∈ cs, 0 ≤ c ∧ c < 1000000000 := by
        intro xs us h
        induction h with
        | nil => exact ⟨[], .nil, fun c hc => nomatch hc⟩
        | cons h1 _ ih =>
          obtain ⟨c, t, rfl, h2⟩ := h1
          obtain ⟨cs, a, b⟩ := ih
          exact ⟨c :: cs, .cons ⟨t, rfl⟩ a, fun d hd => by
            rcases List.mem_cons.mp hd with rfl | hd
            · exact h2
            · exact b d hd⟩
      obtain ⟨cs, h1, h2⟩ := ex hcs
      have := hcs.len
      rw [h1.len] at this
      exact ⟨cs, by simpa using this, h1, h2⟩
    have FX := PL cs hlc
    generalize hss : namesOf ((cs.getD 0 0).fmod 5) = ss at *
    have hn5 := names_ok (turn := (cs.getD 0 0).fmod 5) (Int.fmod_nonneg_of_pos _ (by decide)) (Int.fmod_lt_of_pos _ (by decide))
    rw [hss] at hn5
    refine WF.execs_W ?_
    walk_at "ws"
    refine W.pureC O (fun h F => web_spec (F.get (.head _)) hCO halc hlc) (by decide) ?_
    rintro _ tl ⟨T, N, d, oT, oN, od, kvs, rfl, hT, hTO, hN, hNs, hsm, hd, hdd, hw⟩
    rw [hss] at hNs hw
    refine w_unpackT hh (.inl (List.mem_append_left _ hT)) hTO ?_ (by with_unfolding_all rfl) (by with_unfolding_all rfl)
    walk_at "ws"
    have WL : WaitsL w (tl ++ [(CO, oCO), (D0, o0), (120, tabObj #[])]) d (waitsF ss cs) ss := ⟨hsm, od, kvs, List.mem_append_left _ hd, hdd, fun x hx => by
      obtain ⟨a, oa, e1, e2, e3⟩ := hw x hx
      exact ⟨a, oa, e1, List.mem_append_left _ e2, e3⟩⟩
    have mN : (N, oN) ∈ tl ++ [(CO, oCO), (D0, o0), (120, tabObj #[])] := List.mem_append_left _ hN
    have mC : (CO, oCO) ∈ tl ++ [(CO, oCO), (D0, o0), (120, tabObj #[])] := List.mem_append_right _ (.head _)
    have m120 : (120, tabObj #[]) ∈ tl ++ [(CO, oCO), (D0, o0), (120, tabObj #[])] := List.mem_append_right _ (.tail _ (.tail _ (.head _)))
    clear hT hTO hN hd hdd hw
    generalize tl ++ [(CO, oCO), (D0, o0), (120, tabObj #[])] = σ1 at *
    obtain ⟨recs, rk, hrun, hrecs⟩ := FX.run
    refine WF.execs_cons (WF.assign ?_ (by with_unfolding_all rfl))
    refine WF.call ?_ (by with_unfolding_all rfl)
    walk_at "ws"
    refine WF.callD O (by k_is) ?_ (by with_unfolding_all rfl)
    walk_at "ws"
    rw [← List.append_nil σ1]
    refine WF.mutF O hL hcell (fun h _ _ => records_spec mN hNs WL (by rw [hn5.1]; decide) hrun) (by decide) ?_
    rintro h₁ _ _ O1 ⟨RD, oRD, rkv, tlR, rfl, hsmR, hRD, rfl, mRD, hRR⟩
    clear O hcell ha
    rw [List.append_nil]
    have mN : (N, oN) ∈ tlR ++ σ1 := List.mem_append_right _ mN
    have mC : (CO, oCO) ∈ tlR ++ σ1 := List.mem_append_right _ mC
    have m120 : (120, tabObj #[]) ∈ tlR ++ σ1 := List.mem_append_right _ m120
    have mRD : (RD, oRD) ∈ tlR ++ σ1 := List.mem_append_left _ mRD
    have hRR := hRR.mono (K' := fun a o => (a, o) ∈ tlR ++ σ1) fun _ _ hm => List.mem_append_left _ hm
    have WL : WaitsL w (tlR ++ σ1) d (waitsF ss cs) ss := ⟨WL.sm, by
      obtain ⟨o, kvs, e1, e2, e3⟩ := WL.obj
      refine ⟨o, kvs, List.mem_append_right _ e1, e2, fun x hx => ?_⟩
      obtain ⟨a, oa, f1, f2, f3⟩ := e3 x hx
      exact ⟨a, oa, f1, List.mem_append_right _ f2, f3⟩⟩
    generalize tlR ++ σ1 = σ2 at *
    walk_at "ws"
    refine WF.ofW ?_
    walk_at "ws"
    with_reducible refine W.pureC O1 (fun h F => ways_spec (f := waitsF ss cs) (F.get mN) hNs hn5.2.1 hn5.1 ⟨WL.sm, ?_⟩) (by decide) ?_
    · obtain ⟨o, kvs, e1, e2, e3⟩ := WL.obj
      refine ⟨o, kvs, F.get e1, e2, fun x hx => ?_⟩
      obtain ⟨a, oa, f1, f2, f3⟩ := e3 x hx
      exact ⟨a, oa, f1, F.get f2, f3⟩
    rintro _ _ ⟨WY, oWY, rfl, rfl, hWY⟩
    walk_at "ws"
    obtain ⟨us, hN2, hNal⟩ := hNs.al
    obtain ⟨wys, hWY2, hWYal⟩ := hWY.al
    have zW := FX.ways
    refine w_forList (σ₃ := (WY, oWY) :: σ2) hh (.inl (.tail _ mN)) hN2 (.refl _) (LI1 CO N RD WY ((WY, oWY) :: σ2)) ?_ ?_ ?_ ?_
    · exact ⟨by walk_at "look", by walk_at "look", by walk_at "look", by walk_at "look", rfl⟩
    · rintro i ρ σ ⟨_, _, _, _, rfl⟩
      exact .inl (.tail _ mN)
    · rintro i v I oi ρ σ hi hv ⟨c1, c2, c3, c4, rfl⟩
      obtain ⟨k, hk, tk, rfl⟩ := hNal.get hv
      have hkm := List.mem_of_getElem? hk
      have hk1 := hn5.2.1 k hkm
      obtain ⟨r, g1, g2, g3⟩ := hrecs k hkm
      obtain ⟨e, g4, g5⟩ := hRR.get g1
      obtain ⟨z1, z2⟩ := FX.due k hkm
      walk_at "ws"
      refine w_assignComp (cl := [("name", L + 1 + 1 + 1)]) O1 (by with_unfolding_all rfl) (by with_unfolding_all rfl) (hcl1 (by with_unfolding_all rfl)) (clk_of (by with_unfolding_all rfl)) (by decide) (by with_unfolding_all rfl) (by decide) (by intro _; with_unfolding_all rfl) (by intro _ _; with_unfolding_all rfl) (by with_unfolding_all rfl) (by with_unfolding_all rfl) (by with_unfolding_all rfl) ?_
      walk_at "ws"
      refine w_compL (p := fun way => itemT way (way.length - 1) == k) (V := IsS) hh (.inl (.tail _ (.head _))) hWY2 hWYal (by lia) ?_ ?_
      · rintro h₂ C ρc x v hs O' hc hx ⟨tx, rfl⟩
        have e1 := hc "name" _ _ rfl (by walk_at "look")
        have zx := zW.2 x hx
        walk_at "ws"
        with_reducible refine w_subS (w_itemSL (by lia) (by lia) fun t4 => ?_)
        walk_at "ws"
        refine ⟨rfl, fun _ => ?_⟩
        walk_at "ws"
        exact ⟨_, rfl⟩
      · intro DU oDU dus hDU hdus
        have hDS : SL oDU (dueF ss (waitsF ss cs) k) := SL.of hDU hdus
        obtain ⟨dx, U, R', oU, oR, v1, v2, v3, v4, n, p1, p2, p3, p4, p5, p6, _⟩ := g5
        walk_at "ws"
        refine w_subD (.inl (.tail _ (.tail _ (.tail _ mRD)))) hRD (w_getD (.inl (.tail _ (.tail _ (.tail _ mRD)))) hRD g4 ?_)
        refine w_getOwn O1 (.inl (.tail _ (.tail _ (.tail _ p1)))) (.inl (.tail _ (.tail _ (.tail _ p2)))) (by k_is) (by k_is) (by k_is) (by k_is) (by rfl) (by rfl) ?_
        walk_at "ws"
        have zr : r.2.length ≤ 60 := by rw [g2.length_eq]; exact z2
        refine w_sorted (.inl (.tail _ (.tail _ (.tail _ p4)))) p6 (by exact Nat.lt_of_le_of_lt (by assumption) (by decide)) fun X1 oX1 s1 hX1 q1 q2 => ?_
        walk_at "ws"
        refine w_sorted (.inl (.tail _ (.head _))) hDS (by exact Nat.lt_of_le_of_lt (by assumption) (by decide)) fun X2 oX2 s2 hX2 q3 q4 => ?_
        walk_at "ws"
        refine w_neSL O1 (.inl (.tail _ (.head _))) (.inl (.head _)) hX1 hX2 ?_
        rw [sorted_uniq q2 q4 ((q1.trans g2).trans q3.symm)]
        walk_at "ws"
        refine ite_f (by simp) ?_
        walk_at "ws"
        have in5 : ∀ {p : Addr × Obj}, p ∈ σ2 → p ∈ (X2, oX2) :: (X1, oX1) :: (DU, oDU) :: (I, oi) :: (WY, oWY) :: σ2 := fun hp => .tail _ (.tail _ (.tail _ (.tail _ (.tail _ hp))))
        refine w_subD (.inl (in5 mRD)) hRD (w_getD (.inl (in5 mRD)) hRD g4 ?_)
        refine w_getOwn O1 (.inl (in5 p1)) (.inl (in5 p2)) (by k_is) (by k_is) (by k_is) (by k_is) (by rfl) (by rfl) ?_
        walk_at "ws"
        refine W.pureC O1 (fun h F => shared_spec (F.get (.tail _ (.tail _ (.head _)))) hDS (fun x hx => ?_) z1 (by exact Nat.le_trans (by assumption) (by decide))) (by decide) ?_
        · exact zW.2 x (List.mem_filter.mp hx).1
        rintro _ _ ⟨SH, oSH, rfl, rfl, hSH⟩
        refine w_neSL O1 (.inl (.tail _ (in5 p3))) (.inl (.head _)) p5 hSH ?_
        rw [g3]
        walk_at "ws"
        refine ite_f (by simp) ?_
        walk_at "ws"
        refine ite_f Bool.false_ne_true ?_
        walk_at "ws"
        exact ⟨_, .cons _ (.cons _ (.cons _ (.cons _ (.refl _)))), by walk_at "look", by walk_at "look", by walk_at "look", by walk_at "look", rfl⟩
    · rintro ρ σ ⟨c1, c2, c3, c4, rfl⟩
      walk_at "ws"
      refine w_listComp (cl := [("names", L + 1 + 1)]) O1 (by with_unfolding_all rfl) (hcl1 (by with_unfolding_all rfl)) (clk_of (by with_unfolding_all rfl)) (by decide) (by with_unfolding_all rfl) (by decide) (by intro _; with_unfolding_all rfl) (by intro _ _; with_unfolding_all rfl) ?_
      walk_at "ws"
      obtain ⟨k4, hk4, g4e⟩ : ∃ k, ss[4]? = some k ∧ ss.getD 4 ⟨#[]⟩ = k := by
        have : 4 < ss.length := by rw [hn5.1]; decide
        exact ⟨ss[4], List.getElem?_eq_getElem this, by simp [List.getD, this]⟩
      obtain ⟨v4, gv4, t4, rfl⟩ := hNal.get' hk4
      have hus5 : us.length = 5 := by rw [hNal.len]; exact hn5.1
      obtain ⟨us4, husd⟩ : ∃ us4, us = us4 ++ [Value.str k4 t4] ∧ us4.length = 4 := by
        refine ⟨us.take 4, ?_, by rw [List.length_take]; lia⟩
        have := List.take_append_drop 4 us
        have hd : us.drop 4 = [Value.str k4 t4] := by
          obtain ⟨h1, h2⟩ := List.getElem?_eq_some_iff.mp gv4
          rw [List.drop_eq_getElem_cons h1, h2, List.drop_eq_nil_of_le (by lia)]
        rw [← hd]; exact this.symm
      have hN3 : LObj oN (us4 ++ [Value.str k4 t4]) := husd.1 ▸ hN2
      have hk4m := List.mem_of_getElem? hk4
      refine w_compL (p := fun way => itemT way (way.length - 1) == k4) (V := IsS) hh (.inl (.head _)) hWY2 hWYal (by lia) ?_ ?_
      · rintro h₂ C ρc x v hs O' hc hx ⟨tx, rfl⟩
        have e1 := hc "names" _ _ rfl (by walk_at "look")
        have zx := zW.2 x hx
        have hNk := hs.2 _ (.tail _ mN)
        walk_at "ws"
        with_reducible refine w_subS (w_itemSL (by lia) (by lia) fun t4 => ?_)
        walk_at "ws"
        refine w_lastL (.inr hNk) hN3.lw (by rw [husd.2]; decide) ?_
        walk_at "ws"
        refine ⟨rfl, fun _ => ?_⟩
        walk_at "ws"
        exact ⟨_, rfl⟩
      · intro G oG gus hG hgus
        have hGS : SL oG (dueF ss (waitsF ss cs) k4) := SL.of hG hgus
        walk_at "ws"
        obtain ⟨r, f1, f2, f3⟩ := hrecs k4 hk4m
        obtain ⟨e, f4, f5⟩ := hRR.get f1
        obtain ⟨dx, U, R', oU, oR, v1, v2, v3, v4, n, p1, p2, p3, p4, p5, p6, _⟩ := f5
        have FP := FX.pat
        rw [g4e] at FP
        have FT := FX.txt
        rw [g4e] at FT
        have FS := FX.split
        rw [g4e] at FS
        have FB := FX.body
        rw [g4e] at FB
        have FTP := FX.tp
        rw [g4e] at FTP
        have FD := FX.drawn
        rw [g4e] at FD
        have FG := FX.due k4 hk4m
        clear FX
        generalize hgoal : dueF ss (waitsF ss cs) k4 = goal at *
        rw [f3] at p5
        generalize hpat : patF (sharedF goal) = P at *
        have zg : ∀ x ∈ goal, x.length ≤ 100 := fun x hx => by rw [← hgoal] at hx; exact (zW.2 x (List.mem_filter.mp hx).1).2
        refine w_lastL (.inl (.tail _ (.tail _ mN))) hN3.lw (by rw [husd.2]; decide) ?_
        walk_at "ws"
        refine w_subD (.inl (.tail _ (.tail _ mRD))) hRD (w_getD (.inl (.tail _ (.tail _ mRD))) hRD f4 ?_)
        refine w_getOwn O1 (.inl (.tail _ (.tail _ p1))) (.inl (.tail _ (.tail _ p2))) (by k_is) (by k_is) (by k_is) (by k_is) (by rfl) (by rfl) ?_
        walk_at "ws"
        refine W.pureC O1 (fun h F => pat_spec (F.get (.tail _ (.tail _ p3))) p5 FP.2.2 FP.1 FP.2.1) (by decide) ?_
        rintro _ tl2 ⟨tp, rfl⟩
        rw [hpat]
        walk_at "un"
        with_reducible refine W.sub (σ' := (G, oG) :: (WY, oWY) :: σ2) ?_ (List.sublist_append_right _ _)
        walk_at "ws"
        refine W.pureC O1 (fun h F => tp_spec (fun p hp => (FS.1 p hp).1) FS.2.1 FT.2 FS.2.2 fun p hp => (FS.1 p hp).2) (by decide) ?_
        rintro _ tl3 ⟨t5, rfl⟩
        walk_at "un"
        with_reducible refine W.sub (σ' := (G, oG) :: (WY, oWY) :: σ2) ?_ (List.sublist_append_right _ _)
        walk_at "ws"
        refine W.pureC O1 (fun h F => all_spec FTP.1 (F.get (.head _)) hGS zg (by lia)) (by decide) ?_
        rintro _ tl4 rfl
        walk_at "un"
        with_reducible refine W.sub (σ' := (G, oG) :: (WY, oWY) :: σ2) ?_ (List.sublist_append_right _ _)
        rw [FTP.2]
        walk_at "ws"
        refine ite_f (by decide) ?_
        walk_at "ws"
        refine W.pureC O1 (fun h F => body_spec FT.1 FT.2) (by decide) ?_
        rintro _ tl5 ⟨t6, rfl⟩
        walk_at "un"
        with_reducible refine W.sub (σ' := (G, oG) :: (WY, oWY) :: σ2) ?_ (List.sublist_append_right _ _)
        walk_at "ws"
        refine W.pureC O1 (fun h F => all_spec FB.1 (F.get (.head _)) hGS zg (by lia)) (by decide) ?_
        rintro _ tl6 rfl
        walk_at "un"
        with_reducible refine W.sub (σ' := (G, oG) :: (WY, oWY) :: σ2) ?_ (List.sublist_append_right _ _)
        rw [FB.2]
        walk_at "ws"
        refine ite_f (by decide) ?_
        walk_at "ws"
        refine ite_f Bool.false_ne_true ?_
        walk_at "ws"
        refine w_assignComp (cl := []) O1 (by with_unfolding_all rfl) (by with_unfolding_all rfl) hcl_nil (clk_of (by with_unfolding_all rfl)) (by decide) (by with_unfolding_all rfl) (by decide) (by intro _; with_unfolding_all rfl) (by intro _ _; with_unfolding_all rfl) (by with_unfolding_all rfl) (by with_unfolding_all rfl) (by with_unfolding_all rfl) ?_
        walk_at "ws"
        refine W.pureC O1 (fun h F => drawn_spec (F.get (.tail _ (.tail _ mC))) hCO halc (F.get (.tail _ (.tail _ mN))) hNs hlc hn5.1 hn5.2.1 hpos) (by decide) ?_
        rintro _ tl7 ⟨DR, oDR, rfl, mDR, hDR⟩
        walk_at "ws"
        refine ⟨P, tp, rfl, by have := FT.2; exact Nat.le_trans (by assumption) (by decide), fun t7 => ?_⟩
        walk_at "ws"
        refine ⟨by simp, fun DL oDL hDL => ?_⟩
        obtain ⟨dvs, hDR2, hDRal⟩ := hDR.al
        have hdl : dvs.length ≤ 5 := by
          rw [hDRal.len]
          unfold drawnF
          rw [List.length_zipWith, hlc]
          exact Nat.min_le_right _ _
        refine w_addL (.inl (.tail _ (List.mem_append_left _ mDR))) (.inl (.head _)) hDR2 hDL (by simp; exact Nat.le_trans (by assumption) (by decide)) fun QS oQS hQS => ?_
        have hQal : Al IsS (drawnF ss cs ++ [Txt.replace P "*" ""]) (dvs ++ [.str (Txt.replace P "*" "") t7]) := hDRal.snoc ⟨_, rfl⟩
        have hqz : (drawnF ss cs ++ [Txt.replace P "*" ""]).length ≤ 1000000 := by rw [← hQal.len]; simp; lia
        generalize drawnF ss cs ++ [Txt.replace P "*" ""] = qs at *
        generalize dvs ++ [.str (Txt.replace P "*" "") t7] = qvs at *
        walk_at "ws"
        refine w_compL (p := fun _ => true) (V := fun q v => IsS (bodyF q) v) hh (.inl (.head _)) hQS hQal hqz ?_ ?_
        · rintro h₂ C ρc q v hs O' hc hq ⟨tq, rfl⟩
          obtain ⟨⟨y1, y2⟩, y3, y4⟩ := FD q hq
          walk_at "ws"
          refine ⟨rfl, fun _ => ?_⟩
          walk_at "ws"
          with_reducible refine W.pureC O' (fun h F => body_spec y1 y2) (by decide) ?_
          rintro _ tl8 ⟨t8, rfl⟩
          exact ⟨_, rfl⟩
        · intro BD oBD bvs hBD hbvs
          rw [List.filter_eq_self.mpr fun _ _ => rfl] at hbvs
          walk_at "ws"
          refine w_listComp (cl := [("goal", L + 1 + 1 + 1 + 1)]) O1 (by with_unfolding_all rfl) (hcl1 (by with_unfolding_all rfl)) (clk_of (by with_unfolding_all rfl)) (by decide) (by with_unfolding_all rfl) (by decide) (by intro _; with_unfolding_all rfl) (by intro _ _; with_unfolding_all rfl) ?_
          walk_at "ws"
          refine w_compL (p := fun _ => true) (V := fun q v => v = .bool (goal.all (takesF (bodyF q)))) hh (.inl (.head _)) hBD hbvs hqz ?_ ?_
          · rintro h₂ C ρc q v hs O' hc hq ⟨tq, rfl⟩
            have e1 := hc "goal" _ _ rfl (by walk_at "look")
            have hGk := hs.2 (G, oG) (.tail _ (.tail _ (.tail _ (List.mem_append_right _ (.head _)))))
            obtain ⟨_, y3, y4⟩ := FD q hq
            walk_at "ws"
            refine ⟨rfl, fun _ => ?_⟩
            walk_at "ws"
            refine W.pureC O' (fun h F => all_spec y3 (F.keep _ _ hGk) hGS zg (by lia)) (by decide) ?_
            rintro _ tl8 rfl
            rfl
          · intro L1 oL1 l1 hL1 hl1
            rw [List.filter_eq_self.mpr fun _ _ => rfl] at hl1
            walk_at "ws"
            refine w_listComp (cl := [("pattern", L + 1 + 1 + 1 + 1 + 1)]) O1 (by with_unfolding_all rfl) (hcl1 (by with_unfolding_all rfl)) (clk_of (by with_unfolding_all rfl)) (by decide) (by with_unfolding_all rfl) (by decide) (by intro _; with_unfolding_all rfl) (by intro _ _; with_unfolding_all rfl) ?_
            walk_at "ws"
            refine w_compL (p := fun _ => true) (V := fun q v => v = .bool (takesF (bodyF q) P)) hh (.inl (.tail _ (.head _))) hBD hbvs hqz ?_ ?_
            · rintro h₂ C ρc q v hs O' hc hq ⟨tq, rfl⟩
              have e1 := hc "pattern" _ _ rfl (by walk_at "look")
              obtain ⟨_, y3, y4⟩ := FD q hq
              walk_at "ws"
              refine ⟨rfl, fun _ => ?_⟩
              walk_at "ws"
              refine W.pureC O' (fun h F => takes_spec y3 FT.2) (by decide) ?_
              rintro _ tl8 rfl
              rfl
            · intro L2 oL2 l2 hL2 hl2
              rw [List.filter_eq_self.mpr fun _ _ => rfl] at hl2
              walk_at "ws"
              have e1 := al_bools hl1
              have e2 := al_bools hl2
              have e3 : (qs.map fun q => goal.all (takesF (bodyF q))) = qs.map fun q => takesF (bodyF q) P := List.map_congr_left fun q hq => (FD q hq).2.2
              rw [← e3] at e2
              rw [e1] at hL1
              rw [e2] at hL2
              refine w_eqBL O1 (.inl (.tail _ (.head _))) (.inl (.head _)) hL1 hL2 ?_
              walk_at "ws"
              exact ⟨rfl, .tail _ (.tail _ (.tail _ (.tail _ (.tail _ (List.mem_append_right _ (.tail _ (.tail _ m120)))))))⟩
end
section
/-! webs by lists of signs -/
noncomputable def rot (t c : Nat) : Nat := if 97 ≤ c ∧ c ≤ 101 then 97 + (c - 97 + t) % 5 else c
theorem rot_gm (t : Nat) : Gm (rot t) where
  inj := fun a b => by
    unfold rot
    constructor
    · intro h
      split at h <;> split at h <;> omega
    · rintro rfl; rfl
  fix := fun c hc => by
    unfold rot
    rw [if_neg (by omega)]
noncomputable abbrev ph (g : Nat → Nat) (l : List Nat) : Str := mk (l.map g)
theorem mk_inj {a b : List Nat} : mk a = mk b ↔ a = b := by
  constructor
  · intro h
    have := congrArg (fun s : Str => s.cps.toList) h
    exact this
  · rintro rfl; rfl
theorem ph_inj {g : Nat → Nat} (H : Gm g) {a b : List Nat} : ph g a = ph g b ↔ a = b := by
  rw [mk_inj]
  constructor
  · exact fun h => List.map_inj_right (fun x y e => (H.inj x y).mp e) |>.mp h
  · rintro rfl; rfl
theorem ph_hm {g : Nat → Nat} (H : Gm g) : Hm List.length Str.length (ph g) where
  inj := fun a b => ph_inj H
  app := fun a b => by rw [ph, List.map_append, ← app_mk]
  beq := fun a b => by
    rw [Bool.eq_iff_iff, beq_iff_eq, beq_iff_eq]
    exact ph_inj H
  len := fun a => by rw [ph, mk_len, List.length_map]
theorem item_mk (xs : List Nat) (k : Nat) : itemT (mk xs) k = mk ((xs.drop k).take 1) := by
  unfold itemT
  have e : (mk xs).cps[k]? = xs[k]? := by simp
  rw [e]
  cases h : xs[k]? with
  | none =>
    rw [List.drop_eq_nil_of_le (by simpa using h)]
    rfl
  | some c =>
    obtain ⟨h1, h2⟩ := List.getElem?_eq_some_iff.mp h
    rw [List.drop_eq_getElem_cons h1, h2]
    rfl
theorem item_last (g : Nat → Nat) (w : List Nat) : itemT (ph g w) ((ph g w).length - 1) = ph g (lastL w) := by
  rw [ph, item_mk, mk_len, List.length_map, lastL, ph, List.map_drop, List.take_of_length_le]
  rw [List.length_drop, List.length_map]
  omega
section
variable {g : Nat → Nat} (H : Gm g) {names : List (List Nat)} {f : List Nat → List (List Nat)} {F : Str → List Str} (hf : ∀ a ∈ names, F (ph g a) = (f a).map (ph g))
include H hf
theorem rowL_map (row : List (List Nat)) : rowStep (names.map (ph g)) F (row.map (ph g)) = (rowL names f row).map (ph g) := by
  unfold rowStep rowL
  rw [List.flatMap_map, List.map_flatMap]
  congr 1
  funext way
  rw [List.map_map, List.filter_map, List.map_map, item_last]
  have e : names.filter ((fun name => (F name).any fun x => x == ph g (lastL way)) ∘ ph g) = names.filter fun name => (f name).any fun x => x == lastL way := by
    refine List.filter_congr fun a ha => ?_
    show (F (ph g a)).any _ = _
    rw [hf a ha, List.any_map]
    congr 1
    funext x
    exact (ph_hm H).beq x (lastL way)
  rw [e]
  refine List.map_congr_left fun a _ => ?_
  exact ((ph_hm H).app way a).symm
theorem waysL_map : waysF (names.map (ph g)) F = (waysL names f).map (ph g) := by
  have h : ∀ (n : Nat) (row ways : List (List Nat)), waysLoop (names.map (ph g)) F n (row.map (ph g)) (ways.map (ph g)) = (waysLoopL names f n row ways).map (ph g) := by
    intro n
    induction n with
    | zero => intro row ways; rfl
    | succ n ih =>
      intro row ways
      unfold waysLoop waysLoopL
      rw [rowL_map H hf, ← List.map_append, ih]
  unfold waysF waysL
  have e : (names.map (ph g)).getD 0 ⟨#[]⟩ = ph g (names.getD 0 []) := by
    cases names <;> rfl
  rw [e]
  exact h 5 [names.getD 0 []] []
theorem dueL_map (x : List Nat) : dueF (names.map (ph g)) F (ph g x) = (dueL names f x).map (ph g) := by
  unfold dueF dueL
  rw [waysL_map H hf, List.filter_map]
  congr 1
  refine List.filter_congr fun w _ => ?_
  show (itemT (ph g w) ((ph g w).length - 1) == ph g x) = _
  rw [item_last]
  exact (ph_hm H).beq (lastL w) x
end
section
variable {g : Nat → Nat} (H : Gm g)
theorem markLoop_map (w : List Nat) : ∀ (n k : Nat) (l : List (List Nat)), 1 ≤ k → k + n = w.length → markLoop (ph g w) n k (l.map (ph g)) = (markLoopL w n k l).map (ph g)
  | 0, _, _, _, _ => rfl
  | n + 1, k, l, h1, h2 => by
    unfold markLoop markLoopL
    have e : markStep (ph g w) k (l.map (ph g)) = (markStepL w k l).map (ph g) := by
      unfold markStep markStepL
      have s : sliceT (ph g w) (some ((k : Int) - 1)) (some ((k : Int) + 1)) = ph g ((w.drop (k - 1)).take 2) := by
        have := slice_mk (w.map g) (a := k - 1) (b := k + 1) (by omega) (by rw [List.length_map]; omega)
        rw [show ((k - 1 : Nat) : Int) = (k : Int) - 1 by omega, show ((k + 1 : Nat) : Int) = (k : Int) + 1 by omega] at this
        rw [ph, this, ph, List.map_take, List.map_drop, show k + 1 - (k - 1) = 2 by omega]
      have i : itemT (ph g w) k = ph g ((w.drop k).take 1) := by
        rw [ph, item_mk, ph, List.map_take, List.map_drop]
      rw [s, i, List.map_append]
      rfl
    rw [e]
    exact markLoop_map w n (k + 1) _ (by omega) (by omega)
theorem marksL_map (w : List Nat) (hw : w ≠ []) : marksF (ph g w) = (marksL w).map (ph g) := by
  unfold marksF marksL
  have hl : 0 < w.length := List.length_pos_iff.mpr hw
  have i : itemT (ph g w) 0 = ph g (w.take 1) := by
    rw [ph, item_mk, ph, List.map_take, List.drop_zero]
  rw [i, show (ph g w).length = w.length by rw [ph, mk_len, List.length_map]]
  exact markLoop_map w (w.length - 1) 1 [w.take 1] (Nat.le_refl _) (by omega)
include H
theorem sharedL_map (ways : List (List Nat)) (h0 : ways.getD 0 [] ≠ []) (h1 : ∀ m ∈ marksL (ways.getD 0 []), m ≠ []) : sharedF (ways.map (ph g)) = (sharedL ways).map (ph g) := by
  unfold sharedF sharedL
  have e : (ways.map (ph g)).getD 0 ⟨#[]⟩ = ph g (ways.getD 0 []) := by
    cases ways <;> rfl
  rw [e, marksL_map _ h0, List.filter_map]
  congr 1
  refine List.filter_congr fun m hm => ?_
  show (ways.map (ph g)).all (fun x => Txt.contains x (ph g m)) = _
  rw [List.all_map]
  congr 1
  funext x
  show Txt.contains (ph g x) (ph g m) = _
  rw [ph, ph, cont_mk _ _ (by
    intro e
    exact h1 m hm (List.map_eq_nil_iff.mp e)), findL_map H]
end
end
section
/-! the plain law -/
theorem names_ph {t : Nat} (h : t < 5) : namesOf (t : Int) = names0.map (ph (rot t)) := by
  rcases (show t = 0 ∨ t = 1 ∨ t = 2 ∨ t = 3 ∨ t = 4 by lia) with rfl | rfl | rfl | rfl | rfl <;> decide +kernel
theorem mem_allK : ∀ (ks : List Nat), (∀ k ∈ ks, k < 3) → ks ∈ allK ks.length
  | [], _ => by simp [allK]
  | k :: ks, h => by
    have ih := mem_allK ks fun j hj => h j (.tail _ hj)
    have hk := h k (.head _)
    show k :: ks ∈ (allK ks.length).flatMap _
    refine List.mem_flatMap.mpr ⟨ks, ih, ?_⟩
    rcases (show k = 0 ∨ k = 1 ∨ k = 2 by lia) with rfl | rfl | rfl <;> simp
theorem bit_ok : ∀ m : Nat, m < 16 → ∀ i : Nat, i < 4 → bitOf (m : Int) (0 + (i : Nat)) = Nat.beq (m / 2 ^ i % 2) 1 := by decide +kernel
theorem getD_names (g : Nat → Nat) {j : Nat} (h : j < 5) : (names0.map (ph g)).getD j ⟨#[]⟩ = ph g [97 + j] := by
  rcases (show j = 0 ∨ j = 1 ∨ j = 2 ∨ j = 3 ∨ j = 4 by lia) with rfl | rfl | rfl | rfl | rfl <;> rfl
theorem wait_ph (g : Nat → Nat) {m k : Nat} (hm : m < 16) (hk : k ≤ 4) : waitOf (names0.map (ph g)) (m : Int) k = (selL m k).map (ph g) := by
  unfold waitOf selL
  rw [List.filter_map, List.map_map, List.map_map]
  have e : (List.range k).filter (bitOf (m : Int) ∘ fun i => (0 : Int) + (i : Nat)) = (List.range k).filter fun i => Nat.beq (m / 2 ^ i % 2) 1 := by
    refine List.filter_congr fun i hi => ?_
    have := List.mem_range.mp hi
    exact bit_ok m hm i (by exact Nat.lt_of_lt_of_le (by assumption) (by assumption))
  rw [e]
  refine List.map_congr_left fun i hi => ?_
  have := List.mem_range.mp (List.mem_filter.mp hi).1
  show (names0.map (ph g)).getD ((0 : Int) + (i : Nat)).toNat ⟨#[]⟩ = ph g [97 + i]
  rw [show ((0 : Int) + (i : Nat)).toNat = i by simp]
  exact getD_names g (by lia)
theorem mask_of (cs : List Int) (k : Nat) (h1 : 1 ≤ k) (h4 : k ≤ 4) : ∃ m : Nat, maskOf cs k = m ∧ 1 ≤ m ∧ m ≤ 2 ^ k - 1 := by
  unfold maskOf
  have hp : (2 : Int) ^ ((k : Int)).toNat - 1 = ((2 ^ k - 1 : Nat) : Int) := by
    rcases (show k = 1 ∨ k = 2 ∨ k = 3 ∨ k = 4 by lia) with rfl | rfl | rfl | rfl <;> decide
  rw [hp]
  have h0 : 0 < 2 ^ k - 1 := by
    rcases (show k = 1 ∨ k = 2 ∨ k = 3 ∨ k = 4 by lia) with rfl | rfl | rfl | rfl <;> decide
  generalize 2 ^ k - 1 = n at *
  have a1 := Int.fmod_nonneg_of_pos (cs.getD k 0 + offs.getD k 0) (b := (n : Int)) (by lia)
  have a2 := Int.fmod_lt_of_pos (cs.getD k 0 + offs.getD k 0) (b := (n : Int)) (by lia)
  generalize (cs.getD k 0 + offs.getD k 0).fmod (n : Int) = z at *
  exact ⟨(1 + z).toNat, by lia, by lia, by grind⟩
theorem waits_ph {t : Nat} (ht : t < 5) (cs : List Int) : ∃ m2 m3 m4 : Nat, (1 ≤ m2 ∧ m2 ≤ 3) ∧ (1 ≤ m3 ∧ m3 ≤ 7) ∧ (1 ≤ m4 ∧ m4 ≤ 15) ∧ ∀ a ∈ names0, waitsF (names0.map (ph (rot t))) cs (ph (rot t) a) = (fL m2 m3 m4 a).map (ph (rot t)) := by
  obtain ⟨m1, e1, b1, c1⟩ := mask_of cs 1 (by decide) (by decide)
  obtain ⟨m2, e2, b2, c2⟩ := mask_of cs 2 (by decide) (by decide)
  obtain ⟨m3, e3, b3, c3⟩ := mask_of cs 3 (by decide) (by decide)
  obtain ⟨m4, e4, b4, c4⟩ := mask_of cs 4 (by decide) (by decide)
  obtain rfl : m1 = 1 := by lia
  refine ⟨m2, m3, m4, ⟨b2, c2⟩, ⟨b3, c3⟩, ⟨b4, c4⟩, fun a ha => ?_⟩
  have hn := (names_ok (turn := (t : Int)) (by exact Int.natCast_nonneg _) (by lia)).2.2.1
  rw [names_ph ht] at hn
  have w : ∀ j, j < 5 → ((names0.map (ph (rot t))).idxOf (ph (rot t) [97 + j])) = j := fun j hj => by
    have := hn j hj
    rw [getD_names _ hj] at this
    exact this
  have w0 := w 0 (by decide)
  have w1 := w 1 (by decide)
  have w2 := w 2 (by decide)
  have w3 := w 3 (by decide)
  have w4 := w 4 (by decide)
  unfold waitsF
  simp only [names0, List.mem_cons, List.not_mem_nil, or_false] at ha
  rcases ha with rfl | rfl | rfl | rfl | rfl
  · rw [w0]; rfl
  · rw [w1, if_neg (by decide), e1, wait_ph _ (by decide) (by decide)]; rfl
  · rw [w2, if_neg (by decide), e2, wait_ph _ (by exact Nat.lt_of_le_of_lt (by assumption) (by decide)) (by decide)]; rfl
  · rw [w3, if_neg (by decide), e3, wait_ph _ (by exact Nat.lt_of_le_of_lt (by assumption) (by decide)) (by decide)]; rfl
  · rw [w4, if_neg (by decide), e4, wait_ph _ (by exact Nat.lt_succ_of_le (by assumption)) (by decide)]; rfl
theorem okT_ph {q : List Nat} (t : Nat) (h : okT q = true) : TxtOk (ph (rot t) q) := by
  unfold okT at h
  rw [Bool.and_eq_true, List.all_eq_true] at h
  refine ⟨fun c hc => ?_, ?_⟩
  · have hc : c ∈ q.map (rot t) := hc
    obtain ⟨d, hd, rfl⟩ := List.mem_map.mp hc
    have := h.1 d hd
    rw [Bool.or_eq_true, Nat.beq_eq] at this
    rcases this with rfl | h2
    · exact .inl rfl
    · right
      unfold lettr at h2 ⊢
      simp only [Bool.and_eq_true, decide_eq_true_eq] at h2 ⊢
      unfold rot
      rw [if_pos h2]
      grind
  · rw [ph, mk_len, List.length_map]
    exact Nat.le_of_ble_eq_true h.2
theorem okP_parts {b : List Nat} (h : okP b = true) : b.length ≤ 100 ∧ ∀ p ∈ (parseL b).1.tail, p ≠ [] := by
  unfold okP at h
  rw [Bool.and_eq_true, List.all_eq_true] at h
  refine ⟨Nat.le_of_ble_eq_true h.1, fun p hp e => ?_⟩
  have := h.2 p hp
  rw [e] at this
  cases this
theorem takes_ph {g : Nat → Nat} (H : Gm g) {b : List Nat} (h : okP b = true) (n : List Nat) : takesF (ph g b) (ph g n) = takeL (parseL b) n := by
  rw [ph, ph, takes_mk, parseL_map H, takeL_map H]
  intro p hp
  rw [parseL_map H] at hp
  unfold pmap at hp
  rw [← List.map_tail] at hp
  obtain ⟨q, hq, rfl⟩ := List.mem_map.mp hp
  intro e
  exact (okP_parts h).2 q hq (List.map_eq_nil_iff.mp e)
theorem tb_maskB : ∀ (bs : List Bool) (i : Nat), tb (maskB bs) i = bs.getD i false
  | [], i => by
    have : tb 0 i = false := by
      unfold tb
      show Nat.beq (0 >>> i &&& 1) 1 = false
      rw [Nat.zero_shiftRight]; rfl
    simpa [maskB] using this
  | b :: bs, 0 => by
    unfold tb maskB
    show Nat.beq (((if b = true then 1 else 0) + 2 * maskB bs) >>> 0 &&& 1) 1 = _
    rw [Nat.shiftRight_zero, Nat.and_one_is_mod, Nat.add_mul_mod_self_left]
    cases b <;> rfl
  | b :: bs, i + 1 => by
    have ih := tb_maskB bs i
    unfold tb at ih ⊢
    have e : Nat.shiftRight (maskB (b :: bs)) (i + 1) = Nat.shiftRight (maskB bs) i := by
      show maskB (b :: bs) >>> (i + 1) = maskB bs >>> i
      have e1 : maskB (b :: bs) >>> 1 = maskB bs := by
        show ((if b = true then 1 else 0) + 2 * maskB bs) >>> 1 = maskB bs
        rw [Nat.shiftRight_eq_div_pow]
        cases b <;> simp <;> lia
      rw [Nat.add_comm i 1, Nat.shiftRight_add, e1]
    rw [e, ih]
    simp
theorem row_at (b : List Nat) {i : Nat} (hi : i < 17) : tb (rowM b) i = takeL (parseL b) (nms.getD i []) := by
  unfold rowM rowOf
  rw [tb_maskB]
  have : i < nms.length := hi
  simp [List.getD, List.getElem?_map, List.getElem?_eq_getElem this]
theorem idx_at {w : List Nat} (h : idxN w < 17) : nms.getD (idxN w) [] = w := by
  unfold idxN at h ⊢
  have hl : nms.findIdx (fun n => n == w) < nms.length := h
  have := List.findIdx_getElem (w := hl)
  simp only [List.getD, List.getElem?_eq_getElem hl, Option.getD_some]
  exact eq_of_beq this
theorem idx_mem {w : List Nat} (h : idxN w < 17) : w ∈ nms := by
  have := idx_at h
  have hl : idxN w < nms.length := h
  rw [← this]
  simp [List.getD, List.getElem?_eq_getElem hl]
theorem all_rows {b : List Nat} {goal : List (List Nat)} (h : ∀ w ∈ goal, idxN w < 17) : goal.all (takeL (parseL b)) = (goal.map idxN).all (tb (rowM b)) := by
  rw [List.all_map, Bool.eq_iff_iff, List.all_eq_true, List.all_eq_true]
  have e : ∀ w ∈ goal, tb (rowM b) (idxN w) = takeL (parseL b) w := fun w hw => by
    rw [row_at b (h w hw), idx_at (h w hw)]
  constructor
  · intro hh w hw
    show tb (rowM b) (idxN w) = true
    rw [e w hw]; exact hh w hw
  · intro hh w hw
    rw [← e w hw]; exact hh w hw
theorem pick_ph (g : Nat → Nat) (H : Gm g) (i : Nat) {k : Nat} (hk : k < 3) : pickD (ph g [97 + i]) (k : Int) = ph g (pieceQ i k) := by
  rcases (show k = 0 ∨ k = 1 ∨ k = 2 by lia) with rfl | rfl | rfl
  · rfl
  · rfl
  · show ("*" : Str) ++ ph g [97 + i] = ph g [42, 97 + i]
    rw [show ("*" : Str) = mk [42] from rfl, ph, app_mk, ph, List.map_cons, List.map_cons, H.fix 42 (by decide)]
    rfl
theorem zip_ph (g : Nat → Nat) (H : Gm g) : ∀ (ks : List Nat) (i : Nat), (∀ k ∈ ks, k < 3) → List.zipWith pickD ((List.range' i ks.length).map fun j => ph g [97 + j]) (ks.map fun k : Nat => (k : Int)) = (List.zipWith (fun j k => (pieceQ j k).map g) (List.range' i ks.length) ks).map mk
  | [], _, _ => rfl
  | k :: ks, i, h => by
    rw [List.length_cons, List.range'_succ, List.map_cons, List.map_cons, List.zipWith_cons_cons, List.zipWith_cons_cons, List.map_cons, pick_ph g H i (h k (.head _)), zip_ph g H ks (i + 1) fun j hj => h j (.tail _ hj)]
theorem flat_ph (g : Nat → Nat) : ∀ (ks : List Nat) (i : Nat), (List.zipWith (fun j k => (pieceQ j k).map g) (List.range' i ks.length) ks).flatten = (qLq i ks).map g
  | [], _ => rfl
  | k :: ks, i => by
    rw [List.length_cons, List.range'_succ, List.zipWith_cons_cons, List.flatten_cons, flat_ph g ks (i + 1)]
    show _ = (pieceQ i k ++ qLq (i + 1) ks).map g
    rw [List.map_append]
theorem drawn_ph {g : Nat → Nat} (H : Gm g) (row : List Int) (c : Int) : ∃ ks ∈ allK 5, drawnOne (names0.map (ph g)) row c = ph g (qL ks) := by
  obtain ⟨ks, hl, hk, he⟩ : ∃ ks : List Nat, ks.length = 5 ∧ (∀ k ∈ ks, k < 3) ∧ kindsD row c = ks.map fun k : Nat => (k : Int) := by
    refine ⟨(kindsD row c).map Int.toNat, by simp [kindsD], fun k hk => ?_, ?_⟩
    · obtain ⟨z, hz, rfl⟩ := List.mem_map.mp hk
      obtain ⟨i, _, rfl⟩ := List.mem_map.mp hz
      rcases kindOf_lt c (row.getD i 0) i with e | e | e <;> rw [e] <;> decide
    · rw [List.map_map]
      refine (List.map_id' _).symm.trans (List.map_congr_left fun z hz => ?_)
      obtain ⟨i, _, rfl⟩ := List.mem_map.mp hz
      rcases kindOf_lt c (row.getD i 0) i with e | e | e <;> rw [e] <;> rfl
  have hm := mem_allK ks hk
  rw [hl] at hm
  refine ⟨ks, hm, ?_⟩
  unfold drawnOne qL
  dsimp only
  have hn : names0.map (ph g) = (List.range' 0 ks.length).map fun j => ph g [97 + j] := by
    rw [hl]; rfl
  rw [he, hn, zip_ph g H ks 0 hk, join_mk, flat_ph]
  have e4 : (ks.map fun k : Nat => (k : Int)).getD 4 0 = ((ks.getD 4 0 : Nat) : Int) := by
    simp only [List.getD, List.getElem?_map]
    cases ks[4]? <;> rfl
  rw [e4]
  by_cases h0 : ks.getD 4 0 = 0
  · rw [if_pos h0, if_pos (by lia), show ("*" : Str) = mk [42] from rfl, app_mk, ph, List.map_append, List.map_cons, H.fix 42 (by decide)]
    rfl
  · rw [if_neg h0, if_neg (by lia)]
theorem idxOf_ph {g : Nat → Nat} (H : Gm g) (names : List (List Nat)) (a : List Nat) : (names.map (ph g)).idxOf (ph g a) = names.idxOf a := by
  unfold List.idxOf
  rw [List.findIdx_map]
  congr 1
  funext x
  exact (ph_hm H).beq x a
/-- the facts at a web, from the tables -/
theorem web_facts {t : Nat} {m2 m3 m4 : Nat} {F : Str → List Str} {qs : List Str} (hw : webAll m2 m3 m4 = true) (hF : ∀ a ∈ names0, F (ph (rot t) a) = (fL m2 m3 m4 a).map (ph (rot t))) (hq : ∀ q ∈ qs, ∃ ks ∈ allK 5, q = ph (rot t) (qL ks)) :
    Facts (names0.map (ph (rot t))) F qs := by
  have H := rot_gm t
  unfold webAll at hw
  simp only [Bool.and_eq_true] at hw
  obtain ⟨⟨⟨⟨⟨⟨⟨⟨h1, h2⟩, h3⟩, h4⟩, h5⟩, h6⟩, h7⟩, h8⟩, h9⟩ := hw
  unfold webR at h1
  unfold webD at h2
  simp only [Bool.and_eq_true] at h2
  obtain ⟨⟨h2a, h2b⟩, h2c⟩ := h2
  have due : ∀ a ∈ names0, dueL names0 (fL m2 m3 m4) a ≠ [] ∧ (dueL names0 (fL m2 m3 m4) a).length ≤ 60 ∧ (dueL names0 (fL m2 m3 m4) a).getD 0 [] ≠ [] ∧ ∀ m ∈ marksL ((dueL names0 (fL m2 m3 m4) a).getD 0 []), m ≠ [] := fun a ha => by
    have := List.all_eq_true.mp h2a a ha
    cases hd : dueL names0 (fL m2 m3 m4) a with
    | nil => rw [hd] at this; cases this
    | cons d ds =>
      rw [hd] at this
      simp only [Bool.and_eq_true, List.all_eq_true] at this
      obtain ⟨⟨e1, e2⟩, e3⟩ := this
      refine ⟨by simp, Nat.le_of_ble_eq_true e1, ?_, fun m hm e => ?_⟩
      · show d ≠ []
        rintro rfl
        cases e2
      · have := e3 m hm
        rw [e] at this
        cases this
  have m5 : [101] ∈ names0 := by decide
  have g4 : (names0.map (ph (rot t))).getD 4 ⟨#[]⟩ = ph (rot t) [101] := getD_names (rot t) (j := 4) (by decide)
  obtain ⟨d1, d2, d3, d4⟩ := due [101] m5
  have dm := dueL_map H hF
  have hsh : ∀ a ∈ names0, sharedF (dueF (names0.map (ph (rot t))) F (ph (rot t) a)) = (sharedL (dueL names0 (fL m2 m3 m4) a)).map (ph (rot t)) := fun a ha => by
    rw [dm a, sharedL_map H _ (due a ha).2.2.1 (due a ha).2.2.2]
  have hgi : ∀ w ∈ dueL names0 (fL m2 m3 m4) [101], idxN w < 17 := fun w hw => Nat.le_of_ble_eq_true (List.all_eq_true.mp h3 (idxN w) (List.mem_map.mpr ⟨w, hw, rfl⟩))
  have hpi : idxN (patL (sharedL (dueL names0 (fL m2 m3 m4) [101]))) < 17 := Nat.le_of_ble_eq_true h4
  have hgI : goalI m2 m3 m4 = (dueL names0 (fL m2 m3 m4) [101]).map idxN := rfl
  have hpI : patI m2 m3 m4 = idxN (patL (sharedL (dueL names0 (fL m2 m3 m4) [101]))) := rfl
  rw [hgI, hpI] at h8 h9
  have hs5 := hsh [101] m5
  have dm5 := dm [101]
  have hpat : patF (sharedF (dueF (names0.map (ph (rot t))) F (ph (rot t) [101]))) = ph (rot t) (patL (sharedL (dueL names0 (fL m2 m3 m4) [101]))) := by
    rw [hs5]
    have : (sharedL (dueL names0 (fL m2 m3 m4) [101])).map (ph (rot t)) = ((sharedL (dueL names0 (fL m2 m3 m4) [101])).map (List.map (rot t))).map mk := by rw [List.map_map]; rfl
    rw [this, pat_mk, patL_map H]
  have wm := waysL_map H hF
  have ways1 : (waysF (names0.map (ph (rot t))) F).length ≤ 1000 ∧ ∀ y ∈ waysF (names0.map (ph (rot t))) F, 0 < y.length ∧ y.length ≤ 100 := by
    rw [wm]
    refine ⟨by rw [List.length_map]; exact Nat.le_of_ble_eq_true h2b, fun y hy => ?_⟩
    obtain ⟨w, hw, rfl⟩ := List.mem_map.mp hy
    have := List.all_eq_true.mp h2c w hw
    rw [Bool.and_eq_true] at this
    rw [ph, mk_len, List.length_map]
    refine ⟨List.length_pos_iff.mpr fun e => ?_, Nat.le_of_ble_eq_true this.2⟩
    rw [e] at this
    cases this.1
  have run1 : ∃ (recs : List (Str × List Str × List Str)) (rk : Str → Nat), runF Str.length rk (names0.map (ph (rot t))) F = some recs ∧ ∀ x ∈ names0.map (ph (rot t)), ∃ r, lookR recs x = some r ∧ r.2.Perm (dueF (names0.map (ph (rot t))) F x) ∧ r.1 = sharedF (dueF (names0.map (ph (rot t))) F x) := by
    cases hr : runF List.length (fun a => names0.idxOf a) names0 (fL m2 m3 m4) with
    | none => rw [hr] at h1; cases h1
    | some recs =>
      rw [hr] at h1
      dsimp only at h1
      have e := runF_map (ph_hm H) (rk := fun a => names0.idxOf a) (rk' := fun s => (names0.map (ph (rot t))).idxOf s) hF fun a => idxOf_ph H names0 a
      rw [hr] at e
      refine ⟨_, _, e, fun x hx => ?_⟩
      obtain ⟨a, ha, rfl⟩ := List.mem_map.mp hx
      have := List.all_eq_true.mp h1 a ha
      cases hl : lookR recs a with
      | none => rw [hl] at this; cases this
      | some r =>
        rw [hl] at this
        dsimp only at this
        rw [Bool.and_eq_true, beq_iff_eq] at this
        refine ⟨rmap (ph (rot t)) r, by rw [lookR_map (ph_hm H), hl]; rfl, ?_, ?_⟩
        · rw [dm a]
          exact (List.isPerm_iff.mp this.1).map _
        · rw [hsh a ha, ← this.2]
          rfl
  have hok := List.all_eq_true.mp okN _ (idx_mem hpi)
  have hrep := List.all_eq_true.mp okR _ (idx_mem hpi)
  generalize hP : patL (sharedL (dueL names0 (fL m2 m3 m4) [101])) = P at *
  simp only [Bool.and_eq_true] at hok
  obtain ⟨⟨⟨k1, k2⟩, k3⟩, k4⟩ := hok
  have rowP : ∀ (f : List Nat → List Nat), (nms.map fun p => rowM (f p)) = rowsT → rowsT.getD (idxN P) 0 = rowM (f P) := fun f hf => by
    rw [← hf]
    have hl : idxN P < nms.length := hpi
    have := idx_at hpi
    simp only [List.getD, List.getElem?_eq_getElem hl, Option.getD_some] at this
    simp only [List.getD, List.getElem?_map, List.getElem?_eq_getElem hl, Option.map_some, Option.getD_some, this]
  have gall : ∀ b, okP b = true → (dueF (names0.map (ph (rot t))) F (ph (rot t) [101])).all (takesF (ph (rot t) b)) = ((dueL names0 (fL m2 m3 m4) [101]).map idxN).all (tb (rowM b)) := fun b hb => by
    rw [← all_rows hgi, dm5, List.all_map]
    exact congrArg (List.all (dueL names0 (fL m2 m3 m4) [101])) (funext fun w => takes_ph H hb w)
  refine ⟨run1, fun x hx => ?_, ways1, ?_, ?_, ?_, ?_, ?_, ?_⟩
  · obtain ⟨a, ha, rfl⟩ := List.mem_map.mp hx
    rw [dm a, List.length_map]
    exact ⟨fun e => (due a ha).1 (List.map_eq_nil_iff.mp e), (due a ha).2.1⟩
  · rw [g4, hs5]
    refine ⟨fun e => ?_, by rw [List.length_map]; exact Nat.le_of_ble_eq_true h7, fun x hx => ?_⟩
    · rw [List.map_eq_nil_iff.mp e] at h6
      cases h6
    · obtain ⟨w, hw, rfl⟩ := List.mem_map.mp hx
      rw [ph, mk_len, List.length_map]
      exact Nat.le_of_ble_eq_true (List.all_eq_true.mp h5 w hw)
  · rw [g4, hpat]
    exact okT_ph t k1
  · rw [g4, hpat, show ("*" : Str) = mk [42] from rfl, ph, split_mk _ _ (by decide), splitL_map H _ 42 (by decide)]
    unfold okS at k4
    simp only [Bool.and_eq_true] at k4
    obtain ⟨⟨s1, s2⟩, s3⟩ := k4
    rw [List.length_map, List.length_map]
    refine ⟨fun p hp => ?_, Nat.le_of_ble_eq_true s2, Nat.le_of_ble_eq_true s3⟩
    obtain ⟨p1, hp1, rfl⟩ := List.mem_map.mp hp
    obtain ⟨p2, hp2, rfl⟩ := List.mem_map.mp hp1
    have := List.all_eq_true.mp s1 p2 hp2
    rw [Bool.and_eq_true] at this
    refine ⟨?_, by rw [mk_len, List.length_map]; exact Nat.le_of_ble_eq_true this.2⟩
    show (p2.map (rot t)).all lettr = true
    rw [List.all_map]
    refine List.all_eq_true.mpr fun c hc => ?_
    have hc := List.all_eq_true.mp this.1 c hc
    show lettr (rot t c) = true
    unfold lettr at hc ⊢
    simp only [Bool.and_eq_true, decide_eq_true_eq] at hc ⊢
    unfold rot
    rw [if_pos hc]
    lia
  · have e : tpF (ph (rot t) P) = ph (rot t) (tpL P) := by rw [ph, tp_mk, tpL_map H]
    rw [g4, hpat, e]
    refine ⟨by rw [ph, mk_len, List.length_map]; exact (okP_parts k3).1, ?_⟩
    rw [gall _ k3, ← rowP tpL rowsT_ok]
    exact h9
  · have e : bodyF (ph (rot t) P) = ph (rot t) (bodyL P) := by rw [ph, body_mk, bodyL_map H]
    rw [g4, hpat, e]
    refine ⟨by rw [ph, mk_len, List.length_map]; exact (okP_parts k2).1, ?_⟩
    rw [gall _ k2, ← rowP bodyL rowsB_ok]
    exact h9
  · rw [g4, hpat]
    intro q hq'
    have hk : ∃ ks ∈ allK 5, q = ph (rot t) (qL ks) := by
      rcases List.mem_append.mp hq' with hq' | hq'
      · exact hq q hq'
      · rw [List.mem_singleton] at hq'
        obtain ⟨ks, hks, e⟩ := List.any_eq_true.mp hrep
        refine ⟨ks, hks, ?_⟩
        rw [hq', eq_of_beq e, show ("*" : Str) = mk [42] from rfl, show ("" : Str) = mk [] from rfl, ph, repl_mk _ _ _ (by decide)]
        have := replL_map H P [42] []
        rw [List.map_cons, H.fix 42 (by decide)] at this
        exact congrArg mk this
    obtain ⟨ks, hks, rfl⟩ := hk
    have hokq := List.all_eq_true.mp okQ ks hks
    rw [Bool.and_eq_true] at hokq
    have e : bodyF (ph (rot t) (qL ks)) = ph (rot t) (bodyL (qL ks)) := by rw [ph, body_mk, bodyL_map H]
    refine ⟨okT_ph t hokq.1, ?_, ?_⟩
    · rw [e, ph, mk_len, List.length_map]
      exact (okP_parts hokq.2).1
    · rw [e, gall _ hokq.2, takes_ph H hokq.2 P]
      have hrow : rowM (bodyL (qL ks)) ∈ rowsQ := by
        rw [← rowsQ_ok]
        exact List.mem_map.mpr ⟨ks, hks, rfl⟩
      obtain ⟨r, hr, er⟩ := List.any_eq_true.mp (List.all_eq_true.mp rowsQ_18 _ hrow)
      have er : rowM (bodyL (qL ks)) = r := Nat.eq_of_beq_eq_true er
      have h18 := List.all_eq_true.mp h8 r hr
      rw [beq_iff_eq] at h18
      rw [er, h18, ← er, row_at _ hpi, idx_at hpi]
theorem plain_law : PlainLaw := by
  intro cs hcs
  obtain ⟨t, ht, he⟩ : ∃ t : Nat, t < 5 ∧ (cs.getD 0 0).fmod 5 = (t : Int) := by
    have a1 := Int.fmod_nonneg_of_pos (cs.getD 0 0) (b := 5) (by decide)
    have a2 := Int.fmod_lt_of_pos (cs.getD 0 0) (b := 5) (by decide)
    exact ⟨((cs.getD 0 0).fmod 5).toNat, by lia, by lia⟩
  rw [he, names_ph ht]
  obtain ⟨m2, m3, m4, h2, h3, h4, hF⟩ := waits_ph ht cs
  refine web_facts (web_all h2 h3 h4) hF fun q hq => ?_
  unfold drawnF at hq
  have zm : ∀ (rs : List (List Int)) (cs : List Int), q ∈ List.zipWith (drawnOne (names0.map (ph (rot t)))) rs cs → ∃ row c, q = drawnOne (names0.map (ph (rot t))) row c := by
    intro rs
    induction rs with
    | nil => intro cs h; simp at h
    | cons r rs ih =>
      intro cs h
      cases cs with
      | nil => simp at h
      | cons c cs =>
        rw [List.zipWith_cons_cons] at h
        rcases List.mem_cons.mp h with h | h
        · exact ⟨r, c, h⟩
        · exact ih cs h
  obtain ⟨row, c, rfl⟩ := zm _ _ hq
  exact drawn_ph (rot_gm t) row c
end
end Mine
end

section
open PySem PySem.W PyProof.Rows PySem.Calls
set_option maxRecDepth 100000
set_option maxHeartbeats 4000000
set_option linter.unusedVariables false
namespace Mine
theorem law_top {w : World} {h₀ : Heap} {qual : Str} {scope : Scope} {body : List Stmt} {L f : Addr} {cd : Value} {binds : List (Str × Value)} {cells : List (Addr × Obj)} {s : Shared} {a : Addr} {vs : List Value} {ns : List Int} {Q : Flow → Shared → Prop} {E : Value → Shared → Prop}
    {p : Program} {loose : List Str} {mean : ExcName → Option Value} {mg mb : Str → Option Value}
    (hlaw : LawG w qual body scope) (X : (KB w.params).In h₀) (T : Top p loose mean mg mb h₀) (K : Below callerA h₀ [] h₀) (F : Fr h₀ L s.heap (bindL (envOfC qual scope L f cd).kindOf binds fun _ => none)) (N : News h₀ L s.heap (cells ++ [(120, tabObj #[])]))
    (Y : CellsAre (bindC (envOfC qual scope L f cd).kindOf binds fun _ => none) (cellsFrom (L + 1) scope.names []) cells) (hnl : ((cellsFrom (L + 1) scope.names []).all fun p => scope.names.lookup p.1 == some .cell) = true) (hnd : ((cells ++ [((120 : Addr), tabObj #[])]).map (·.1)).Nodup)
    (hb : binds.reverse.lookup ("script" : Str) = some (Value.ref a)) (hl : h₀.IsList a vs.toArray) (hI : IntsAre vs ns) (hz : vs.length ≤ 63) (hk : scope.kind = .function)
    (hQ : ∀ h' tk, (∀ b o, h₀.get? b = some o → h'.get? b = some o) → h'.get? 120 = some (tabObj #[]) → Q (.ret (.bool true)) { s with heap := h', toks := tk }) :
    wpAny (model PP w) (callerA.deeper (envOfC qual scope L f cd)) (execs body (envOfC qual scope L f cd)) Q E s := by
  have FF := top_fs F N Y hnl hnd
  have B : BelK w loose mean mg mb (ar (1 + claimMargin) 4 (some []) []) h₀ [] h₀ := ⟨K, X, ⟨T.g, T.b, T.nolimit, T.builtins⟩⟩
  have O : Ok w loose mean mg mb 6 (callerA.deeper (envOfC qual scope L f cd)) (envOfC qual scope L f cd) h₀ :=
    ⟨X, ⟨T.g, T.b, T.nolimit, T.builtins⟩, rfl, bel_of B F.above rfl hk, (by decide : 1 + claimMargin + 1 + 6 < recursionLimit), (by decide : 4 + 3 + 8 * 6 < cLine), hk, rfl, rfl⟩
  obtain ⟨o, e1, e2, n, e3⟩ := hl
  have cellN : ∀ x c, (envOfC qual scope L f cd).cells.lookup x = some c → h₀.get? c = none := fun x c hc => by
    obtain ⟨o, h1, _⟩ := cells_at Y (mem_of_lookup hc)
    exact (N _ (List.mem_append_left _ h1)).2.2
  refine wpAny_mono (hlaw loose mean mg mb L f cd _ h₀ _ s a o vs ns O rfl cellN FF hb e1 ⟨e2, n, e3⟩ hI hz) (fun fl s' q => ?_) fun _ _ x => x.elim
  obtain ⟨h₁, ρ', σ', h', tk, rfl, TT, F', rfl, hm⟩ := q
  refine hQ h' tk (fun b o e => F'.keep _ _ (TT.other b o e fun hb => ?_)) (F'.get hm)
  have hb : b ∈ [L] := hb
  rw [List.mem_singleton] at hb
  have off : h₀.get? L = none := FF.off
  rw [hb, off] at e
  cases e
end Mine
end

open PySem.Calls
set_option maxRecDepth 100000 in
set_option maxHeartbeats 8000000 in
theorem PySem.Challenge.cw_in0296_01_holds : PySem.Challenge.rw_in0296_01.Holds := by
  w_on
  refine holds_law Mine.said fun said => ?_
  refine holds_open (q := Mine.vw) (loose := Mine.looseN) (Xt := fun s => xlAt Mine.vw [] s && recOk [] s) (XP := XL Mine.vw []) (Yf := Hook.obs Mine.hookK) (Ya := Hook.val Mine.hookK) (YP := Hook.says Mine.hookK) (N := 6632) Mine.left (Hook.of Mine.hookK) (Hook.keeps Mine.hookK) (fun s e => xl_of s (Bool.and_eq_true_iff.mp e).1) XL.keeps (by rfl) (by rfl) (by rfl) (fun s e => recFacts_of (Bool.and_eq_true_iff.mp e).2) (by rfl) said Mine.fin1 ⟨rfl, rfl, rfl, rfl, rfl, Mine.fin2⟩ ?hw ?hc
  case hw => w_witness2
  w_strict (k_go0; (all_goals try k_fold))
  rename Fr _ _ _ _ => F'
  rename News _ _ _ _ => N'
  rename CellsAre _ _ _ => Y'
  rename Below _ _ _ _ => K'
  rename IntsAre _ _ => I'
  rename Top topProg _ _ _ _ _ => T'
  rename Frag.In _ _ => X'
  refine Mine.law_top (Mine.law_walk Mine.plain_law (by k_is)) X' T' K' F' (cells := [_, _, _, _, _]) N' Y' ?_ ?_ ?_ lifted I' ?_ rfl ?_
  · with_unfolding_all rfl
  · rename 120 < _ => l0
    have e : ∀ L : Nat, 120 < L → ([L + 1 + 1 + 1 + 1 + 1, L + 1 + 1 + 1 + 1, L + 1 + 1 + 1, L + 1 + 1, L + 1, 120] : List Nat).Nodup := fun L hL => by
      simp only [List.nodup_cons, List.mem_cons, List.not_mem_nil, or_false, not_or, List.nodup_nil, and_true, not_false_iff]
      refine ⟨⟨?_, ?_, ?_, ?_, ?_⟩, ⟨?_, ?_, ?_, ?_⟩, ⟨?_, ?_, ?_⟩, ⟨?_, ?_⟩, ?_⟩ <;> omega
    exact e _ l0
  · with_unfolding_all rfl
  · rename ¬ _ < _ => hc
    have hl := I'.length
    omega
  · rename _ = #[] => hg
    intro h' tk hkeep h120
    refine ⟨⟨.inl ⟨.bool true, .bool true, [], rfl, fun _ => rfl, .bool _, ?_, fun _ => ⟨.nil, fun a ha => nomatch ha⟩⟩, hkeep, rfl, hg⟩, ⟨_, h120⟩, trivial⟩
    generalize [ofPy (PyData.list (List.map PyData.int _))] = D
    with_unfolding_all rfl
