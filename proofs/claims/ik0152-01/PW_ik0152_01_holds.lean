import PyProof.Rows.All
import Wide.All
import OpenK.AllK
import Wide.FinOn
import PySem.Challenge.RW_ik0152_01
open PySem PySem.W PySem.Spec PySem.Calls PyProof.Rows
set_option Elab.async false
set_option compiler.extract_closed false
set_option linter.all false
set_option maxRecDepth 100000
set_option maxHeartbeats 0
namespace Mine
abbrev pw : Program := PySem.Challenge.pw_ik0152_01
noncomputable def stm (n : Nat) : Stmt := match pw.main.body[n]? with | some s => s | none => .Pass ⟨0, 0, 0, 0⟩
noncomputable def mth (n k : Nat) : Stmt := match stm n with | .ClassDef _ _ _ b .. => (match b[k]? with | some s => s | none => .Pass ⟨0, 0, 0, 0⟩) | s => s
abbrev vs (s : String) (t : Nat) : Value := .str (Str.ofString s) t
abbrev en (P : Params) (k : String) (t : Nat) (v : Value) : DictEntry := ⟨PyData.keyHash P (Str.ofString k), .str (Str.ofString k) t, v⟩
noncomputable def fnO (s : Stmt) (q : String) (df md : Value) (cd : Nat) : Obj := match s with
  | .FunctionDef n a b _ _ _ sc .. => { cls := .type "function", data := .func { name := n, qualname := q, params := a, body := .stmts b, scope := sc, globals := 3, closure := [], defaults := df, kwdefaults := .none, pyModule := md, code := .ref cd } }
  | _ => { cls := .none }
noncomputable def cdO (n : String) (t1 : Nat) (q : String) (t2 t3 l1 n1 f1 r1 r2 r3 r4 r5 k l2 t4 : Nat) : Obj :=
  { cls := .type "code", data := .fields [vs n t1, vs q t2, vs "/claim/cut.py" t3, .int l1 0, .int n1 0, .int 0 0, .int 0 0, .int f1 0, .ref r1, .bool true, .int 181 0, .ref r2, .none, .ref r3, .ref r4, .ref r5, .int k 0, .int l2 0, vs "/claim/cut.py" t4].toArray }
/-- the part of the heap behind the top that the walk reads -/
noncomputable def KK : Params → Frag := fun P =>
  (nat_lit 3, { cls := (.type "dict"), data := (.dict [en P "__name__" 165 (vs "law_ik0152_01" 651), en P "__doc__" 166 .none, en P "__package__" 167 .none, en P "__loader__" 168 (.builtin "__main__.__loader__#opaque"), en P "__spec__" 169 .none, en P "__annotations__" 170 (.ref 6), en P "__builtins__" 171 (.ref 4), en P "__file__" 173 (vs "/claim/cut.py" 172), en P "__cached__" 174 .none, en P "_wall" 193 (.ref 21), en P "_NODE_OUT" 198 (.int (-1) 197), en P "_NODE_DONE" 201 (.int (-2) 200), en P "_NodeInfo" 238 (.ref 40), en P "CycleError" 256 (.ref 55), en P "TopologicalSorter" 375 (.ref 137), en P "sep" 379 (vs "/" 378), en P "_plain_name" 388 (.ref 148), en P "ABCMeta" 414 (.ref 165), en P "_ABCLike" 457 (.ref 198), en P "_abc_plain_meta" 464 (.ref 207), en P "fspath" 476 (.ref 214), en P "_check_arg_types" 489 (.ref 221), en P "_get_sep" 498 (.ref 228), en P "join" 509 (.ref 235), en P "splitroot" 518 (.ref 242), en P "dirname" 528 (.ref 249), en P "normpath" 543 (.ref 298), en P "normpath_posixpath" 544 (.ref 256), en P "_kind" 555 (.ref 263), en P "_c_path" 568 (.ref 270), en P "_shelf_fresh" 575 (.ref 277), en P "_splitroot" 584 (.ref 284), en P "_normpath" 599 (.ref 291), en P "normpath_path" 608 (.ref 298), en P "_Ignore" 650 (.ref 321), en P "_law_sorted" 668 (.ref 332), en P "_law_answers" 674 (.ref 337), en P "_law_goal" 684 (.ref 344), en P "_law_rounds" 690 (.ref 349), en P "law" 696 (.ref 354)].toArray 40) }) ::
  (nat_lit 29, { cls := (.type "tuple"), data := (.seq [(vs "node" 214), (vs "npredecessors" 215), (vs "successors" 216)].toArray 0) }) ::
  (nat_lit 35, cdO "__init__" 218 "_NodeInfo.__init__" 219 220 10 2 3 30 31 32 33 34 223 10 224) ::
  (nat_lit 36, fnO (mth 4 1) "_NodeInfo.__init__" .none (vs "cpy313.graphlib" 194) 35) ::
  (nat_lit 39, { cls := (.type "dict"), data := (.dict [en P "__module__" 209 (vs "cpy313.graphlib" 194), en P "__firstlineno__" 213 (.int 7 212), en P "__slots__" 217 (.ref 29), en P "__init__" 225 (.ref 36), en P "__static_attributes__" 229 (.ref 37), en P "node" 231 (.ref 41), en P "npredecessors" 233 (.ref 42), en P "successors" 235 (.ref 43), en P "__doc__" 236 .none].toArray 5) }) ::
  (nat_lit 40, { cls := (.type "type"), data := .cls { name := "_NodeInfo", bases := [(.type "object")], mro := [(.ref 40), (.type "object")], ns := 39, qualname := "_NodeInfo", hasDict := false, slotNames := ["node", "npredecessors", "successors"] }, slots := [none, none, (some (vs "_NodeInfo" 202)), (some (vs "_NodeInfo" 210)), (some (.builtin "object.__new__")), (some (.bool false))].toArray }) ::
  (nat_lit 41, { cls := (.type "member_descriptor"), data := (.fields [(vs "node" 230), (.ref 40), (.builtin "proto.slot"), (.builtin "proto.slot#set"), (.int 2 0)].toArray) }) ::
  (nat_lit 42, { cls := (.type "member_descriptor"), data := (.fields [(vs "npredecessors" 232), (.ref 40), (.builtin "proto.slot"), (.builtin "proto.slot#set"), (.int 1 0)].toArray) }) ::
  (nat_lit 43, { cls := (.type "member_descriptor"), data := (.fields [(vs "successors" 234), (.ref 40), (.builtin "proto.slot"), (.builtin "proto.slot#set"), (.int 0 0)].toArray) }) ::
  (nat_lit 54, { cls := (.type "dict"), data := (.dict [en P "__module__" 246 (vs "cpy313.graphlib" 194), en P "__firstlineno__" 250 (.int 14 249), en P "__static_attributes__" 251 (.ref 53), en P "__weakref__" 253 (.ref 56), en P "__doc__" 254 .none].toArray 3) }) ::
  (nat_lit 55, { cls := (.type "type"), data := .cls { name := "CycleError", bases := [(.type "ValueError")], mro := [(.ref 55), (.type "ValueError"), (.type "Exception"), (.type "BaseException"), (.type "object")], ns := 54, qualname := "CycleError", hasDict := true, slotNames := [] }, slots := [(some (.ref 46)), none, (some (vs "CycleError" 239)), (some (vs "CycleError" 247)), (some (.builtin "ValueError.__new__")), (some (.bool true))].toArray }) ::
  (nat_lit 66, { cls := (.type "tuple"), data := (.seq [.none].toArray 0) }) ::
  (nat_lit 72, cdO "__init__" 269 "TopologicalSorter.__init__" 270 271 18 2 3 67 68 69 70 71 276 18 277) ::
  (nat_lit 73, fnO (mth 6 0) "TopologicalSorter.__init__" (.ref 66) (vs "cpy313.graphlib" 194) 72) ::
  (nat_lit 79, cdO "_get_nodeinfo" 279 "TopologicalSorter._get_nodeinfo" 280 281 27 2 3 74 75 76 77 78 285 27 286) ::
  (nat_lit 80, fnO (mth 6 1) "TopologicalSorter._get_nodeinfo" .none (vs "cpy313.graphlib" 194) 79) ::
  (nat_lit 86, cdO "add" 288 "TopologicalSorter.add" 289 290 32 2 7 81 82 83 84 85 297 32 298) ::
  (nat_lit 87, fnO (mth 6 2) "TopologicalSorter.add" .none (vs "cpy313.graphlib" 194) 86) ::
  (nat_lit 91, { cls := (.type "code"), data := (.fields [(vs "prepare" 300), (vs "TopologicalSorter.prepare" 301), (vs "/claim/cut.py" 302), (.int 41 0), (.int 1 0), (.int 0 0), (.int 0 0), (.int 3 0), (.ref 88), (.bool true), (.int 181 0), (.ref 89), .none, .none, .none, (.ref 90), (.int 303 0), (.int 41 0), (vs "/claim/cut.py" 304)].toArray) }) ::
  (nat_lit 92, fnO (mth 6 3) "TopologicalSorter.prepare" .none (vs "cpy313.graphlib" 194) 91) ::
  (nat_lit 98, cdO "get_ready" 306 "TopologicalSorter.get_ready" 307 308 49 1 3 93 94 95 96 97 313 49 314) ::
  (nat_lit 99, fnO (mth 6 4) "TopologicalSorter.get_ready" .none (vs "cpy313.graphlib" 194) 98) ::
  (nat_lit 105, cdO "is_active" 316 "TopologicalSorter.is_active" 317 318 60 1 3 100 101 102 103 104 320 60 321) ::
  (nat_lit 106, fnO (mth 6 5) "TopologicalSorter.is_active" .none (vs "cpy313.graphlib" 194) 105) ::
  (nat_lit 119, cdO "done" 330 "TopologicalSorter.done" 331 332 68 1 7 114 115 116 117 118 341 68 342) ::
  (nat_lit 120, fnO (mth 6 7) "TopologicalSorter.done" .none (vs "cpy313.graphlib" 194) 119) ::
  (nat_lit 126, cdO "_find_cycle" 344 "TopologicalSorter._find_cycle" 345 346 91 1 3 121 122 123 124 125 354 91 355) ::
  (nat_lit 127, fnO (mth 6 8) "TopologicalSorter._find_cycle" .none (vs "cpy313.graphlib" 194) 126) ::
  (nat_lit 136, { cls := (.type "dict"), data := (.dict [en P "__module__" 264 (vs "cpy313.graphlib" 194), en P "__firstlineno__" 268 (.int 16 267), en P "__init__" 278 (.ref 73), en P "_get_nodeinfo" 287 (.ref 80), en P "add" 299 (.ref 87), en P "prepare" 305 (.ref 92), en P "get_ready" 315 (.ref 99), en P "is_active" 322 (.ref 106), en P "__bool__" 329 (.ref 113), en P "done" 343 (.ref 120), en P "_find_cycle" 356 (.ref 127), en P "static_order" 363 (.ref 134), en P "__static_attributes__" 368 (.ref 135), en P "__dict__" 370 (.ref 138), en P "__weakref__" 372 (.ref 139), en P "__doc__" 373 .none].toArray 4) }) ::
  (nat_lit 137, { cls := (.type "type"), data := .cls { name := "TopologicalSorter", bases := [(.type "object")], mro := [(.ref 137), (.type "object")], ns := 136, qualname := "TopologicalSorter", hasDict := true, slotNames := [] }, slots := [none, none, (some (vs "TopologicalSorter" 257)), (some (vs "TopologicalSorter" 265)), (some (.builtin "object.__new__")), (some (.bool true))].toArray }) ::
  (nat_lit 138, { cls := (.type "getset_descriptor"), data := (.fields [(vs "__dict__" 369), (.ref 137), (.builtin "function.__dict__"), (.builtin "function.__dict__#set")].toArray) }) ::
  (nat_lit 139, { cls := (.type "getset_descriptor"), data := (.fields [(vs "__weakref__" 371), (.ref 137), (.builtin "ExceptionGroup.__weakref__"), .none].toArray) }) ::
  (nat_lit 213, cdO "fspath" 467 "fspath" 468 469 154 1 3 208 209 210 211 212 474 154 475) ::
  (nat_lit 214, fnO (stm 16) "fspath" .none (vs "os" 465) 213) ::
  (nat_lit 220, cdO "_check_arg_types" 479 "_check_arg_types" 480 481 171 1 7 215 216 217 218 219 487 171 488) ::
  (nat_lit 221, fnO (stm 18) "_check_arg_types" .none (vs "cpy313.genericpath" 477) 220) ::
  (nat_lit 227, cdO "_get_sep" 492 "_get_sep" 493 494 183 1 3 222 223 224 225 226 496 183 497) ::
  (nat_lit 228, fnO (stm 20) "_get_sep" .none (vs "cpy313.posixpath" 490) 227) ::
  (nat_lit 234, cdO "join" 499 "join" 500 501 188 1 7 229 230 231 232 233 507 188 508) ::
  (nat_lit 235, fnO (stm 21) "join" .none (vs "cpy313.posixpath" 490) 234) ::
  (nat_lit 241, cdO "splitroot" 510 "splitroot" 511 512 205 1 3 236 237 238 239 240 516 205 517) ::
  (nat_lit 242, fnO (stm 22) "splitroot" .none (vs "cpy313.posixpath" 490) 241) ::
  (nat_lit 248, cdO "dirname" 519 "dirname" 520 521 219 1 3 243 244 245 246 247 526 219 527) ::
  (nat_lit 249, fnO (stm 23) "dirname" .none (vs "cpy313.posixpath" 490) 248) ::
  (nat_lit 255, cdO "normpath" 529 "normpath" 530 531 227 1 3 250 251 252 253 254 541 227 542) ::
  (nat_lit 256, fnO (stm 24) "normpath" .none (vs "cpy313.posixpath" 490) 255) ::
  (nat_lit 262, cdO "_kind" 547 "_kind" 548 549 254 2 3 257 258 259 260 261 553 254 554) ::
  (nat_lit 263, fnO (stm 27) "_kind" .none (vs "os.path" 545) 262) ::
  (nat_lit 269, cdO "_c_path" 556 "_c_path" 557 558 275 5 3 264 265 266 267 268 566 275 567) ::
  (nat_lit 270, fnO (stm 28) "_c_path" .none (vs "os.path" 545) 269) ::
  (nat_lit 276, cdO "_shelf_fresh" 569 "_shelf_fresh" 570 571 286 1 3 271 272 273 274 275 573 286 574) ::
  (nat_lit 277, fnO (stm 29) "_shelf_fresh" .none (vs "os.path" 545) 276) ::
  (nat_lit 283, cdO "_splitroot" 576 "_splitroot" 577 578 288 1 3 278 279 280 281 282 582 288 583) ::
  (nat_lit 284, fnO (stm 30) "_splitroot" .none (vs "os.path" 545) 283) ::
  (nat_lit 290, cdO "_normpath" 585 "_normpath" 586 587 297 1 3 285 286 287 288 289 597 297 598) ::
  (nat_lit 291, fnO (stm 31) "_normpath" .none (vs "os.path" 545) 290) ::
  (nat_lit 297, cdO "normpath" 600 "normpath" 601 602 318 0 15 292 293 294 295 296 605 318 606) ::
  (nat_lit 298, fnO (stm 32) "normpath" .none (vs "os.path" 545) 297) ::
  (nat_lit 306, { cls := (.type "tuple"), data := (.seq [.none, .none].toArray 0) }) ::
  (nat_lit 310, { cls := (.type "code"), data := (.fields [(vs "__init__" 623), (vs "_Ignore.__init__" 624), (vs "/claim/cut.py" 625), (.int 324 0), (.int 3 0), (.int 0 0), (.int 0 0), (.int 3 0), (.ref 307), (.bool true), (.int 181 0), (.ref 308), .none, .none, .none, (.ref 309), (.int 626 0), (.int 324 0), (vs "/claim/cut.py" 627)].toArray) }) ::
  (nat_lit 311, fnO (mth 35 0) "_Ignore.__init__" (.ref 306) (vs "cpy313.trace" 609) 310) ::
  (nat_lit 317, cdO "names" 629 "_Ignore.names" 630 631 329 3 3 312 313 314 315 316 637 329 638) ::
  (nat_lit 318, fnO (mth 35 1) "_Ignore.names" .none (vs "cpy313.trace" 609) 317) ::
  (nat_lit 320, { cls := (.type "dict"), data := (.dict [en P "__module__" 618 (vs "cpy313.trace" 609), en P "__firstlineno__" 622 (.int 322 621), en P "__init__" 628 (.ref 311), en P "names" 639 (.ref 318), en P "__static_attributes__" 643 (.ref 319), en P "__dict__" 645 (.ref 322), en P "__weakref__" 647 (.ref 323), en P "__doc__" 648 .none].toArray 4) }) ::
  (nat_lit 321, { cls := (.type "type"), data := .cls { name := "_Ignore", bases := [(.type "object")], mro := [(.ref 321), (.type "object")], ns := 320, qualname := "_Ignore", hasDict := true, slotNames := [] }, slots := [none, none, (some (vs "_Ignore" 611)), (some (vs "_Ignore" 619)), (some (.builtin "object.__new__")), (some (.bool true))].toArray }) ::
  (nat_lit 322, { cls := (.type "getset_descriptor"), data := (.fields [(vs "__dict__" 644), (.ref 321), (.builtin "function.__dict__"), (.builtin "function.__dict__#set")].toArray) }) ::
  (nat_lit 323, { cls := (.type "getset_descriptor"), data := (.fields [(vs "__weakref__" 646), (.ref 321), (.builtin "ExceptionGroup.__weakref__"), .none].toArray) }) ::
  (nat_lit 331, cdO "_law_sorted" 653 "_law_sorted" 654 655 349 2 3 326 327 328 329 330 666 349 667) ::
  (nat_lit 332, fnO (stm 37) "_law_sorted" .none (vs "law_ik0152_01" 651) 331) ::
  (nat_lit 336, { cls := (.type "code"), data := (.fields [(vs "_law_answers" 669), (vs "_law_answers" 670), (vs "/claim/cut.py" 671), (.int 367 0), (.int 2 0), (.int 0 0), (.int 0 0), (.int 3 0), (.ref 333), (.bool true), (.int 181 0), (.ref 334), .none, .none, .none, (.ref 335), (.int 672 0), (.int 367 0), (vs "/claim/cut.py" 673)].toArray) }) ::
  (nat_lit 337, fnO (stm 38) "_law_answers" .none (vs "law_ik0152_01" 651) 336) ::
  (nat_lit 343, cdO "_law_goal" 675 "_law_goal" 676 677 371 2 3 338 339 340 341 342 682 371 683) ::
  (nat_lit 344, fnO (stm 39) "_law_goal" .none (vs "law_ik0152_01" 651) 343) ::
  (nat_lit 348, { cls := (.type "code"), data := (.fields [(vs "_law_rounds" 685), (vs "_law_rounds" 686), (vs "/claim/cut.py" 687), (.int 376 0), (.int 2 0), (.int 0 0), (.int 0 0), (.int 3 0), (.ref 345), (.bool true), (.int 181 0), (.ref 346), .none, .none, .none, (.ref 347), (.int 688 0), (.int 376 0), (vs "/claim/cut.py" 689)].toArray) }) ::
  (nat_lit 349, fnO (stm 40) "_law_rounds" .none (vs "law_ik0152_01" 651) 348) ::
  (nat_lit 353, { cls := (.type "code"), data := (.fields [(vs "law" 691), (vs "law" 692), (vs "/claim/cut.py" 693), (.int 383 0), (.int 1 0), (.int 0 0), (.int 0 0), (.int 3 0), (.ref 350), (.bool true), (.int 181 0), (.ref 351), .none, .none, .none, (.ref 352), (.int 694 0), (.int 383 0), (vs "/claim/cut.py" 695)].toArray) }) ::
  (nat_lit 354, fnO (stm 41) "law" .none (vs "law_ik0152_01" 651) 353) ::
  []
noncomputable def asK : List Nat := 3 :: 29 :: 35 :: 36 :: 39 :: 40 :: 41 :: 42 :: 43 :: 54 :: 55 :: 66 :: 72 :: 73 :: 79 :: 80 :: 86 :: 87 :: 91 :: 92 :: 98 :: 99 :: 105 :: 106 :: 119 :: 120 :: 126 :: 127 :: 136 :: 137 :: 138 :: 139 :: 213 :: 214 :: 220 :: 221 :: 227 :: 228 :: 234 :: 235 :: 241 :: 242 :: 248 :: 249 :: 255 :: 256 :: 262 :: 263 :: 269 :: 270 :: 276 :: 277 :: 283 :: 284 :: 290 :: 291 :: 297 :: 298 :: 306 :: 310 :: 311 :: 317 :: 318 :: 320 :: 321 :: 322 :: 323 :: 331 :: 332 :: 336 :: 337 :: 343 :: 344 :: 348 :: 349 :: 353 :: 354 :: []
noncomputable def pick (l : List Stmt) : List Nat → List Stmt
  | [] => []
  | i :: r => match l[i]? with | some s => s :: pick l r | none => pick l r
noncomputable def vw : Program := { pw with main := { pw.main with body := pick pw.main.body [0, 2, 3, 4, 5, 6, 8, 9, 11, 13, 14, 16, 18, 20, 21, 22, 23, 25, 27, 28, 29, 30, 31, 32, 33, 35, 37, 38, 39, 40, 41] } }
abbrev lsK : List Str := ["_NodeInfo", "normpath_posixpath", "normpath_path"]
noncomputable abbrev hkK : Hook := kHook KK asK (fun _ => by kernel_rfl)
noncomputable abbrev xtK : Shared → Bool := fun s => xlAt vw [] s && recOk (RowW.records PySem.Challenge.rw_ik0152_01.row.toRowW) s
theorem said : PySem.Challenge.rw_ik0152_01.wellSaid = true := by
  rw [PySem.W.Fast.te9446332074065402090]; kernel_rfl
theorem leftT (w : World) (os : OsState) : (topFrom treeTable PySem.Challenge.rw_ik0152_01.row.prog w 5234 ⟨boot_heap w.params, #[], boot_drawn, boot_toks, os⟩).map (fun s => (openSeen vw lsK (importedModules PySem.Challenge.rw_ik0152_01.row.prog.main.body) xtK true s, hkK.obs s)) = some (openGood vw lsK, hkK.val w) := by
  unfold topFrom
  rw [PySem.W.Fast.te14082659384304107361, PySem.W.Fast.te14364793385576792824, PySem.W.Fast.te4187177175401517315]
  kernel_rfl
theorem left : LeftO PySem.Challenge.rw_ik0152_01.row.prog vw lsK xtK hkK.obs hkK.val 5234 := fun w => by
  obtain ⟨⟨h, gs, d, k, os⟩, e, e'⟩ := Option.map_eq_some_iff.mp (boot_open (p := PySem.Challenge.rw_ik0152_01.row.prog) (N := 5234) (by kernel_rfl) (by decide +kernel) (fun s => by kernel_rfl) w)
  obtain ⟨rfl, rfl, rfl, rfl⟩ : h = boot_heap w.params ∧ gs = #[] ∧ d = boot_drawn ∧ k = boot_toks := by simpa using e'
  have h2 : openEnds treeTable PySem.Challenge.rw_ik0152_01.row.prog w 5234 = topFrom treeTable PySem.Challenge.rw_ik0152_01.row.prog w 5234 ⟨boot_heap w.params, #[], boot_drawn, boot_toks, os⟩ := by
    unfold openEnds
    rw [e, Option.bind_some]
  rw [h2]
  exact leftT w os
noncomputable def hdP : (P : Prop) ×' (P → PySem.Challenge.rw_ik0152_01.Holds) := by
  refine' ⟨_, fun hc => holds_law said fun said => holds_open (q := vw) (loose := lsK) (Xt := xtK) (XP := XL vw []) (Yf := hkK.obs) (Ya := hkK.val) (YP := hkK.says) (N := 5234) left hkK.of hkK.keeps (fun s e => xl_of s (Bool.and_eq_true_iff.mp e).1) XL.keeps (by rfl) (by rfl) (by rfl) (fun s e => recFacts_of (Bool.and_eq_true_iff.mp e).2) (by rfl) said (by decide +kernel) ⟨rfl, rfl, rfl, rfl, rfl, by decide +kernel⟩ ?hw hc⟩
  case hw => w_witness2
theorem fillK : (fun (_ : Params → Frag) (_ : OpenLaw) => True) KK PySem.Challenge.rw_ik0152_01 := by k_fill; exact True.intro
end Mine
noncomputable section
namespace Mine
theorem eps_all {α : Type} {S : α → Prop} (c : α) (hc : c = @Classical.epsilon α ⟨c⟩ fun t => ¬ S t) (h : S c) : ∀ t, S t := fun t => Classical.byContradiction fun n => by
 have q := @Classical.epsilon_spec_aux α ⟨c⟩ (fun t => ¬ S t) ⟨t, n⟩
 exact q (show S (@Classical.epsilon α ⟨c⟩ fun t => ¬ S t) from hc ▸ h)
def eps {A : Type} (ne : Nonempty A) (B : A → Prop) : A := @Classical.epsilon A ne fun x => ¬ B x
theorem epsI {A : Type} {B : A → Prop} (ne : Nonempty A) (h : B (eps ne B)) : ∀ x, B x := fun x => Classical.byContradiction fun hx => (Classical.epsilon_spec (p := fun x => ¬ B x) ⟨x, hx⟩) h
structure Stg (F : Type) (W : F → Prop) (G : Prop) where
 p : F
 k : W p → G
structure Stg2 (F1 F2 : Type) (W1 : F1 → Prop) (W2 : F2 → Prop) (G : Prop) where
 p : F1
 q : F2
 k : W1 p → W2 q → G
structure Stg3 (F1 F2 F3 : Type) (W1 : F1 → Prop) (W2 : F2 → Prop) (W3 : F3 → Prop) (G : Prop) where
 p : F1
 q : F2
 r : F3
 k : W1 p → W2 q → W3 r → G
structure Stg4 (F1 F2 F3 F4 : Type) (W1 : F1 → Prop) (W2 : F2 → Prop) (W3 : F3 → Prop) (W4 : F4 → Prop) (G : Prop) where
 p : F1
 q : F2
 r : F3
 u : F4
 k : W1 p → W2 q → W3 r → W4 u → G
theorem stg_go {F : Type} {W : F → Prop} {G : Prop} (t : Stg F W G) {S : F} (e : S = t.p) (h : W S) : G := t.k (e ▸ h)
theorem stg_go2 {F1 F2 : Type} {W1 : F1 → Prop} {W2 : F2 → Prop} {G : Prop} (t : Stg2 F1 F2 W1 W2 G) {S1 : F1} {S2 : F2} (e1 : S1 = t.p) (e2 : S2 = t.q) (h1 : W1 S1) (h2 : W2 S2) : G := t.k (e1 ▸ h1) (e2 ▸ h2)
theorem stg_go3 {F1 F2 F3 : Type} {W1 : F1 → Prop} {W2 : F2 → Prop} {W3 : F3 → Prop} {G : Prop} (t : Stg3 F1 F2 F3 W1 W2 W3 G) {S1 : F1} {S2 : F2} {S3 : F3} (e1 : S1 = t.p) (e2 : S2 = t.q) (e3 : S3 = t.r) (h1 : W1 S1) (h2 : W2 S2) (h3 : W3 S3) : G := t.k (e1 ▸ h1) (e2 ▸ h2) (e3 ▸ h3)
theorem stg_go4 {F1 F2 F3 F4 : Type} {W1 : F1 → Prop} {W2 : F2 → Prop} {W3 : F3 → Prop} {W4 : F4 → Prop} {G : Prop} (t : Stg4 F1 F2 F3 F4 W1 W2 W3 W4 G) {S1 : F1} {S2 : F2} {S3 : F3} {S4 : F4} (e1 : S1 = t.p) (e2 : S2 = t.q) (e3 : S3 = t.r) (e4 : S4 = t.u) (h1 : W1 S1) (h2 : W2 S2) (h3 : W3 S3) (h4 : W4 S4) : G := t.k (e1 ▸ h1) (e2 ▸ h2) (e3 ▸ h3) (e4 ▸ h4)
theorem stg_h2 {F1 F2 : Type} {W1 : F1 → Prop} {W2 : F2 → Prop} {G : Prop} (t : Stg2 F1 F2 W1 W2 G) {S1 : F1} (e1 : S1 = t.p) (h1 : W1 S1) : W2 t.q → G := t.k (e1 ▸ h1)
theorem stg_h3 {F1 F2 F3 : Type} {W1 : F1 → Prop} {W2 : F2 → Prop} {W3 : F3 → Prop} {G : Prop} (t : Stg3 F1 F2 F3 W1 W2 W3 G) {S1 : F1} {S2 : F2} (e1 : S1 = t.p) (e2 : S2 = t.q) (h1 : W1 S1) (h2 : W2 S2) : W3 t.r → G := t.k (e1 ▸ h1) (e2 ▸ h2)
theorem stg_h4 {F1 F2 F3 F4 : Type} {W1 : F1 → Prop} {W2 : F2 → Prop} {W3 : F3 → Prop} {W4 : F4 → Prop} {G : Prop} (t : Stg4 F1 F2 F3 F4 W1 W2 W3 W4 G) {S1 : F1} {S2 : F2} {S3 : F3} (e1 : S1 = t.p) (e2 : S2 = t.q) (e3 : S3 = t.r) (h1 : W1 S1) (h2 : W2 S2) (h3 : W3 S3) : W4 t.u → G := t.k (e1 ▸ h1) (e2 ▸ h2) (e3 ▸ h3)
abbrev St1 := Program × World × Program × (List Str) × (ExcName → Option Value) × (Str → Option Value)
abbrev St2 := (Str → Option Value) × Nat × Nat × (Option (List Code)) × Str × Scope
abbrev St3 := Addr × Value × (List (Str × Addr)) × (List Env) × Around × Heap
abbrev St4 := Heap × Addr × (Str → Option Value) × Shared × (Value → Shared → Prop) × (Value → Shared → Prop)
abbrev u1 {A R : Type} (f : A → R) (z : A) : R := f z
abbrev u2 {A B R : Type} (f : A → B → R) (z : A × B) : R := f z.1 z.2
abbrev u3 {A B C R : Type} (f : A → B → C → R) (z : A × B × C) : R := f z.1 z.2.1 z.2.2
abbrev u4 {A B C D R : Type} (f : A → B → C → D → R) (z : A × B × C × D) : R := f z.1 z.2.1 z.2.2.1 z.2.2.2
abbrev u5 {A B C D E R : Type} (f : A → B → C → D → E → R) (z : A × B × C × D × E) : R := f z.1 z.2.1 z.2.2.1 z.2.2.2.1 z.2.2.2.2
abbrev u6 {A B C D E F R : Type} (f : A → B → C → D → E → F → R) (z : A × B × C × D × E × F) : R := f z.1 z.2.1 z.2.2.1 z.2.2.2.1 z.2.2.2.2.1 z.2.2.2.2.2
theorem tl2 {α : Type} {a x y : α} {l : List α} (h : a ∈ l) : a ∈ x :: y :: l := List.Mem.tail _ (List.Mem.tail _ h)
theorem tl3 {α : Type} {a x y z : α} {l : List α} (h : a ∈ l) : a ∈ x :: y :: z :: l := List.Mem.tail _ (List.Mem.tail _ (List.Mem.tail _ h))
theorem tl4 {α : Type} {a x y z w : α} {l : List α} (h : a ∈ l) : a ∈ x :: y :: z :: w :: l := List.Mem.tail _ (List.Mem.tail _ (List.Mem.tail _ (List.Mem.tail _ h)))
def EpsOn : Prop := True
theorem dataI {A : Type} {B : A → Prop} (_ : EpsOn) (h : ∀ x, B x) : ∀ x, B x := h
abbrev FT (A : Type) : Prop := ∀ B : A → Prop, (∀ x, B x) → ∀ x, B x
def mq {α : Type} (Q : α → Shared → Prop) : α → Shared → Prop := Q
def me {α : Type} (Q : α → Shared → Prop) : α → Shared → Prop := Q
abbrev FF {α : Type} (M : Model) (A : Around) (t : Sem α) (s : Shared) : Prop := ∀ (Q : α → Shared → Prop) (E : Value → Shared → Prop), (∀ qk ek, mq Q = qk → me E = ek → wpAny M A t qk ek s) → wpAny M A t Q E s
theorem foldG {P : Prop} (_ : EpsOn) (h : P) : P := h
theorem foldN {α : Type} {M : Model} {A : Around} {t : Sem α} {f Q : α → Shared → Prop} {E : Value → Shared → Prop} {s : Shared} (_ : mq f = Q) (h : wpAny M A t Q E s) : wpAny M A t Q E s := h
theorem foldJ {α : Type} {M : Model} {A : Around} {t : Sem α} {Q : α → Shared → Prop} {E : Value → Shared → Prop} {s : Shared} (h : wpAny M A t (mq Q) (me E) s) : wpAny M A t Q E s := h
theorem unfQ {α : Type} {f g : α → Shared → Prop} {a : α} {s : Shared} (e : mq f = g) (h : f a s) : g a s := e ▸ h
theorem unfE {α : Type} {f g : α → Shared → Prop} {a : α} {s : Shared} (e : me f = g) (h : f a s) : g a s := e ▸ h
theorem poE {M : Model} {A : Around} {env : Env} {f g : Value → Shared → Prop} (e : me f = g) (h : PassesOwn M A env f) : PassesOwn M A env g := e ▸ h
theorem poE2 {M : Model} {A' A : Around} {env : Env} {f g : Value → Shared → Prop} (e : me f = g) (h : PassesOwnAt M A' A env f) : PassesOwnAt M A' A env g := e ▸ h
theorem ne_prod {α β : Type} (a : Nonempty α) (b : Nonempty β) : Nonempty (α × β) := a.elim fun x => b.elim fun y => ⟨(x, y)⟩
@[elab_as_elim] theorem gen1 {α : Type} {P : α → Prop} (a : α) (h : ∀ x, P x) : P a := h a
theorem hideG {G : Prop} (k : ∀ P : Prop, (G → P) → P) : G := k G id
structure SdT where
 h1 : Int
 h2 : Int
 h3 : Int
 h4 : Int
 t1 : Tok
 t2 : Tok
 t3 : Tok
 t4 : Tok
 u1 : Tok
 u2 : Tok
theorem ne_W : Nonempty World := ⟨aWorld 1⟩
theorem ne_Sh : Nonempty Shared := ⟨(start pw).1⟩
theorem ne_Ar : Nonempty Around := ⟨ktrTop 0 0 none default default 0 0 .none [] []⟩
theorem ne_Sd : Nonempty SdT := ⟨⟨0, 0, 0, 0, 0, 0, 0, 0, 0, 0⟩⟩
structure NI where
 ia : Addr
 da : Addr
 la : Addr
 nm : Str
 tn : Tok
 np : Int
 tp : Tok
 sv : List Value
 su : List Str
 sn : Nat
theorem ne_NI : Nonempty NI := ⟨⟨0, 0, 0, default, 0, 0, 0, [], [], 0⟩⟩
def Stop (P : Prop) : Prop := P
theorem stop_of {P : Prop} (h : Stop P) : P := h
theorem subC {a : Addr × Obj} {l B : List (Addr × Obj)} (h : a ∈ B) (k : ∀ q ∈ l, q ∈ B) : ∀ q ∈ a :: l, q ∈ B := List.forall_mem_cons.mpr ⟨h, k⟩
theorem subA {R S B : List (Addr × Obj)} (h : ∀ q ∈ R, q ∈ B) (k : ∀ q ∈ S, q ∈ B) : ∀ q ∈ R ++ S, q ∈ B := fun q hq => (List.mem_append.mp hq).elim (h q) (k q)
theorem subL {R S B : List (Addr × Obj)} (h : ∀ q ∈ S, q ∈ B) : ∀ q ∈ S, q ∈ R ++ B := fun q hq => List.mem_append_right _ (h q hq)
theorem subR {R S B : List (Addr × Obj)} (h : ∀ q ∈ S, q ∈ R) : ∀ q ∈ S, q ∈ R ++ B := fun q hq => List.mem_append_left _ (h q hq)
theorem subS {S : List (Addr × Obj)} : ∀ q ∈ S, q ∈ S := fun _ h => h
theorem subT {S B : List (Addr × Obj)} {b : Addr × Obj} (h : ∀ q ∈ S, q ∈ B) : ∀ q ∈ S, q ∈ b :: B := fun q hq => .tail _ (h q hq)
theorem oA {d A B : Nat} (h : d < A) (e : Nat.ble A B = true) : d < B := Nat.lt_of_lt_of_le h (Nat.le_of_ble_eq_true e)
theorem oB {d A B : Nat} (h : d ≤ A) (e : Nat.ble A.succ B = true) : d < B := Nat.lt_of_le_of_lt h (Nat.le_of_ble_eq_true e)
theorem oZ {d B : Nat} (e : Nat.ble d.succ B = true) : d < B := Nat.le_of_ble_eq_true e
theorem oS {d x B : Nat} (h : d < B - x) : d + x < B := Nat.add_lt_of_lt_sub h
theorem oL {d B : Nat} (h : d < B + 1) : d ≤ B := Nat.le_of_lt_succ h
theorem oP {d a A B : Nat} (h : d + a < A) (e : Nat.ble A B = true) : d < B := Nat.lt_of_le_of_lt (Nat.le_add_right d a) (oA h e)
theorem oQ {d a A B : Nat} (h : a + d < A) (e : Nat.ble A B = true) : d < B := Nat.lt_of_le_of_lt (Nat.le_add_left d a) (oA h e)
theorem oP' {d a A B : Nat} (h : d + a ≤ A) (e : Nat.ble A.succ B = true) : d < B := Nat.lt_of_le_of_lt (Nat.le_add_right d a) (oB h e)
theorem oQ' {d a A B : Nat} (h : a + d ≤ A) (e : Nat.ble A.succ B = true) : d < B := Nat.lt_of_le_of_lt (Nat.le_add_left d a) (oB h e)
theorem oR {d a b A B : Nat} (h : d + a + b ≤ A) (e : Nat.ble A.succ B = true) : d < B := Nat.lt_of_le_of_lt (Nat.le_trans (Nat.le_add_right d a) (Nat.le_add_right (d + a) b)) (oB h e)
theorem oU {d a A B : Nat} (h : d + (a + 1) ≤ A) (e : Nat.ble A.succ B = true) : d + a < B := Nat.lt_of_le_of_lt (Nat.le_succ (d + a)) (oB h e)
theorem oV {d a b A : Nat} (h : d + b + (a + 1) ≤ A) : d + a ≤ A := Nat.le_trans (Nat.add_le_add (Nat.le_add_right d b) (Nat.le_succ a)) h
theorem oW {d a A : Nat} (h : d + (a + 1) ≤ A) : d + 1 + a ≤ A := (Nat.add_right_comm d 1 a).symm ▸ h
theorem oX {d a A : Nat} (h : d + (a + 1) ≤ A) : d + a ≤ A := Nat.le_trans (Nat.le_succ (d + a)) h
theorem oY {d a A B : Nat} (h : d + 18 * a ≤ A) (e : Nat.ble A.succ B = true) : d < B := oP' h e
theorem oI {d A : Nat} {B : Int} (h : d < A) (e : decide ((A : Int) ≤ B) = true) : (d : Int) < B := Int.lt_of_lt_of_le (Int.ofNat_lt.mpr h) (of_decide_eq_true e)
theorem oI' {d A : Nat} {B : Int} (h : d ≤ A) (e : decide ((A : Int) < B) = true) : (d : Int) < B := Int.lt_of_le_of_lt (Int.ofNat_le.mpr h) (of_decide_eq_true e)
def StopAt (_ : String) : Prop := True
theorem sT : StopAt "" := trivial
theorem stop_at {k : String} {P : Prop} (_ : StopAt k) (h : Stop P) : P := h
theorem on_at {k : String} {P : Prop} (_ : StopAt k) (h : P) : P := h
def StopRef (_ : Addr) : Prop := True
theorem stop_ref {M : Model} {A : Around} {r : Addr} {vs : List Value} {Q E : Value → Shared → Prop} {s : Shared} (_ : StopRef r) (h : Stop (wpAny M A (call (.ref r) vs) Q E s)) : wpAny M A (call (.ref r) vs) Q E s := h
section
variable {prog : Program} {w : World} {A₀ A : Around} {s : Shared} {base h₀ : Heap} {outer : List Env} {L : Addr} {m : Str → Option Value} {env : Env} {foot rest : List (Addr × Obj)} {K : Frag}
 {p : Program} {loose : List Str} {mean : ExcName → Option Value} {mg mb : Str → Option Value}
 {R : Result → Shared → Prop} {name qual : Str} {params : Arguments} {body : List Stmt} {scope : Scope} {dV kV doc pm cdv ct oc : Value} {an od : Option Addr} {osl : Array (Option Value)} {f : Addr} {args : Args} {binds : List (Str × Value)}
def Apart (a b : List (Addr × Obj)) : Prop := ∀ p ∈ b, ∀ q ∈ a, p.1 ≠ q.1
theorem enterF (B : Below A₀ base outer h₀) (F : Fr h₀ L s.heap m) (X₀ : K.In h₀) (N : News h₀ L s.heap (foot ++ rest)) (ap : Apart foot rest) (T : Top p loose mean mg mb h₀) (hA : A.frames = some (env :: outer)) (hf : env.frame = some L) (hke : env.scope.kind = .function)
  (ho : K.lookup f = some ⟨oc, od, .func (fnOf name qual params body scope dV kV doc pm an cdv ct), osl⟩) (hcd : codeIn K cdv qual = true) (hroom : A.depth < recursionLimit)
  (hbind : BindsTo s (fnOf name qual params body scope dV kV doc pm an cdv ct) args binds) (hloc : ∀ y ∈ binds, scope.names.lookup y.1 = some .local)
  (h : ∀ g L' h₁, Fr h₀ L g m → Fr g L' h₁ (fun y => binds.reverse.lookup y) → News g L' h₁ foot → Below A base (env :: outer) g → K.In g → Top p loose mean mg mb g → (∀ q ∈ foot, q.1 < L') → (∀ q ∈ rest, g.get? q.1 = some q.2) →
   wpAny (model prog w) (A.deeper (envOf qual scope L' f cdv)) (execs body (envOf qual scope L' f cdv))
    (fun fl s' => LeaveK h₀ L m g (fun r s'' => News h₀ L s''.heap rest → R r s'') (match fl with | .ret v => v | _ => .none) s')
    (fun e s' => wpAny (model prog w) (A.deeper (envOf qual scope L' f cdv)) (leaving (envOf qual scope L' f cdv) e) (fun _ s'' => R (.error e) s'') (fun e' s'' => R (.error e') s'') s')
    { s with heap := h₁, toks := s.toks + binds.length })
  (hco : scope.isCoroutine = false) (hgen : scope.isGenerator = false) (hk : scope.kind = .function)
  (hcell : ∀ x ∈ scope.names, x.2 ≠ .cell) : codeAny (model prog w) A (.call (.ref f) args) R s := by
 have X := X₀.keeps F.keep
 have Nf : News h₀ L s.heap foot := fun q hq => N q (List.mem_append_left _ hq)
 have Nr : News h₀ L s.heap rest := fun q hq => N q (List.mem_append_right _ hq)
 obtain ⟨FG, BG, st, lv⟩ := groundX (R := fun r s'' => News h₀ L s''.heap rest → R r s'') B F Nf hA hf hke
 refine codeAny_call_def (fd := fnOf name qual params body scope dV kV doc pm an cdv ct) (body := body) (binds := binds) hroom (X _ _ ho) rfl (T.nolimit.keeps F.keep) (codeRec_of X hcd) rfl hbind hcell hloc (fun h₁ hns hk₁ => ?_) hco hgen hk
 refine wpAny_mono (h _ s.heap.objs.size h₁ FG ⟨hns, fun b o e => hk₁ b o (of_hideAll _ e), Nat.le_of_eq (hideAll_size _ _)⟩
  (fun q hq => ⟨hk₁ _ _ (Nf q hq).1, Nat.ne_of_lt (Heap.lt_size (Nf q hq).1), hideAll_none _ (List.mem_map_of_mem hq)⟩) BG (X₀.keeps st) (T.keeps st) (fun q hq => Heap.lt_size (Nf q hq).1) (fun q hq => hideAll_get _ (Nr q hq).1 fun hm => by
   obtain ⟨q', hq', e⟩ := List.mem_map.mp hm
   exact ap q hq q' hq' e.symm)) (fun fl s' hl => ?_) fun _ _ y => y
 refine lv _ _ hl fun q hq => ?_
 obtain ⟨L', m', news', F', _, _⟩ := hl
 refine ⟨F'.keep _ _ (hideAll_get _ (Nr q hq).1 fun hm => ?_), (Nr q hq).2⟩
 obtain ⟨q', hq', e⟩ := List.mem_map.mp hm
 exact ap q hq q' hq' e.symm
theorem apart_of {g h : Heap} {L' : Addr} {news rest : List (Addr × Obj)} (N : News g L' h news) (hr : ∀ q ∈ rest, g.get? q.1 = some q.2) : Apart news rest := fun q hq q' hq' e => by
 have h1 := (N q' hq').2.2
 rw [← e, hr q hq] at h1
 cases h1
end
theorem news_of {h₀ h : Heap} {L : Addr} {A B C : List (Addr × Obj)} (NA : News h₀ L h A) (NB : News h₀ L h B) (hC : ∀ q ∈ C, q ∈ A ∨ q ∈ B) : News h₀ L h C := fun q hq => (hC q hq).elim (NA q) (NB q)
theorem Apart.sub {A B A' B' : List (Addr × Obj)} (h : Apart A B) (ha : ∀ q ∈ A', q ∈ A) (hb : ∀ q ∈ B', q ∈ B) : Apart A' B' := fun p hp q hq => h p (hb p hp) q (ha q hq)
end Mine
open Mine
local macro_rules | `(tactic| walk_at "hd") => `(tactic| repeat (first | exact .head _ | apply List.mem_cons_of_mem))
local macro_rules | `(tactic| k_room) => `(tactic| ktr_room)
local macro_rules | `(tactic| k_units) => `(tactic| ktr_units)
local macro_rules | `(tactic| ktr_enter) => `(tactic| (refine' enterF ?k1 ?k2 ?k3 ?k4 ?kap ?k5 ?kA ?kF ?kK ?k6 ?k7 ?k8 ?k9 ?kB ?_ ?c2 ?c3 ?c4 ?c5; (case kA => exact rfl); (case kF => exact rfl); (case kK => first | assumption | exact rfl); (case k1 => k_asm); (case k2 => k_asm); (case k3 => k_asm); (case kap => k_asm); (case k4 => k_asm); (case k5 => k_asm); (case k6 => k_is); (case k7 => k_is); (case k8 => ktr_room); (case k9 => exact BindsTo.of_eq rfl); (case c5 => decide); (case kB => exact locs rfl); (case c2 => exact rfl); (case c3 => exact rfl); (case c4 => exact rfl); k_whole))
local macro_rules | `(tactic| walk_at "hi") => `(tactic| set_option tactic.hygienic false in intros)
local macro_rules | `(tactic| k_all) => `(tactic| with_reducible assumption)
local macro_rules | `(tactic| k_subL) => `(tactic| first | exact fun _ h9 => Or.inr h9 | exact List.forall_mem_nil _ | (refine List.forall_mem_cons.mpr (And.intro (Or.inl ?a9) ?b9); (case a9 => k_mem); (case b9 => k_subL)))
local macro_rules | `(tactic| k_in) => `(tactic| first | with_reducible assumption | with_reducible exact Frag.In.keeps (by k_asm) (Fr.keep (by k_asm)))
local macro_rules | `(tactic| walk_at "setItem ref str") => `(tactic| (k_here; k_dflt (refine' kda_set (knd := PySem.strKind _ _) ?F ?N ?U ?d (strKind_is _ _ _ _) ?z ?_; (case F => k_asm); (case N => k_asm); (case U => k_updF); (case d => k_asm); (case z => (rw [sizeLine_eq]; (try simp only [List.length_map, List.length_append]); omega))); intro h' o' F' N' hd'; (try dsimp only at N')))
local macro_rules | `(tactic| walk_at "call builtin:dict.get") => `(tactic| (k_here; k_dflt (refine kdg_get1 (knd := PySem.strKind _ _) (by k_asm) (by k_mem) (by k_asm) (by k_asm) (strKind_is _ _ _ _) _ (by assumption) ?_); (try dsimp only [Option.getD])))
local macro_rules | `(tactic| walk_at "getMethod ref") => `(tactic| (k_here; (with_reducible show wpAny _ _ (getMethod (Value.ref _) (Str.ofString "get") _) _ _ _); k_dflt (refine kdg_method (knd := PySem.strKind _ _) (by k_asm) (by k_mem) (by k_asm) ?_)))
local macro_rules | `(tactic| walk_at "call builtin:list.append") => `(tactic| (k_here; (with_reducible show wpAny _ _ (call (Value.builtin _) [Value.ref _, _]) _ _ _); k_dflt (refine' append_K ?k1 ?k2 ?k3 ?_ ?z; (case k1 => k_asm); (case k2 => k_asm); (case k3 => k_upd); (case z => (rw [sizeLine_eq]; (try simp only [List.size_toArray, List.length_append, List.length_cons, List.length_nil, List.length_map]); omega))); intro h' F' N'; (try simp only [List.push_toArray] at N'); (try dsimp only)))
local macro_rules | `(tactic| walk_at "exec For Name Name cons nil") => `(tactic| ((walk_at "on stops"); refine For_turns (by k_asm) ?_))
local macro_rules | `(tactic| walk_at "exec For Name Attribute cons nil") => `(tactic| ((walk_at "on stops"); refine For_turns (by k_asm) ?_))
local macro_rules | `(tactic| walk_at "exec For Name Subscript cons nil") => `(tactic| ((walk_at "on stops"); refine For_turns (by k_asm) ?_))
local macro_rules | `(tactic| walk_at "pyIter ref") => `(tactic| ((walk_at "on stops"); (with_reducible show wpAny _ _ (pyIter (Value.ref _)) (fun it s₂ => TurnsAt _ _ _ _ _ _ _ _ _ it s₂) _ _); refine stop_of ?_))
local macro_rules | `(tactic| walk_at "UnrPostW") => `(tactic| ((walk_at "on stops"); dsimp only [UnrPostW]; refine stop_of ?_))
local macro_rules | `(tactic| walk_at $k:str) => if ["CompEnd", "CompRest", "CompSrc", "CompSrcT", "FinA", "FinE", "WhlRest", "YSrc", "ZEnd", "binaryOp Add ref ref", "binaryOp Add str str", "binaryOp Mult ref int", "call builtin:iter", "call builtin:len", "call builtin:list.clear", "call builtin:list.index", "call builtin:list.pop", "call builtin:sorted", "call builtin:str.join", "call builtin:sum", "call ref", "call type:bool", "call type:tuple", "call type:zip", "callWith ref", "compareOp Eq ref ref", "compareOp Eq str str", "compareOp In int ref", "compareOp In ref", "compareOp In ref ref", "compareOp In str ref", "compareOp NotEq ref ref", "compareOp NotEq str str", "compareOp NotIn bool ref", "compareOp NotIn int ref", "compareOp NotIn str str", "delItem ref", "eval IfExp", "eval ListComp", "exec Assign", "exec Assign cons DictComp", "exec Assign cons ListComp", "exec For Name Attribute cons nil", "exec For Name Call cons nil", "exec For Name Name cons nil", "exec While", "exec While Call", "exec While Constant", "exec While Name", "exec While Name cons cons", "noteFrame ref", "pyIter ref", "subscriptTail List", "subscriptTail List BinOp ref int", "subscriptTail Name BinOp ref int", "subscriptTail Name Name ref int", "subscriptTail Name Name ref str", "subscriptTail Name Slice ref ref", "subscriptTail Name UnaryOp ref int", "subscriptTail Subscript Name Name Constant ref int", "truthy ref", "truthy str"].contains k.getString then `(tactic| refine stop_at $(Lean.mkIdent (Lean.Name.mkSimple ("h9s_" ++ k.getString.map fun c => if c.isAlphanum then c else '_'))) ?_) else Lean.Macro.throwUnsupported
set_option hygiene false in
local macro_rules | `(tactic| walk_at "call ref") => `(tactic| with_reducible first | refine stop_ref h9r0 ?_ | refine stop_ref h9r1 ?_ | refine stop_ref h9r2 ?_ | refine stop_ref h9r3 ?_ | refine stop_ref h9r4 ?_)
set_option hygiene false in
local macro_rules | `(tactic| walk_at "on stops") => `(tactic| refine on_at h9s_stops ?_)
set_option hygiene false in
local macro_rules | `(tactic| walk_at "on str") => `(tactic| refine on_at h9s_str ?_)
local macro_rules | `(tactic| walk_at "lt1") => `(tactic| first | with_reducible assumption | (refine' And.left ?h9; (case h9 => with_reducible assumption)) | (refine' And.right ?h9; (case h9 => with_reducible assumption)) | (refine' And.left (And.right ?h9); (case h9 => with_reducible assumption)) | (refine' And.right (And.right ?h9); (case h9 => with_reducible assumption)) | (refine' And.left (And.right (And.right ?h9)); (case h9 => with_reducible assumption)) | (refine' And.right (And.right (And.right ?h9)); (case h9 => with_reducible assumption)) | (refine' And.left (And.right (And.right (And.right ?h9))); (case h9 => with_reducible assumption)) | (refine' And.right (And.right (And.right (And.right ?h9))); (case h9 => with_reducible assumption)) | (refine' And.left (And.right (And.right (And.right (And.right ?h9)))); (case h9 => with_reducible assumption)) | (refine' And.right (And.right (And.right (And.right (And.right ?h9)))); (case h9 => with_reducible assumption)) | (refine' And.left (And.right (And.right (And.right (And.right (And.right ?h9))))); (case h9 => with_reducible assumption)) | (refine' And.right (And.right (And.right (And.right (And.right (And.right ?h9))))); (case h9 => with_reducible assumption)) | (refine' And.left (And.right (And.right (And.right (And.right (And.right (And.right ?h9)))))); (case h9 => with_reducible assumption)) | (refine' And.right (And.right (And.right (And.right (And.right (And.right (And.right ?h9)))))); (case h9 => with_reducible assumption)) | (refine' And.left (And.right (And.right (And.right (And.right (And.right (And.right (And.right ?h9))))))); (case h9 => with_reducible assumption)) | (refine' And.right (And.right (And.right (And.right (And.right (And.right (And.right (And.right ?h9))))))); (case h9 => with_reducible assumption)) | (refine' And.left (And.right (And.right (And.right (And.right (And.right (And.right (And.right (And.right ?h9)))))))); (case h9 => with_reducible assumption)) | (refine' And.right (And.right (And.right (And.right (And.right (And.right (And.right (And.right (And.right ?h9)))))))); (case h9 => with_reducible assumption)) | (refine' And.left (And.right (And.right (And.right (And.right (And.right (And.right (And.right (And.right (And.right ?h9))))))))); (case h9 => with_reducible assumption)) | (refine' And.right (And.right (And.right (And.right (And.right (And.right (And.right (And.right (And.right (And.right ?h9))))))))); (case h9 => with_reducible assumption)))
local macro_rules | `(tactic| walk_at "lt") => `(tactic| first | walk_at "lt1" | (refine' Nat.lt_trans ?x9 ?y9; (case y9 => walk_at "lt1"); (case x9 => walk_at "lt1")) | (refine' Nat.lt_trans ?x9 ?y9; (case x9 => walk_at "lt1"); (case y9 => walk_at "lt1")))
local macro_rules | `(tactic| k_ne) => `(tactic| first | with_reducible assumption | (with_reducible refine Ne.symm ?_; with_reducible assumption) | (refine neN ?_; (try dsimp only); first | (refine Nat.ne_of_lt ?_; with_reducible assumption) | (refine Nat.ne_of_gt ?_; with_reducible assumption) | (refine Nat.ne_of_lt ?_; walk_at "lt") | (refine Nat.ne_of_gt ?_; walk_at "lt") | omega))
local macro_rules | `(tactic| k_lt $h:ident) => `(tactic| (replace $h := allLt_of $h; dsimp only [AllLt] at $h:ident))
local macro_rules | `(tactic| k_keys) => `(tactic| (refine' kp_rest ?k1 ?k2 ?k3 ?k4 ?k5 ?kA ?kF ?kK ?k6 ?k7 ?k8 ?kv ?kp ?kg ?kB ?_ ?c2 ?c3 ?c4 ?c5; (case kA => exact rfl); (case kF => exact rfl); (case kK => first | assumption | exact rfl); (case k1 => k_asm); (case k2 => k_asm); (case k3 => k_asm); (case k4 => k_asm); (case k5 => k_asm); (case k6 => k_dflt k_is); (case k7 => k_dflt k_is); (case k8 => ktr_room); (case kv => exact rfl); (case kp => exact rfl); (case kg => intro D; exact rfl); (case kB => intro D; exact locs rfl); (case c2 => exact rfl); (case c3 => exact rfl); (case c4 => exact rfl); (case c5 => decide)))
set_option hygiene false in
local macro_rules | `(tactic| walk_at "hide") => `(tactic| (refine @hideG _ ?_; intros P9 r9))
set_option hygiene false in
local macro_rules | `(tactic| walk_at "unhide") => `(tactic| try (refine r9 ?_; clear r9 P9))
local macro_rules | `(tactic| walk_at "mem") => `(tactic| first | exact List.Mem.head _ | (refine' List.Mem.tail _ ?_; walk_at "mem") | (refine' List.mem_append_right _ ?_; walk_at "mem") | (refine' List.mem_append_left _ ?_; walk_at "mem") | with_reducible assumption)
local macro_rules | `(tactic| walk_at "subt") => `(tactic| first | exact subS | (refine' subT ?_; walk_at "subt") | (refine' subL ?_; walk_at "subt") | (refine' subR ?_; walk_at "subt"))
local macro_rules | `(tactic| walk_at "sub") => `(tactic| first | exact List.forall_mem_nil _ | with_reducible assumption | (refine' subC ?ha ?hb; (case ha => walk_at "mem"); (case hb => walk_at "sub")) | (refine' subA ?ha ?hb; (case ha => walk_at "sub"); (case hb => walk_at "sub")) | walk_at "subt")
local macro_rules | `(tactic| walk_at "le") => `(tactic| first | exact Nat.le_refl _ | (refine Nat.le_of_lt ?_; walk_at "lt"))
local macro_rules | `(tactic| walk_at "off") => `(tactic| first | exact List.forall_mem_nil _ | (refine' List.forall_mem_cons.mpr (And.intro ?a ?b); (case a => k_ne); (case b => walk_at "off")) | assumption)
local macro_rules | `(tactic| walk_at "ne") => `(tactic| (repeat' (first | (refine' ne_prod ?_ ?_) | exact ne_W | exact ne_Sh | exact ne_Ar | exact ne_Sd | exact ne_NI | exact ⟨pw⟩ | exact ⟨default⟩ | infer_instance | fail)))
local macro_rules | `(tactic| intro $h:ident) => `(tactic| ((fail_if_success (fail_if_success (with_reducible refine dataI (by assumption) ?_))); refine (by exact fun B m => @epsI _ B (by walk_at "ne") (m (eps _ B)) : FT _) _ ?_; intros $h:ident))
local macro_rules | `(tactic| intro $h:term $g:term $hs:term*) => `(tactic| (intro $h:term; intro $g:term $hs:term*))
set_option hygiene false in
local macro_rules | `(tactic| k_fold) => `(tactic| ((fail_if_success (fail_if_success (with_reducible refine foldG (by assumption) ?_))); (fail_if_success (with_reducible refine foldN (by assumption) ?_)); refine (by exact fun Q E m => foldJ (m (mq Q) (me E) rfl rfl) : FF _ _ _ _) _ _ ?_; intros qk ek hq9 he9))
local macro_rules | `(tactic| k_unfold) => `(tactic| first | (with_reducible refine unfQ (by assumption) ?_) | (with_reducible refine unfE (by assumption) ?_) | (delta Stop; with_reducible refine unfQ (by assumption) ?_))
local macro_rules | `(tactic| passes_own) => `(tactic| first | ((with_reducible refine poE (by assumption) ?_); passes_own) | ((with_reducible refine poE2 (by assumption) ?_); passes_own))
local macro_rules | `(tactic| walk_at "om") => `(tactic| first | (with_reducible_and_instances exact oZ rfl) | (refine' oA ?h9 ?e9; (case h9 => with_reducible assumption); (case e9 => with_reducible_and_instances exact rfl)) | (refine' oB ?h9 ?e9; (case h9 => with_reducible assumption); (case e9 => with_reducible_and_instances exact rfl)) | (refine oS ?_; walk_at "om") | ((with_reducible first | refine oP (by assumption) ?_ | refine oP' (by assumption) ?_ | refine oQ (by assumption) ?_ | refine oQ' (by assumption) ?_ | refine oR (by assumption) ?_ | refine oU (by assumption) ?_ | refine oY (by assumption) ?_); with_reducible_and_instances exact rfl))
local macro_rules | `(tactic| omega) => `(tactic| first | (with_reducible first | assumption | exact oV (by assumption) | exact oW (by assumption) | exact oX (by assumption)) | ((try with_reducible refine oL ?_); walk_at "om") | exact oI (by with_reducible assumption) (by decide) | exact oI' (by with_reducible assumption) (by decide))
namespace Mine
abbrev sD (d : Addr) (rv : Value) (po nf : Int) (τ : SdT) : List DictEntry :=
 [⟨τ.h1, .str "_node2info" τ.t1, .ref d⟩, ⟨τ.h2, .str "_ready_nodes" τ.t2, rv⟩, ⟨τ.h3, .str "_npassedout" τ.t3, .int po τ.u1⟩, ⟨τ.h4, .str "_nfinished" τ.t4, .int nf τ.u2⟩]
abbrev nodeObj (da la : Addr) (nm : Str) (tn : Tok) (np : Int) (tp : Tok) : Obj :=
 { cls := .ref 40, dict := some da, slots := #[some (.str nm tn), some (.int np tp), some (.ref la)] }
section
section
variable {prog : Program} {w : World} {p : Program} {loose : List Str} {mean : ExcName → Option Value} {mg mb : Str → Option Value}
 {dp un : Nat} {gd : Option (List Code)} {cn : Str} {cs : Scope} {a : Addr} {ccd : Value} {cl : List (Str × Addr)} {outer : List Env} {A₀ : Around} {base h₀ : Heap} {L : Addr} {m : Str → Option Value} {s : Shared} {Q E : Value → Shared → Prop}
def gni_miss_S {x dx d : Addr} {τ : SdT} {rv : Value} {po nf : Int} {n : Nat} {od : Obj} {kvs : List (Str × Value)} {nm : Str} {t : Tok} {rest : List (Addr × Obj)} : Prop := ∀ (B : Below A₀ base outer h₀) (F : Fr h₀ L s.heap m) (X : (KK w.params).In h₀) (N : News h₀ L s.heap ((x, instObj 137 dx) :: (dx, dictOf (sD d rv po nf τ) n) :: (d, od) :: rest)) (ap : Apart [(x, instObj 137 dx), (dx, dictOf (sD d rv po nf τ) n), (d, od)] rest) (hne1 : x ≠ dx) (hne2 : x ≠ d) (hne3 : dx ≠ d) (lo : (d == sysModules) = false) (hd : od.IsDictOf (PySem.strKind prog w) kvs) (hv : valueAt kvs nm = none) (hsz : kvs.length ≤ 1000) (T : Top p loose mean mg mb h₀) (hk : cs.kind = .function) (hdp : dp < 350) (hun : un < 300) (ret : ∀ h' tk' ia da la o' tn tp, Fr h₀ L h' m → News h₀ L h' ((x, instObj 137 dx) :: (dx, dictOf (sD d rv po nf τ) n) :: (d, o') :: (ia, nodeObj da la nm tn 0 tp) :: (la, listOf #[] 0) :: (da, dictOf [] 0) :: rest) →
     o'.IsDictOf (PySem.strKind prog w) (kvs ++ [(nm, .ref ia)]) → Apart [(ia, nodeObj da la nm tn 0 tp), (la, listOf #[] 0), (da, dictOf [] 0)] rest → (ia ≠ x ∧ ia ≠ dx ∧ ia ≠ d ∧ la ≠ x ∧ la ≠ dx ∧ la ≠ d ∧ da ≠ x ∧ da ≠ dx ∧ da ≠ d ∧ ia ≠ la ∧ ia ≠ da ∧ la ≠ da) → Q (.ref ia) { s with heap := h', toks := tk' }),
    wpAny (model prog w) (ktrTop dp un gd cn cs L a ccd cl outer) (call (.ref 80) [.ref x, .str nm t]) Q E s
end
abbrev gni_miss_u (z9 : St1 × St2 × St3 × St4 × (Addr × Addr × Addr × SdT × Value × Int) × (Int × Nat × Obj × (List (Str × Value)) × Str × Tok) × ((List (Addr × Obj)))) : Prop := u1 (u6 (u6 (u6 (u6 (u6 (u6 @gni_miss_S z9.1) z9.2.1) z9.2.2.1) z9.2.2.2.1) z9.2.2.2.2.1) z9.2.2.2.2.2.1) z9.2.2.2.2.2.2
def gni_miss_c := eps (by walk_at "ne") gni_miss_u
namespace Kgni_miss
@[irreducible] def prog := gni_miss_c.1.1
@[irreducible] def w := gni_miss_c.1.2.1
@[irreducible] def p := gni_miss_c.1.2.2.1
@[irreducible] def loose := gni_miss_c.1.2.2.2.1
@[irreducible] def mean := gni_miss_c.1.2.2.2.2.1
@[irreducible] def mg := gni_miss_c.1.2.2.2.2.2
@[irreducible] def mb := gni_miss_c.2.1.1
@[irreducible] def dp := gni_miss_c.2.1.2.1
@[irreducible] def un := gni_miss_c.2.1.2.2.1
@[irreducible] def gd := gni_miss_c.2.1.2.2.2.1
@[irreducible] def cn := gni_miss_c.2.1.2.2.2.2.1
@[irreducible] def cs := gni_miss_c.2.1.2.2.2.2.2
@[irreducible] def a := gni_miss_c.2.2.1.1
@[irreducible] def ccd := gni_miss_c.2.2.1.2.1
@[irreducible] def cl := gni_miss_c.2.2.1.2.2.1
@[irreducible] def outer := gni_miss_c.2.2.1.2.2.2.1
@[irreducible] def A₀ := gni_miss_c.2.2.1.2.2.2.2.1
@[irreducible] def base := gni_miss_c.2.2.1.2.2.2.2.2
@[irreducible] def h₀ := gni_miss_c.2.2.2.1.1
@[irreducible] def L := gni_miss_c.2.2.2.1.2.1
@[irreducible] def m := gni_miss_c.2.2.2.1.2.2.1
@[irreducible] def s := gni_miss_c.2.2.2.1.2.2.2.1
@[irreducible] def Q := gni_miss_c.2.2.2.1.2.2.2.2.1
@[irreducible] def E := gni_miss_c.2.2.2.1.2.2.2.2.2
@[irreducible] def x := gni_miss_c.2.2.2.2.1.1
@[irreducible] def dx := gni_miss_c.2.2.2.2.1.2.1
@[irreducible] def d := gni_miss_c.2.2.2.2.1.2.2.1
@[irreducible] def τ := gni_miss_c.2.2.2.2.1.2.2.2.1
@[irreducible] def rv := gni_miss_c.2.2.2.2.1.2.2.2.2.1
@[irreducible] def po := gni_miss_c.2.2.2.2.1.2.2.2.2.2
@[irreducible] def nf := gni_miss_c.2.2.2.2.2.1.1
@[irreducible] def n := gni_miss_c.2.2.2.2.2.1.2.1
@[irreducible] def od := gni_miss_c.2.2.2.2.2.1.2.2.1
@[irreducible] def kvs := gni_miss_c.2.2.2.2.2.1.2.2.2.1
@[irreducible] def nm := gni_miss_c.2.2.2.2.2.1.2.2.2.2.1
@[irreducible] def t := gni_miss_c.2.2.2.2.2.1.2.2.2.2.2
@[irreducible] def rest := gni_miss_c.2.2.2.2.2.2
end Kgni_miss
section
open Kgni_miss
theorem gni_miss_0 : @gni_miss_S prog w p loose mean mg mb dp un gd cn cs a ccd cl outer A₀ base h₀ L m s Q E x dx d τ rv po nf n od kvs nm t rest := by
 have e9 : EpsOn := trivial
 unfold gni_miss_S
 intro B F X N ap hne1 hne2 hne3 lo hd hv hsz T hk hdp hun ret
 refine wpAny_call ?_
 k_dflt ktr_enter
 intro g1 L1 h1 FG1 F1 N1 B1 X1 T1 l1 hr
 (try dsimp only); (try k_lt l1); (try k_fold)
 k_steps
 with_reducible rename Fr h₀ L _ m => kF
 with_reducible rename News h₀ L _ rest => nr
 with_reducible rename News h₀ L _ (_ :: _) => kN
 with_reducible rename Obj.IsDictOf _ _ (stored _ _ _) => hdo
 with_reducible rename News g1 L1 _ (_ :: _) => N9
 rw [stored_absent hv] at hdo
 refine' ret _ _ _ _ _ _ _ _ kF (news_of kN nr ?n1) hdo ((apart_of N9 hr).sub ?n2 (fun _ h => h)) ?n3
 (case n1 => k_subL)
 (case n2 => (refine List.forall_mem_cons.mpr ⟨?_, List.forall_mem_cons.mpr ⟨?_, List.forall_mem_cons.mpr ⟨?_, List.forall_mem_nil _⟩⟩⟩ <;> k_mem))
 (case n3 => (refine ⟨?_, ?_, ?_, ?_, ?_, ?_, ?_, ?_, ?_, ?_, ?_, ?_⟩ <;> k_ne))
end
theorem gni_miss {prog w p loose mean mg mb dp un gd cn cs a ccd cl outer A₀ base h₀ L m s Q E x dx d τ rv po nf n od kvs nm t rest} : @gni_miss_S prog w p loose mean mg mb dp un gd cn cs a ccd cl outer A₀ base h₀ L m s Q E x dx d τ rv po nf n od kvs nm t rest :=
 eps_all (S := gni_miss_u) gni_miss_c rfl (by have := gni_miss_0; with_unfolding_all assumption) ((prog, w, p, loose, mean, mg), (mb, dp, un, gd, cn, cs), (a, ccd, cl, outer, A₀, base), (h₀, L, m, s, Q, E), (x, dx, d, τ, rv, po), (nf, n, od, kvs, nm, t), (rest))
section
variable {prog : Program} {w : World} {p : Program} {loose : List Str} {mean : ExcName → Option Value} {mg mb : Str → Option Value}
 {dp un : Nat} {gd : Option (List Code)} {cn : Str} {cs : Scope} {a : Addr} {ccd : Value} {cl : List (Str × Addr)} {outer : List Env} {A₀ : Around} {base h₀ : Heap} {L : Addr} {m : Str → Option Value} {s : Shared} {Q E : Value → Shared → Prop}
def gni_hit_S {x dx d ia : Addr} {τ : SdT} {rv : Value} {po nf : Int} {n : Nat} {od : Obj} {kvs : List (Str × Value)} {nm : Str} {t : Tok} {rest : List (Addr × Obj)} : Prop := ∀ (B : Below A₀ base outer h₀) (F : Fr h₀ L s.heap m) (X : (KK w.params).In h₀) (N : News h₀ L s.heap ((x, instObj 137 dx) :: (dx, dictOf (sD d rv po nf τ) n) :: (d, od) :: rest)) (ap : Apart [(x, instObj 137 dx), (dx, dictOf (sD d rv po nf τ) n), (d, od)] rest) (lo : (d == sysModules) = false) (hd : od.IsDictOf (PySem.strKind prog w) kvs) (hv : valueAt kvs nm = some (.ref ia)) (T : Top p loose mean mg mb h₀) (hk : cs.kind = .function) (hdp : dp < 350) (hun : un < 300) (ret : ∀ h' tk', Fr h₀ L h' m → News h₀ L h' ((x, instObj 137 dx) :: (dx, dictOf (sD d rv po nf τ) n) :: (d, od) :: rest) → Q (.ref ia) { s with heap := h', toks := tk' }),
  wpAny (model prog w) (ktrTop dp un gd cn cs L a ccd cl outer) (call (.ref 80) [.ref x, .str nm t]) Q E s
end
abbrev gni_hit_u (z9 : St1 × St2 × St3 × St4 × (Addr × Addr × Addr × Addr × SdT × Value) × (Int × Int × Nat × Obj × (List (Str × Value)) × Str) × (Tok × (List (Addr × Obj)))) : Prop := u2 (u6 (u6 (u6 (u6 (u6 (u6 @gni_hit_S z9.1) z9.2.1) z9.2.2.1) z9.2.2.2.1) z9.2.2.2.2.1) z9.2.2.2.2.2.1) z9.2.2.2.2.2.2
def gni_hit_c := eps (by walk_at "ne") gni_hit_u
namespace Kgni_hit
@[irreducible] def prog := gni_hit_c.1.1
@[irreducible] def w := gni_hit_c.1.2.1
@[irreducible] def p := gni_hit_c.1.2.2.1
@[irreducible] def loose := gni_hit_c.1.2.2.2.1
@[irreducible] def mean := gni_hit_c.1.2.2.2.2.1
@[irreducible] def mg := gni_hit_c.1.2.2.2.2.2
@[irreducible] def mb := gni_hit_c.2.1.1
@[irreducible] def dp := gni_hit_c.2.1.2.1
@[irreducible] def un := gni_hit_c.2.1.2.2.1
@[irreducible] def gd := gni_hit_c.2.1.2.2.2.1
@[irreducible] def cn := gni_hit_c.2.1.2.2.2.2.1
@[irreducible] def cs := gni_hit_c.2.1.2.2.2.2.2
@[irreducible] def a := gni_hit_c.2.2.1.1
@[irreducible] def ccd := gni_hit_c.2.2.1.2.1
@[irreducible] def cl := gni_hit_c.2.2.1.2.2.1
@[irreducible] def outer := gni_hit_c.2.2.1.2.2.2.1
@[irreducible] def A₀ := gni_hit_c.2.2.1.2.2.2.2.1
@[irreducible] def base := gni_hit_c.2.2.1.2.2.2.2.2
@[irreducible] def h₀ := gni_hit_c.2.2.2.1.1
@[irreducible] def L := gni_hit_c.2.2.2.1.2.1
@[irreducible] def m := gni_hit_c.2.2.2.1.2.2.1
@[irreducible] def s := gni_hit_c.2.2.2.1.2.2.2.1
@[irreducible] def Q := gni_hit_c.2.2.2.1.2.2.2.2.1
@[irreducible] def E := gni_hit_c.2.2.2.1.2.2.2.2.2
@[irreducible] def x := gni_hit_c.2.2.2.2.1.1
@[irreducible] def dx := gni_hit_c.2.2.2.2.1.2.1
@[irreducible] def d := gni_hit_c.2.2.2.2.1.2.2.1
@[irreducible] def ia := gni_hit_c.2.2.2.2.1.2.2.2.1
@[irreducible] def τ := gni_hit_c.2.2.2.2.1.2.2.2.2.1
@[irreducible] def rv := gni_hit_c.2.2.2.2.1.2.2.2.2.2
@[irreducible] def po := gni_hit_c.2.2.2.2.2.1.1
@[irreducible] def nf := gni_hit_c.2.2.2.2.2.1.2.1
@[irreducible] def n := gni_hit_c.2.2.2.2.2.1.2.2.1
@[irreducible] def od := gni_hit_c.2.2.2.2.2.1.2.2.2.1
@[irreducible] def kvs := gni_hit_c.2.2.2.2.2.1.2.2.2.2.1
@[irreducible] def nm := gni_hit_c.2.2.2.2.2.1.2.2.2.2.2
@[irreducible] def t := gni_hit_c.2.2.2.2.2.2.1
@[irreducible] def rest := gni_hit_c.2.2.2.2.2.2.2
end Kgni_hit
section
open Kgni_hit
theorem gni_hit_0 : @gni_hit_S prog w p loose mean mg mb dp un gd cn cs a ccd cl outer A₀ base h₀ L m s Q E x dx d ia τ rv po nf n od kvs nm t rest := by
 have e9 : EpsOn := trivial
 unfold gni_hit_S
 intro B F X N ap lo hd hv T hk hdp hun ret
 refine wpAny_call ?_
 k_dflt ktr_enter
 intro g1 L1 h1 FG1 F1 N1 B1 X1 T1 l1 hr
 (try dsimp only); (try k_lt l1); (try k_fold)
 k_steps
 with_reducible rename Fr h₀ L _ m => kF
 with_reducible rename News h₀ L _ rest => nr
 with_reducible rename News h₀ L _ (_ :: _) => kN
 refine' ret _ _ kF (news_of kN nr ?n1)
 (case n1 => k_subL)
end
theorem gni_hit {prog w p loose mean mg mb dp un gd cn cs a ccd cl outer A₀ base h₀ L m s Q E x dx d ia τ rv po nf n od kvs nm t rest} : @gni_hit_S prog w p loose mean mg mb dp un gd cn cs a ccd cl outer A₀ base h₀ L m s Q E x dx d ia τ rv po nf n od kvs nm t rest :=
 eps_all (S := gni_hit_u) gni_hit_c rfl (by have := gni_hit_0; with_unfolding_all assumption) ((prog, w, p, loose, mean, mg), (mb, dp, un, gd, cn, cs), (a, ccd, cl, outer, A₀, base), (h₀, L, m, s, Q, E), (x, dx, d, ia, τ, rv), (po, nf, n, od, kvs, nm), (t, rest))
end
end Mine
namespace Mine
theorem unlt {a b c : Nat} (h : a < b) (k : b + 3 ≤ c) : a + 3 < c := Nat.lt_of_lt_of_le (Nat.add_lt_add_right h 3) k
theorem sub_of {A B : List (Addr × Obj)} {q : Addr × Obj} (h : ∀ q ∈ A, q ∈ B) (hq : q ∈ A) : q ∈ B := h q hq
theorem subD {R B : List (Addr × Obj)} (n : Nat) (e : B.drop n = R) : ∀ q ∈ R, q ∈ B := fun q h => List.mem_of_mem_drop (i := n) (e.symm ▸ h)
theorem subN {n : Nat} {S B : List (Addr × Obj)} (h : ∀ q ∈ S, q ∈ B.drop n) : ∀ q ∈ S, q ∈ B := fun q hq => List.mem_of_mem_drop (h q hq)
theorem memD {q : Addr × Obj} {B : List (Addr × Obj)} (n : Nat) (h : q ∈ B.drop n) : q ∈ B := List.mem_of_mem_drop h
section
variable {prog : Program} {w : World} {A : Around} {E : Value → Shared → Prop} {s : Shared} {h₀ : Heap} {env : Env} {target : PySem.Expr} {body : List Stmt} {Q : Flow → Shared → Prop} {I : Addr} {c : String} {keep : List (Addr × Obj)} {r : List Itm} {m : Str → Option Value} {news : List (Addr × Obj)}
theorem ItemsRest.val1 {v : Value} (h : ∀ h tk io, io.cls = .type c → Fr h₀ env.locals h m → News h₀ env.locals h ((I, io) :: news) →
  wpAny (model prog w) A (assign target env v) (fun _ s₂ => wpAny (model prog w) A (execs body env) (UnrPostW h₀ env.locals { s with heap := h, toks := tk } [(I, io)] (fun m' n' => SubL keep n' ∧ ItemsRest prog w A E h₀ env target body Q s [(I, c)] keep r m' n') Q) E s₂) E { s with heap := h, toks := tk }) :
  ItemsRest prog w A E h₀ env target body Q s [(I, c)] keep (.val v :: r) m news := PySem.W.ItemsRest.val fun h' tk F => AllObj.cons fun io hio => AllObj.nil fun N => h h' tk io hio F N
theorem ItemsRest.tok1 {f : Tok → Value} (h : ∀ t h tk io, io.cls = .type c → Fr h₀ env.locals h m → News h₀ env.locals h ((I, io) :: news) →
  wpAny (model prog w) A (assign target env (f t)) (fun _ s₂ => wpAny (model prog w) A (execs body env) (UnrPostW h₀ env.locals { s with heap := h, toks := tk } [(I, io)] (fun m' n' => SubL keep n' ∧ ItemsRest prog w A E h₀ env target body Q s [(I, c)] keep r m' n') Q) E s₂) E { s with heap := h, toks := tk }) :
  ItemsRest prog w A E h₀ env target body Q s [(I, c)] keep (.tok f :: r) m news := PySem.W.ItemsRest.tok fun t h' tk F => AllObj.cons fun io hio => AllObj.nil fun N => h t h' tk io hio F N
end
theorem unrEnd1 {h₀ h' : Heap} {L I : Addr} {io : Obj} {s₁ : Shared} {tk : Nat} {rest : (Str → Option Value) → List (Addr × Obj) → Prop} {m' : Str → Option Value} {news' : List (Addr × Obj)} (F : Fr h₀ L h' m') (N : News h₀ L h' ((I, io) :: news'))
  (off : ∀ p ∈ news', p.1 ≠ I) (r : rest m' news') : UnrEndW h₀ L s₁ [(I, io)] rest { s₁ with heap := h', toks := tk } := ⟨_, _, _, _, rfl, F, N, fun p hp q hq => by rw [List.mem_singleton.mp hq]; exact off p hp, r⟩
theorem tok_ex {P : Tok → Prop} {t : Tok} (h : P t) : ∃ t, P t := ⟨t, h⟩
abbrev NI.ob (i : NI) : Obj := nodeObj i.da i.la i.nm i.tn i.np i.tp
abbrev NI.lo (i : NI) : Obj := listOf i.sv.toArray i.sn
abbrev NI.setNp (i : NI) (v : Int) (tq : Tok) : NI := ⟨i.ia, i.da, i.la, i.nm, i.tn, v, tq, i.sv, i.su, i.sn⟩
abbrev NI.push (i : NI) (v : Value) (nm : Str) : NI := ⟨i.ia, i.da, i.la, i.nm, i.tn, i.np, i.tp, i.sv ++ [v], i.su ++ [nm], i.sn + 1⟩
def NI.ents (i : NI) : List (Addr × Obj) := [(i.ia, i.ob), (i.la, i.lo), (i.da, dictOf [] 0)]
def infosOf (l : List NI) : List (Addr × Obj) := l.flatMap NI.ents
def kvsOf (l : List NI) : List (Str × Value) := l.map fun i => (i.nm, .ref i.ia)
def adrsOf (l : List NI) : List Addr := l.flatMap fun i => [i.ia, i.la, i.da]
theorem infosOf_keys (l : List NI) : (infosOf l).map (·.1) = adrsOf l := by
 induction l with
 | nil => rfl
 | cons i r ih => show i.ia :: i.la :: i.da :: (infosOf r).map (·.1) = i.ia :: i.la :: i.da :: adrsOf r; rw [ih]
theorem infosOf_append (a b : List NI) : infosOf (a ++ b) = infosOf a ++ infosOf b := by simp [infosOf]
theorem infosOf_nil : infosOf [] = [] := rfl
theorem adrsOf_nil : adrsOf [] = [] := rfl
theorem infosOf_cons (i : NI) (b : List NI) : infosOf (i :: b) = (i.ia, i.ob) :: (i.la, i.lo) :: (i.da, dictOf [] 0) :: infosOf b := rfl
theorem adrsOf_append (a b : List NI) : adrsOf (a ++ b) = adrsOf a ++ adrsOf b := by simp [adrsOf]
theorem adrsOf_cons (i : NI) (b : List NI) : adrsOf (i :: b) = i.ia :: i.la :: i.da :: adrsOf b := rfl
structure Sor (prog : Program) (w : World) (x dx d : Addr) (od : Obj) (l : List NI) : Prop where
 lo : (d == sysModules) = false
 hd : od.IsDictOf (PySem.strKind prog w) (kvsOf l)
 nd : (x :: dx :: d :: adrsOf l).Nodup
 names : (l.map (·.nm)).Nodup
 strOk : ∀ i ∈ l, StrsAre i.sv i.su
def SApart (x dx d : Addr) (l : List NI) (rest : List (Addr × Obj)) : Prop := ∀ q ∈ rest, q.1 ∉ x :: dx :: d :: adrsOf l
def Small (l : List NI) (k : Nat) : Prop := l.length ≤ k ∧ ∀ i ∈ l, i.sv.length ≤ k
def Ens (nm : Str) (l l' : List NI) (i : NI) : Prop :=
 i.nm = nm ∧ i ∈ l' ∧ (l' = l ∨ (l' = l ++ [i] ∧ nm ∉ l.map (·.nm) ∧ i.np = 0 ∧ i.sv = [] ∧ i.su = []))
theorem valueAt_kvs {l : List NI} {nm : Str} {v : Value} (h : valueAt (kvsOf l) nm = some v) : ∃ i ∈ l, i.nm = nm ∧ v = .ref i.ia := by
 unfold valueAt at h
 obtain ⟨kv, h1, rfl⟩ := Option.map_eq_some_iff.mp h
 have h2 := List.mem_of_find?_eq_some h1
 have h3 := List.find?_some h1
 obtain ⟨i, hi, rfl⟩ := List.mem_map.mp h2
 exact ⟨i, hi, by simpa using h3, rfl⟩
theorem valueAt_kvs_none {l : List NI} {nm : Str} (h : valueAt (kvsOf l) nm = none) : nm ∉ l.map (·.nm) := by
 unfold valueAt at h
 intro hm
 obtain ⟨i, hi, rfl⟩ := List.mem_map.mp hm
 have := List.find?_eq_none.mp (Option.map_eq_none_iff.mp h) (i.nm, .ref i.ia) (List.mem_map.mpr ⟨i, hi, rfl⟩)
 simp at this
theorem mem_adrs {q : Addr × Obj} {l : List NI} (h : q ∈ infosOf l) : q.1 ∈ adrsOf l := infosOf_keys l ▸ List.mem_map_of_mem h
theorem Sor.base {prog : Program} {w : World} {x dx d : Addr} {od : Obj} {l : List NI} (S : Sor prog w x dx d od l) :
  @Ne Nat x dx ∧ @Ne Nat x d ∧ @Ne Nat dx d := by
 have h := S.nd
 simp only [List.nodup_cons, List.mem_cons, not_or] at h
 exact ⟨h.1.1, h.1.2.1, h.2.1.1⟩
theorem Sor.focus {prog : Program} {w : World} {x dx d : Addr} {od : Obj} {l1 l2 : List NI} {i : NI} {rest : List (Addr × Obj)}
  (S : Sor prog w x dx d od (l1 ++ i :: l2)) (ap : SApart x dx d (l1 ++ i :: l2) rest) :
  (@Ne Nat i.ia x ∧ @Ne Nat i.ia dx ∧ @Ne Nat i.ia d ∧ @Ne Nat i.la x ∧ @Ne Nat i.la dx ∧ @Ne Nat i.la d ∧ @Ne Nat i.ia i.la ∧ @Ne Nat i.ia i.da ∧ @Ne Nat i.la i.da) ∧
  (∀ p ∈ infosOf (l1 ++ l2), p.1 ≠ i.ia) ∧ (∀ p ∈ infosOf (l1 ++ l2), p.1 ≠ i.la) ∧ (∀ p ∈ rest, p.1 ≠ i.ia) ∧ (∀ p ∈ rest, p.1 ≠ i.la) := by
 have h := S.nd
 simp only [adrsOf_append, adrsOf_cons, List.nodup_cons, List.mem_cons, not_or, List.nodup_append, List.mem_append] at h
 walk_at "hide"
 obtain ⟨⟨_, _, _, a1, a2, _⟩, ⟨_, _, b1, b2, _⟩, ⟨_, c1, c2, _⟩, _, ⟨⟨e1, e4, e2⟩, ⟨e5, e3⟩, _⟩, f⟩ := h
 walk_at "unhide"
 have ka : ∀ q ∈ rest, q.1 ≠ i.ia ∧ q.1 ≠ i.la := fun q hq => by
  have := ap q hq
  simp only [adrsOf_append, adrsOf_cons, List.mem_cons, not_or, List.mem_append] at this
  exact ⟨this.2.2.2.2.1, this.2.2.2.2.2.1⟩
 have kb : ∀ q ∈ infosOf (l1 ++ l2), q.1 ≠ i.ia ∧ q.1 ≠ i.la := fun q hq => by
  rw [infosOf_append] at hq
  rcases List.mem_append.mp hq with hq | hq
  ·have hm := mem_adrs hq
   exact ⟨f _ hm _ (.inl rfl), f _ hm _ (.inr (.inl rfl))⟩
  ·have hm := mem_adrs hq
   exact ⟨fun e => e2 (e ▸ hm), fun e => e3 (e ▸ hm)⟩
 exact ⟨⟨fun e => a1 e.symm, fun e => b1 e.symm, fun e => c1 e.symm, fun e => a2 e.symm, fun e => b2 e.symm, fun e => c2 e.symm, e1, e4, e5⟩,
  fun q hq => (kb q hq).1, fun q hq => (kb q hq).2, fun q hq => (ka q hq).1, fun q hq => (ka q hq).2⟩
theorem adrs_put {l1 l2 : List NI} {i i' : NI} (h1 : i'.ia = i.ia) (h2 : i'.la = i.la) (h5 : i'.da = i.da) : adrsOf (l1 ++ i' :: l2) = adrsOf (l1 ++ i :: l2) := by
 simp only [adrsOf_append, adrsOf_cons, h1, h2, h5]
theorem Sor.put {prog : Program} {w : World} {x dx d : Addr} {od : Obj} {l1 l2 : List NI} {i i' : NI}
  (S : Sor prog w x dx d od (l1 ++ i :: l2)) (h1 : i'.ia = i.ia) (h2 : i'.la = i.la) (h5 : i'.da = i.da) (h3 : i'.nm = i.nm) (hs : StrsAre i'.sv i'.su) : Sor prog w x dx d od (l1 ++ i' :: l2) := by
 refine ⟨S.lo, ?_, ?_, ?_, fun j hj => ?_⟩
 ·have := S.hd
  unfold kvsOf at this ⊢
  simpa only [List.map_append, List.map_cons, h1, h3] using this
 ·rw [adrs_put h1 h2 h5]; exact S.nd
 ·have := S.names
  simpa only [List.map_append, List.map_cons, h3] using this
 ·rcases List.mem_append.mp hj with hj | hj
  ·exact S.strOk j (List.mem_append_left _ hj)
  ·rcases List.mem_cons.mp hj with rfl | hj
   ·exact hs
   ·exact S.strOk j (List.mem_append_right _ (.tail _ hj))
theorem SApart.put {x dx d : Addr} {l1 l2 : List NI} {i i' : NI} {rest : List (Addr × Obj)} (h : SApart x dx d (l1 ++ i :: l2) rest) (h1 : i'.ia = i.ia) (h2 : i'.la = i.la) (h5 : i'.da = i.da) : SApart x dx d (l1 ++ i' :: l2) rest := by
 unfold SApart; rw [adrs_put h1 h2 h5]; exact h
theorem SApart.fresh {x dx d D : Addr} {o : Obj} {l : List NI} {rest : List (Addr × Obj)} (ap : SApart x dx d l rest) (hx : @LT.lt Nat _ x D) (hdx : @LT.lt Nat _ dx D) (hd : @LT.lt Nat _ d D)
  (hi : ∀ q ∈ infosOf l, @LT.lt Nat _ q.1 D) : SApart x dx d l ((D, o) :: rest) := by
 intro q hq
 rcases List.mem_cons.mp hq with rfl | hq
 ·intro hm
  simp only [List.mem_cons] at hm
  rcases hm with h | h | h | h
  ·rw [h] at hx; exact Nat.lt_irrefl _ hx
  ·rw [h] at hdx; exact Nat.lt_irrefl _ hdx
  ·rw [h] at hd; exact Nat.lt_irrefl _ hd
  ·rw [← infosOf_keys] at h
   obtain ⟨q, hq, e⟩ := List.mem_map.mp h
   have := hi q hq
   rw [e] at this
   exact Nat.lt_irrefl _ this
 ·exact ap q hq
theorem infos_lt {l1 l2 : List NI} {i : NI} {I : Addr} (h : ∀ q ∈ infosOf (l1 ++ l2), @LT.lt Nat _ q.1 I) (h1 : @LT.lt Nat _ i.ia I) (h2 : @LT.lt Nat _ i.la I) (h3 : @LT.lt Nat _ i.da I) :
  ∀ q ∈ infosOf (l1 ++ i :: l2), @LT.lt Nat _ q.1 I := by
 intro q hq
 simp only [infosOf_append, infosOf_cons, List.mem_append, List.mem_cons] at hq
 rcases hq with hq | rfl | rfl | rfl | hq
 ·exact h q (by rw [infosOf_append]; exact List.mem_append_left _ hq)
 ·exact h1
 ·exact h2
 ·exact h3
 ·exact h q (by rw [infosOf_append]; exact List.mem_append_right _ hq)
theorem SApart.freshL {x dx d D : Addr} {o : Obj} {l : List NI} {R rest : List (Addr × Obj)} {o1 o2 o3 : Obj} (ap : SApart x dx d l rest) (h : ∀ q ∈ (x, o1) :: (dx, o2) :: (d, o3) :: (infosOf l ++ R), @LT.lt Nat _ q.1 D) : SApart x dx d l ((D, o) :: rest) :=
 ap.fresh (h _ (.head _)) (h _ (.tail _ (.head _))) (h _ (tl2 (.head _))) fun q hq => h q (tl3 (List.mem_append_left _ hq))
theorem SApart.freshF {x dx d D : Addr} {o : Obj} {l1 l2 : List NI} {i : NI} {P R rest : List (Addr × Obj)} {a b c o1 o2 o3 : Obj} (ap : SApart x dx d (l1 ++ i :: l2) rest)
  (h : ∀ q ∈ (i.ia, a) :: (i.la, b) :: (i.da, c) :: (P ++ ((x, o1) :: (dx, o2) :: (d, o3) :: (infosOf (l1 ++ l2) ++ R))), @LT.lt Nat _ q.1 D) : SApart x dx d (l1 ++ i :: l2) ((D, o) :: rest) :=
 ap.fresh (h _ (tl3 (List.mem_append_right _ (.head _)))) (h _ (tl3 (List.mem_append_right _ (.tail _ (.head _)))))
  (h _ (tl3 (List.mem_append_right _ (.tail _ (.tail _ (.head _)))))) (infos_lt (fun q hq => h q (tl3 (List.mem_append_right _ (.tail _ (.tail _ (.tail _ (List.mem_append_left _ hq)))))))
   (h _ (.head _)) (h _ (.tail _ (.head _))) (h _ (tl2 (.head _))))
def absN (l : List NI) : List (Str × Int × List Str) := l.map fun i => (i.nm, i.np, i.su)
def pEns (P : List (Str × Int × List Str)) (nm : Str) : List (Str × Int × List Str) := if nm ∈ P.map (·.1) then P else P ++ [(nm, 0, [])]
def pUpd (P : List (Str × Int × List Str)) (nm : Str) (f : Int × List Str → Int × List Str) : List (Str × Int × List Str) := P.map fun q => if q.1 = nm then (q.1, f q.2) else q
def pAdd1 (P : List (Str × Int × List Str)) (nm : Str) : List (Str × Int × List Str) := pEns P nm
def pAdd2 (P : List (Str × Int × List Str)) (nm pm : Str) : List (Str × Int × List Str) := pUpd (pEns (pUpd (pEns P nm) nm fun q => (q.1 + 1, q.2)) pm) pm fun q => (q.1, q.2 ++ [nm])
theorem absN_names (l : List NI) : (absN l).map (·.1) = l.map (·.nm) := by simp [absN]
theorem Ens.abs {nm : Str} {l l' : List NI} {i : NI} (e : Ens nm l l' i) : absN l' = pEns (absN l) nm := by
 unfold pEns
 rw [absN_names]
 rcases e.2.2 with rfl | ⟨rfl, hno, h1, _, h3⟩
 ·rw [if_pos (List.mem_map.mpr ⟨i, e.2.1, e.1⟩)]
 ·rw [if_neg hno]
  simp [absN, e.1, h1, h3]
theorem abs_put {l1 l2 : List NI} {i i' : NI} {f : Int × List Str → Int × List Str} (hn : ((l1 ++ i :: l2).map (·.nm)).Nodup) (h1 : i'.nm = i.nm) (h2 : (i'.np, i'.su) = f (i.np, i.su)) :
  absN (l1 ++ i' :: l2) = pUpd (absN (l1 ++ i :: l2)) i.nm f := by
 rw [List.map_append, List.map_cons, List.nodup_append, List.nodup_cons] at hn
 walk_at "hide"
 obtain ⟨_, ⟨h3, _⟩, h4⟩ := hn
 walk_at "unhide"
 unfold absN pUpd
 rw [List.map_append, List.map_append, List.map_cons, List.map_cons, List.map_append, List.map_cons]
 have e1 : ∀ j ∈ l1, j.nm ≠ i.nm := fun j hj => h4 _ (List.mem_map.mpr ⟨j, hj, rfl⟩) _ (List.mem_cons_self ..)
 have e2 : ∀ j ∈ l2, j.nm ≠ i.nm := fun j hj e => h3 (e ▸ List.mem_map.mpr ⟨j, hj, rfl⟩)
 congr 1
 ·rw [List.map_map]
  exact List.map_congr_left fun j hj => by simp [e1 j hj]
 ·congr 1
  ·rw [if_pos rfl, ← h2, h1]
  ·rw [List.map_map]
   exact List.map_congr_left fun j hj => by simp [e2 j hj]
theorem Ens.small {nm : Str} {l l' : List NI} {i : NI} {k : Nat} (e : Ens nm l l' i) (h : Small l k) : l'.length ≤ k + 1 ∧ ∀ j ∈ l', j.sv.length ≤ k := by
 rcases e.2.2 with rfl | ⟨rfl, _, _, hs, _⟩
 ·exact ⟨Nat.le_succ_of_le h.1, h.2⟩
 ·refine ⟨by rw [List.length_append]; exact Nat.succ_le_succ h.1, fun j hj => ?_⟩
  rcases List.mem_append.mp hj with hj | hj
  ·exact h.2 j hj
  ·simp at hj; subst hj; rw [hs]; exact Nat.zero_le _
theorem gB_ap {prog : Program} {w : World} {x dx d : Addr} {ox odx od : Obj} {l : List NI} {rest : List (Addr × Obj)} (S : Sor prog w x dx d od l) (ap : SApart x dx d l rest) :
  Apart [(x, ox), (dx, odx), (d, od)] (infosOf l ++ rest) := fun q hq q' hq' e => by
 have hx : q'.1 ∈ [x, dx, d] := List.mem_map_of_mem (f := Prod.fst) hq'
 rcases List.mem_append.mp hq with hq | hq
 ·exact (List.nodup_append.mp (show ([x, dx, d] ++ adrsOf l).Nodup from S.nd)).2.2 _ hx _ (infosOf_keys l ▸ List.mem_map_of_mem (f := Prod.fst) hq) e.symm
 ·exact ap q hq (e ▸ List.mem_append_left (adrsOf l) hx)
theorem gB_nd {x dx d ia la da : Addr} {l : List NI} {i : NI} (h : (x :: dx :: d :: adrsOf l).Nodup) (k : [ia, la, da].Nodup) (e : ∀ a ∈ x :: dx :: d :: adrsOf l, ∀ b ∈ [ia, la, da], a ≠ b) (hi : adrsOf [i] = [ia, la, da]) :
  (x :: dx :: d :: adrsOf (l ++ [i])).Nodup := by
 rw [adrsOf_append, hi]
 exact List.nodup_append.mpr ⟨h, k, e⟩
theorem gB_no {ia la da : Addr} {o1 o2 o3 : Obj} {l : List NI} {rest : List (Addr × Obj)} (h : Apart [(ia, o1), (la, o2), (da, o3)] (infosOf l ++ rest)) : ∀ a ∈ adrsOf l, ∀ b ∈ [ia, la, da], a ≠ b := fun a ha b hb e => by
 rw [← infosOf_keys] at ha
 obtain ⟨q, hq, rfl⟩ := List.mem_map.mp ha
 obtain ⟨r, hr, rfl⟩ := List.mem_map.mp (show b ∈ [(ia, o1), (la, o2), (da, o3)].map Prod.fst from hb)
 exact h q (List.mem_append_left _ hq) r hr e
theorem gB_sp {x dx d ia la da : Addr} {o1 o2 o3 : Obj} {l : List NI} {i : NI} {rest : List (Addr × Obj)} (ap : SApart x dx d l rest) (h : Apart [(ia, o1), (la, o2), (da, o3)] (infosOf l ++ rest)) (hi : adrsOf [i] = [ia, la, da]) : SApart x dx d (l ++ [i]) rest := fun q hq hm => by
 rw [adrsOf_append, hi] at hm
 rcases List.mem_append.mp (show q.1 ∈ (x :: dx :: d :: adrsOf l) ++ [ia, la, da] from hm) with hm | hm
 ·exact ap q hq hm
 ·obtain ⟨r, hr, e⟩ := List.mem_map.mp (show q.1 ∈ [(ia, o1), (la, o2), (da, o3)].map Prod.fst from hm)
  exact h q (List.mem_append_right _ hq) r hr e.symm
theorem all3 {P : Nat → Prop} {a b c : Nat} (h1 : P a) (h2 : P b) (h3 : P c) : ∀ q ∈ [a, b, c], P q := List.forall_mem_cons.mpr ⟨h1, List.forall_mem_cons.mpr ⟨h2, List.forall_mem_cons.mpr ⟨h3, List.forall_mem_nil _⟩⟩⟩
theorem nod3 {a b c : Nat} (h1 : a ≠ b) (h2 : a ≠ c) (h3 : b ≠ c) : [a, b, c].Nodup := List.nodup_cons.mpr ⟨fun h => by rcases List.mem_cons.mp h with h | h; exact h1 h; exact h2 (List.mem_singleton.mp h), List.nodup_cons.mpr ⟨fun h => h3 (List.mem_singleton.mp h), List.nodup_cons.mpr ⟨List.not_mem_nil, List.nodup_nil⟩⟩⟩
theorem gB_str {l : List NI} {i : NI} (h : ∀ i ∈ l, StrsAre i.sv i.su) (k : StrsAre i.sv i.su) : ∀ j ∈ l ++ [i], StrsAre j.sv j.su := fun j hj => (List.mem_append.mp hj).elim (h j) fun hj => by rw [List.mem_singleton.mp hj]; exact k
theorem gB_names {l : List NI} {i : NI} (h : (l.map (·.nm)).Nodup) (k : i.nm ∉ l.map (·.nm)) : ((l ++ [i]).map (·.nm)).Nodup := by
 rw [List.map_append]
 exact List.nodup_append.mpr ⟨h, List.nodup_cons.mpr ⟨List.not_mem_nil, List.nodup_nil⟩, fun a ha b hb e => k (show i.nm ∈ _ from (List.mem_singleton.mp hb : b = i.nm) ▸ e ▸ ha)⟩
section
variable {prog : Program} {w : World} {p : Program} {loose : List Str} {mean : ExcName → Option Value} {mg mb : Str → Option Value}
 {dp un : Nat} {gd : Option (List Code)} {cn : Str} {cs : Scope} {a : Addr} {ccd : Value} {cl : List (Str × Addr)} {outer : List Env} {A₀ : Around} {base h₀ : Heap} {L : Addr} {m : Str → Option Value} {s : Shared} {Q E : Value → Shared → Prop}
theorem gniB {x dx d : Addr} {τ : SdT} {rv : Value} {po nf : Int} {n : Nat} {od : Obj} {l : List NI} {nm : Str} {t : Tok} {rest : List (Addr × Obj)}
   (B : Below A₀ base outer h₀) (F : Fr h₀ L s.heap m) (X : (KK w.params).In h₀)
   (N : News h₀ L s.heap ((x, instObj 137 dx) :: (dx, dictOf (sD d rv po nf τ) n) :: (d, od) :: (infosOf l ++ rest)))
   (S : Sor prog w x dx d od l) (ap : SApart x dx d l rest) (hsz : l.length ≤ 1000)
   (T : Top p loose mean mg mb h₀) (hk : cs.kind = .function) (hdp : dp < 350) (hun : un < 300)
   (ret : ∀ h' tk' l' od' i, Fr h₀ L h' m → News h₀ L h' ((x, instObj 137 dx) :: (dx, dictOf (sD d rv po nf τ) n) :: (d, od') :: (infosOf l' ++ rest)) →
     Sor prog w x dx d od' l' → SApart x dx d l' rest → Ens nm l l' i → Q (.ref i.ia) { s with heap := h', toks := tk' }) :
    wpAny (model prog w) (ktrTop dp un gd cn cs L a ccd cl outer) (call (.ref 80) [.ref x, .str nm t]) Q E s := by
  have nd := List.nodup_cons.mp S.nd
  have nd2 := List.nodup_cons.mp nd.2
  have ap' := gB_ap (ox := instObj 137 dx) (odx := dictOf (sD d rv po nf τ) n) S ap
  cases hv : valueAt (kvsOf l) nm with
  | some v =>
    walk_at "hide"
    obtain ⟨i, hi, hn, rfl⟩ := valueAt_kvs hv
    walk_at "unhide"
    exact gni_hit B F X N ap' S.lo S.hd hv T hk hdp hun fun h' tk' F' N' => ret h' tk' l od i F' N' S ap ⟨hn, hi, .inl rfl⟩
  | none =>
    refine gni_miss B F X N ap' (fun e => nd.1 (e ▸ .head _)) (fun e => nd.1 (e ▸ .tail _ (.head _))) (fun e => nd2.1 (e ▸ .head _)) S.lo S.hd hv (by unfold kvsOf; rw [List.length_map]; exact hsz) T hk hdp hun ?_
    intro h' tk' ia da la o' tn tp F' N' hd' hap e
    have hno := valueAt_kvs_none hv
    have hof := gB_no hap
    refine ret h' tk' (l ++ [⟨ia, da, la, nm, tn, 0, tp, [], [], 0⟩]) o' ⟨ia, da, la, nm, tn, 0, tp, [], [], 0⟩ F' (News.perm N' fun q hq => sub_of ?_ hq)
      ⟨S.lo, ?_, gB_nd (ia := ia) (la := la) (da := da) S.nd (nod3 e.2.2.2.2.2.2.2.2.2.1 e.2.2.2.2.2.2.2.2.2.2.1 e.2.2.2.2.2.2.2.2.2.2.2) ?_ rfl, gB_names S.names hno, gB_str S.strOk .nil⟩ (gB_sp ap hap rfl) ⟨rfl, List.mem_append_right _ (.head _), .inr ⟨rfl, hno, rfl, rfl, rfl⟩⟩
    · rw [infosOf_append, List.append_assoc]
      dsimp only [infosOf_cons, infosOf_nil, List.cons_append, List.nil_append]
      walk_at "sub"
    · unfold kvsOf; rw [List.map_append]; exact hd'
    · exact List.forall_mem_cons.mpr ⟨all3 e.1.symm e.2.2.2.1.symm e.2.2.2.2.2.2.1.symm, List.forall_mem_cons.mpr ⟨all3 e.2.1.symm e.2.2.2.2.1.symm e.2.2.2.2.2.2.2.1.symm, List.forall_mem_cons.mpr ⟨all3 e.2.2.1.symm e.2.2.2.2.2.1.symm e.2.2.2.2.2.2.2.2.1.symm, hof⟩⟩⟩
abbrev head3 (x dx d : Addr) (es : List DictEntry) (n : Nat) (od : Obj) : List (Addr × Obj) := [(x, instObj 137 dx), (dx, dictOf es n), (d, od)]
theorem mid_perm {P H I R : List (Addr × Obj)} {q : Addr × Obj} : q ∈ P ++ (H ++ (I ++ R)) ↔ q ∈ H ++ (I ++ (P ++ R)) := by
 simp only [List.mem_append]
 constructor
 ·rintro (h | h | h | h)
  ·exact .inr (.inr (.inl h))
  ·exact .inl h
  ·exact .inr (.inl h)
  ·exact .inr (.inr (.inr h))
 ·rintro (h | h | h | h)
  ·exact .inr (.inl h)
  ·exact .inr (.inr (.inl h))
  ·exact .inl h
  ·exact .inr (.inr (.inr h))
theorem gniC {x dx d : Addr} {τ : SdT} {rv : Value} {po nf : Int} {n : Nat} {od : Obj} {l : List NI} {nm : Str} {t : Tok} (P : List (Addr × Obj)) {rest : List (Addr × Obj)}
   (B : Below A₀ base outer h₀) (F : Fr h₀ L s.heap m) (X : (KK w.params).In h₀)
   (N : News h₀ L s.heap (P ++ (head3 x dx d (sD d rv po nf τ) n od ++ (infosOf l ++ rest))))
   (S : Sor prog w x dx d od l) (ap : SApart x dx d l (P ++ rest)) (hsz : l.length ≤ 1000)
   (T : Top p loose mean mg mb h₀) (hk : cs.kind = .function) (hdp : dp < 350) (hun : un < 300)
   (ret : ∀ h' tk' l' od' i, Fr h₀ L h' m → News h₀ L h' (P ++ (head3 x dx d (sD d rv po nf τ) n od' ++ (infosOf l' ++ rest))) →
     Sor prog w x dx d od' l' → SApart x dx d l' (P ++ rest) → Ens nm l l' i → Q (.ref i.ia) { s with heap := h', toks := tk' }) :
    wpAny (model prog w) (ktrTop dp un gd cn cs L a ccd cl outer) (call (.ref 80) [.ref x, .str nm t]) Q E s :=
  gniB (rest := P ++ rest) B F X (News.perm N fun _ hq => mid_perm.mpr hq) S ap hsz T hk hdp hun fun h' tk' l' od' i F' N' S' ap' e' =>
    ret h' tk' l' od' i F' (News.perm (show News h₀ L h' (head3 x dx d (sD d rv po nf τ) n od' ++ (infosOf l' ++ (P ++ rest))) from N') fun _ hq => mid_perm.mp hq) S' ap' e'
end
theorem focusN {g h : Heap} {L : Addr} {P : List (Addr × Obj)} {l1 l2 : List NI} {i : NI} {rest : List (Addr × Obj)} (N : News g L h (P ++ (infosOf (l1 ++ i :: l2) ++ rest))) :
  News g L h ((i.ia, i.ob) :: (i.la, i.lo) :: (i.da, dictOf [] 0) :: (P ++ (infosOf (l1 ++ l2) ++ rest))) := News.perm N fun q hq => by
 simp only [infosOf_append, infosOf_cons, List.mem_append, List.mem_cons] at hq ⊢
 rcases hq with h | h | h | h | (h | h) | h
 ·exact .inr (.inl (.inr (.inl h)))
 ·exact .inr (.inl (.inr (.inr (.inl h))))
 ·exact .inr (.inl (.inr (.inr (.inr (.inl h)))))
 ·exact .inl h
 ·exact .inr (.inl (.inl h))
 ·exact .inr (.inl (.inr (.inr (.inr (.inr h)))))
 ·exact .inr (.inr h)
theorem unfocusN {g h : Heap} {L : Addr} {Q P : List (Addr × Obj)} {l1 l2 : List NI} {i : NI} {rest : List (Addr × Obj)}
  (N : News g L h (Q ++ ((i.ia, i.ob) :: (i.la, i.lo) :: (i.da, dictOf [] 0) :: (P ++ (infosOf (l1 ++ l2) ++ rest))))) :
  News g L h (Q ++ (P ++ (infosOf (l1 ++ i :: l2) ++ rest))) := News.perm N fun q hq => by
 simp only [infosOf_append, infosOf_cons, List.mem_append, List.mem_cons] at hq ⊢
 rcases hq with h | h | (h | h | h | h | h) | h
 ·exact .inl h
 ·exact .inr (.inr (.inr (.inr (.inl h))))
 ·exact .inr (.inr (.inr (.inr (.inr (.inl (.inl h))))))
 ·exact .inr (.inl h)
 ·exact .inr (.inr (.inl h))
 ·exact .inr (.inr (.inr (.inl h)))
 ·exact .inr (.inr (.inr (.inr (.inr (.inl (.inr h))))))
 ·exact .inr (.inr (.inr (.inr (.inr (.inr h)))))
theorem focusN0 {g h : Heap} {L : Addr} {P : List (Addr × Obj)} {l1 l2 : List NI} {i : NI} (N : News g L h (P ++ infosOf (l1 ++ i :: l2))) :
  News g L h ((i.ia, i.ob) :: (i.la, i.lo) :: (i.da, dictOf [] 0) :: (P ++ infosOf (l1 ++ l2))) := by
 have h := focusN (rest := []) (by rw [List.append_nil]; exact N)
 rwa [List.append_nil] at h
structure FocP (x dx d : Addr) (i : NI) (P R : List (Addr × Obj)) : Prop where
 f1 : @Ne Nat i.ia x
 f2 : @Ne Nat i.ia dx
 f3 : @Ne Nat i.ia d
 f4 : @Ne Nat i.la x
 f5 : @Ne Nat i.la dx
 f6 : @Ne Nat i.la d
 f7 : @Ne Nat i.ia i.la
 f8 : @Ne Nat i.ia i.da
 f9 : @Ne Nat i.la i.da
 fa : ∀ p ∈ R, p.1 ≠ i.ia
 fb : ∀ p ∈ R, p.1 ≠ i.la
 fc : ∀ p ∈ P, p.1 ≠ i.ia
 fd : ∀ p ∈ P, p.1 ≠ i.la
 fe : @Ne Nat x dx
 ff : @Ne Nat x d
 fg : @Ne Nat dx d
theorem Sor.focP {prog : Program} {w : World} {x dx d : Addr} {od : Obj} {l1 l2 : List NI} {i : NI} {P rest : List (Addr × Obj)}
  (S : Sor prog w x dx d od (l1 ++ i :: l2)) (ap : SApart x dx d (l1 ++ i :: l2) (P ++ rest)) : FocP x dx d i P (infosOf (l1 ++ l2) ++ rest) := by
 walk_at "hide"
 obtain ⟨⟨f1, f2, f3, f4, f5, f6, f7, f8, f9⟩, a, b, c, e⟩ := S.focus ap
 walk_at "unhide"
 exact ⟨f1, f2, f3, f4, f5, f6, f7, f8, f9, fun q hq => (List.mem_append.mp hq).elim (a q) fun h => c q (List.mem_append_right _ h), fun q hq => (List.mem_append.mp hq).elim (b q) fun h => e q (List.mem_append_right _ h),
  fun q hq => c q (List.mem_append_left _ hq), fun q hq => e q (List.mem_append_left _ hq), S.base.1, S.base.2.1, S.base.2.2⟩
section
variable {prog : Program} {w : World} {p : Program} {loose : List Str} {mean : ExcName → Option Value} {mg mb : Str → Option Value}
 {dp un : Nat} {gd : Option (List Code)} {cn : Str} {cs : Scope} {a : Addr} {ccd : Value} {cl : List (Str × Addr)} {outer : List Env} {A₀ : Around} {base h₀ : Heap} {L : Addr} {m : Str → Option Value} {s : Shared} {Q E : Value → Shared → Prop}
theorem gniD {x dx d : Addr} {τ : SdT} {rv : Value} {po nf : Int} {n : Nat} {od : Obj} {l : List NI} {nm : Str} {t : Tok} (P : List (Addr × Obj)) {rest : List (Addr × Obj)}
   (B : Below A₀ base outer h₀) (F : Fr h₀ L s.heap m) (X : (KK w.params).In h₀)
   (N : News h₀ L s.heap (P ++ (head3 x dx d (sD d rv po nf τ) n od ++ (infosOf l ++ rest))))
   (S : Sor prog w x dx d od l) (ap : SApart x dx d l (P ++ rest)) (hsz : l.length ≤ 1000)
   (T : Top p loose mean mg mb h₀) (hk : cs.kind = .function) (hdp : dp < 350) (hun : un < 300)
   (ret : ∀ h' tk' la lb od' i, Fr h₀ L h' m → News h₀ L h' ((i.ia, i.ob) :: (i.la, i.lo) :: (i.da, dictOf [] 0) :: (P ++ (head3 x dx d (sD d rv po nf τ) n od' ++ (infosOf (la ++ lb) ++ rest)))) →
     Sor prog w x dx d od' (la ++ i :: lb) → SApart x dx d (la ++ i :: lb) (P ++ rest) → Ens nm l (la ++ i :: lb) i → FocP x dx d i P (infosOf (la ++ lb) ++ rest) → Q (.ref i.ia) { s with heap := h', toks := tk' }) :
    wpAny (model prog w) (ktrTop dp un gd cn cs L a ccd cl outer) (call (.ref 80) [.ref x, .str nm t]) Q E s :=
  gniC P B F X N S ap hsz T hk hdp hun fun h' tk' l' od' i F' N' S' ap' e' => by
    obtain ⟨la, lb, rfl⟩ := List.append_of_mem e'.2.1
    exact ret h' tk' la lb od' i F' (by have N9 := focusN (P := P ++ head3 x dx d (sD d rv po nf τ) n od') (by rw [List.append_assoc]; exact N'); rwa [List.append_assoc] at N9) S' ap' e' (S'.focP ap')
end
end Mine
local macro_rules | `(tactic| k_clsL) => `(tactic| (intro q9 h9; simp only [List.mem_cons, List.mem_append, List.not_mem_nil, or_false, infosOf_append, infosOf_cons, infosOf_nil, NI.ob, NI.lo, NI.setNp, NI.push] at h9 ⊢; (repeat' (with_reducible refine Or.elim h9 (fun h9 => ?_) (fun h9 => ?_))) <;> (first | (simp only [h9, true_or, or_true]; done) | (simp [h9]; done))))
namespace Mine
namespace SM04
def h9s_stops := sT
theorem h9r0 : StopRef 80 := trivial
end SM04
open SM04
abbrev tupOf (vs : List Value) : Obj := { cls := .type "tuple", data := .seq vs.toArray }
section
theorem small_put {l1 l2 : List NI} {i i' : NI} {k : Nat} (h : (l1 ++ i :: l2).length ≤ k + 1 ∧ ∀ j ∈ l1 ++ i :: l2, j.sv.length ≤ k) (hs : i'.sv.length ≤ k + 1) : Small (l1 ++ i' :: l2) (k + 1) :=
 ⟨by have := h.1; simp only [List.length_append, List.length_cons] at this ⊢; exact this, fun q hq => (List.mem_append.mp hq).elim (fun hq => Nat.le_succ_of_le (h.2 q (List.mem_append_left _ hq))) fun hq =>
  (List.mem_cons.mp hq).elim (fun e => e ▸ hs) fun hq => Nat.le_succ_of_le (h.2 q (List.mem_append_right _ (.tail _ hq)))⟩
section
variable {prog : Program} {w : World} {p : Program} {loose : List Str} {mean : ExcName → Option Value} {mg mb : Str → Option Value}
 {dp un : Nat} {gd : Option (List Code)} {cn : Str} {cs : Scope} {a : Addr} {ccd : Value} {cl : List (Str × Addr)} {outer : List Env} {A₀ : Around} {base h₀ : Heap} {L : Addr} {m : Str → Option Value} {s : Shared} {Q E : Value → Shared → Prop}
def add2_S {x dx d : Addr} {τ : SdT} {po nf : Int} {n : Nat} {od : Obj} {l : List NI} {nm pm : Str} {t u : Tok} {rest : List (Addr × Obj)} : Prop := ∀ (B : Below A₀ base outer h₀) (F : Fr h₀ L s.heap m) (X : (KK w.params).In h₀) (N : News h₀ L s.heap (head3 x dx d (sD d .none po nf τ) n od ++ (infosOf l ++ rest))) (S : Sor prog w x dx d od l) (ap : SApart x dx d l rest) {k : Nat} (hsz : Small l k) (hk9 : k ≤ 900) (T : Top p loose mean mg mb h₀) (hk : cs.kind = .function) (hdp : dp < 349) (hun : un < 297) (ret : ∀ h' tk' l' od', Fr h₀ L h' m → News h₀ L h' (head3 x dx d (sD d .none po nf τ) n od' ++ (infosOf l' ++ rest)) →
     Sor prog w x dx d od' l' → SApart x dx d l' rest → Small l' (k + 2) → absN l' = pAdd2 (absN l) nm pm → Q .none { s with heap := h', toks := tk' }),
    wpAny (model prog w) (ktrTop dp un gd cn cs L a ccd cl outer) (call (.ref 87) [.ref x, .str nm t, .str pm u]) Q E s
end
abbrev add2_u (z9 : St1 × St2 × St3 × St4 × (Addr × Addr × Addr × SdT × Int × Int) × (Nat × Obj × (List NI) × Str × Str × Tok) × (Tok × (List (Addr × Obj)))) : Prop := u2 (u6 (u6 (u6 (u6 (u6 (u6 @add2_S z9.1) z9.2.1) z9.2.2.1) z9.2.2.2.1) z9.2.2.2.2.1) z9.2.2.2.2.2.1) z9.2.2.2.2.2.2
def add2_c := eps (by walk_at "ne") add2_u
namespace Kadd2
@[irreducible] def prog := add2_c.1.1
@[irreducible] def w := add2_c.1.2.1
@[irreducible] def p := add2_c.1.2.2.1
@[irreducible] def loose := add2_c.1.2.2.2.1
@[irreducible] def mean := add2_c.1.2.2.2.2.1
@[irreducible] def mg := add2_c.1.2.2.2.2.2
@[irreducible] def mb := add2_c.2.1.1
@[irreducible] def dp := add2_c.2.1.2.1
@[irreducible] def un := add2_c.2.1.2.2.1
@[irreducible] def gd := add2_c.2.1.2.2.2.1
@[irreducible] def cn := add2_c.2.1.2.2.2.2.1
@[irreducible] def cs := add2_c.2.1.2.2.2.2.2
@[irreducible] def a := add2_c.2.2.1.1
@[irreducible] def ccd := add2_c.2.2.1.2.1
@[irreducible] def cl := add2_c.2.2.1.2.2.1
@[irreducible] def outer := add2_c.2.2.1.2.2.2.1
@[irreducible] def A₀ := add2_c.2.2.1.2.2.2.2.1
@[irreducible] def base := add2_c.2.2.1.2.2.2.2.2
@[irreducible] def h₀ := add2_c.2.2.2.1.1
@[irreducible] def L := add2_c.2.2.2.1.2.1
@[irreducible] def m := add2_c.2.2.2.1.2.2.1
@[irreducible] def s := add2_c.2.2.2.1.2.2.2.1
@[irreducible] def Q := add2_c.2.2.2.1.2.2.2.2.1
@[irreducible] def E := add2_c.2.2.2.1.2.2.2.2.2
@[irreducible] def x := add2_c.2.2.2.2.1.1
@[irreducible] def dx := add2_c.2.2.2.2.1.2.1
@[irreducible] def d := add2_c.2.2.2.2.1.2.2.1
@[irreducible] def τ := add2_c.2.2.2.2.1.2.2.2.1
@[irreducible] def po := add2_c.2.2.2.2.1.2.2.2.2.1
@[irreducible] def nf := add2_c.2.2.2.2.1.2.2.2.2.2
@[irreducible] def n := add2_c.2.2.2.2.2.1.1
@[irreducible] def od := add2_c.2.2.2.2.2.1.2.1
@[irreducible] def l := add2_c.2.2.2.2.2.1.2.2.1
@[irreducible] def nm := add2_c.2.2.2.2.2.1.2.2.2.1
@[irreducible] def pm := add2_c.2.2.2.2.2.1.2.2.2.2.1
@[irreducible] def t := add2_c.2.2.2.2.2.1.2.2.2.2.2
@[irreducible] def u := add2_c.2.2.2.2.2.2.1
@[irreducible] def rest := add2_c.2.2.2.2.2.2.2
end Kadd2
section
open Kadd2
theorem add2_0 : @add2_S prog w p loose mean mg mb dp un gd cn cs a ccd cl outer A₀ base h₀ L m s Q E x dx d τ po nf n od l nm pm t u rest := by
 have e9 : EpsOn := trivial
 unfold add2_S
 intro B F X N S ap k hsz hk9 T hk hdp hun ret
 refine wpAny_call ?_
 k_keys
 intro D g1 L1 g2 lD FG1 F1 N1 B1 X1 T1
 change Fr g1 L1 g2 (fun y => List.lookup y [("predecessors", .ref D), ("node", .str nm t), ("self", .ref x)]) at F1
 dsimp only [head3, List.cons_append, List.nil_append] at N1 lD
 (try dsimp only); (try k_fold)
 k_steps
 show wpAny _ _ (call _ _) _ _ _
 refine gniD [(D, tupOf [.str pm u])] B1 (by k_asm) X1 N1 S (ap.freshL lD) (Nat.le_trans hsz.1 (Nat.le_trans hk9 (by decide))) T1 rfl (Nat.succ_lt_succ hdp) (Nat.add_lt_add_right hun 3) ?_
 intro g3 tk3 la3 lb3 od3 i F3 N4 S3 ap3 e3 fp
 clear N1 S lD
 have z3 := e3.small hsz
 walk_at "hide"
 obtain ⟨f1, f2, f3, f4, f5, f6, f7, f8, f9, c10, c11, f12, f13, b1, b2, b3⟩ := fp
 walk_at "unhide"
 replace f12 : @Ne Nat D i.ia := f12 _ (.head _)
 replace f13 : @Ne Nat D i.la := f13 _ (.head _)
 dsimp only [head3, List.cons_append, List.nil_append] at N4
 k_steps
 show wpAny _ _ (pyIter _) _ _ _
 refine iter_tupTurns (lo := tupOf [.str pm u]) (vs := [.str pm u]) rfl (by k_asm) (by k_asm) (by k_mem) rfl rfl ?_
 intro I lI
 (refine ItemsRest.val1 ?_; intro h5 tk5 io hio F5 N5)
 have ap6 := (ap3.put (i' := i.setNp (i.np + 1) 0) rfl rfl rfl).freshF (o := io) (P := [(D, tupOf [.str pm u])]) (i := i.setNp (i.np + 1) 0) lI
 replace lI : (∀ q ∈ infosOf (la3 ++ lb3) ++ rest, @LT.lt Nat _ q.1 I) ∧ @LT.lt Nat _ i.ia I ∧ @LT.lt Nat _ i.la I ∧ @LT.lt Nat _ D I ∧ @LT.lt Nat _ x I ∧ @LT.lt Nat _ dx I ∧ @LT.lt Nat _ d I :=
  ⟨fun q hq => lI q (tl4 (tl3 hq)), lI _ (.head _), lI _ (.tail _ (.head _)), lI _ (tl3 (.head _)), lI _ (tl4 (.head _)), lI _ (tl4 (.tail _ (.head _))), lI _ (tl4 (tl2 (.head _))) ⟩
 dsimp only [List.cons_append, List.nil_append] at N5
 k_steps
 show wpAny _ _ (call _ _) _ _ _
 obtain ⟨tq, N6⟩ := tok_ex (P := fun tq => News g1 L1 _ ((I, io) :: (i.ia, nodeObj i.da i.la i.nm i.tn (i.np + 1) tq) :: (i.la, i.lo) :: (i.da, dictOf [] 0) :: (D, tupOf [.str pm u]) :: (x, instObj 137 dx) :: (dx, dictOf (sD d .none po nf τ) n) :: (d, od3) :: (infosOf (la3 ++ lb3) ++ rest))) (by k_asm)
 revert tq
 intro tq N6
 clear N5
 have S6 : Sor prog w x dx d od3 (la3 ++ i.setNp (i.np + 1) tq :: lb3) := S3.put (i := i) (i' := i.setNp (i.np + 1) tq) rfl rfl rfl rfl (S3.strOk i e3.2.1)
 have z6 := small_put (i' := i.setNp (i.np + 1) tq) z3 (Nat.le_succ_of_le (z3.2 i e3.2.1))
 have e7 := abs_put (f := fun q => (q.1 + 1, q.2)) S3.names (show (i.setNp (i.np + 1) tq).nm = i.nm from rfl) rfl
 rw [e3.abs, e3.1] at e7
 refine gniD [(I, io), (D, tupOf [.str pm u])] B1 (by k_asm) X1 (unfocusN (Q := [(I, io)]) (P := (D, tupOf [.str pm u]) :: head3 x dx d (sD d .none po nf τ) n od3) (i := i.setNp (i.np + 1) tq) N6) S6 (SApart.put (i := i.setNp (i.np + 1) 0) ap6 rfl rfl rfl) (Nat.le_trans z6.1 (Nat.le_trans (Nat.succ_le_succ hk9) (by decide))) T1 rfl (Nat.succ_lt_succ hdp) (Nat.add_lt_add_right hun 3) ?_
 clear N6 c10 c11 f1 f2 f3 f4 f5 f6 f7 f8 f9 f12 f13 S3 ap3 S6 ap6 z3
 intro h8 tk8 la8 lb8 od8 j F8 N9 S8 ap8 e8 fp8
 have z8 := e8.small z6
 have z9 := z8.2 j e8.2.1
 walk_at "hide"
 obtain ⟨v1, v2, v3, v4, v5, v6, v7, v8, v9, c10, c11, v12, v13, _, _, _⟩ := fp8
 walk_at "unhide"
 have v14 : @Ne Nat I j.la := v13 _ (.head _)
 replace v13 : @Ne Nat D j.la := v13 _ (.tail _ (.head _))
 clear v12
 dsimp only [head3, List.cons_append, List.nil_append] at N9
 k_steps
 show UnrEndW _ _ _ _ _ _
 have vI : ∀ p ∈ infosOf (la8 ++ j.push (.str nm t) nm :: lb8) ++ rest, p.1 ≠ I := fun q hq => (List.mem_append.mp hq).elim (fun h e => by
  have h0 := ap8 (I, io) (.head _)
  have h1 := mem_adrs h
  rw [adrs_put (i := j) (i' := j.push (.str nm t) nm) rfl rfl rfl, e] at h1
  exact h0 (tl3 h1)) (fun h => Nat.ne_of_lt (lI.1 q (List.mem_append_right _ h)))
 refine unrEnd1 (news' := (D, tupOf [.str pm u]) :: (x, instObj 137 dx) :: (dx, dictOf (sD d .none po nf τ) n) :: (d, od8) :: (infosOf (la8 ++ j.push (.str nm t) nm :: lb8) ++ rest)) (by k_asm)
  (unfocusN (Q := []) (P := (I, io) :: (D, tupOf [.str pm u]) :: head3 x dx d (sD d .none po nf τ) n od8) (i := j.push (.str nm t) nm) (by k_asm)) (List.forall_mem_cons.mpr ⟨Nat.ne_of_lt lI.2.2.2.1, List.forall_mem_cons.mpr ⟨Nat.ne_of_lt lI.2.2.2.2.1, List.forall_mem_cons.mpr ⟨Nat.ne_of_lt lI.2.2.2.2.2.1, List.forall_mem_cons.mpr ⟨Nat.ne_of_lt lI.2.2.2.2.2.2, vI⟩⟩⟩⟩) ⟨⟨List.mem_cons_self .., trivial⟩, ?_⟩
 (refine ItemsRest.zero ?_; intro h9 tk9 F9 N9)
 k_steps
 with_reducible rename Fr h₀ L _ m => kF
 with_reducible rename News h₀ L _ (_ :: _) => kN
 refine ret _ _ (la8 ++ j.push (.str nm t) nm :: lb8) od8 kF (fun q hq => kN q (.tail _ hq)) (S8.put (i := j) (i' := j.push (.str nm t) nm) rfl rfl rfl rfl (StrsAre.append' (S8.strOk j e8.2.1) (.cons nm t .nil)))
  (SApart.put (i := j) (i' := j.push (.str nm t) nm) (fun q hq => ap8 q (tl2 hq)) rfl rfl rfl) (small_put z8 (by show (j.sv ++ [_]).length ≤ k + 2; rw [List.length_append]; exact Nat.succ_le_succ z9)) ?_
 have e9 := abs_put (f := fun q => (q.1, q.2 ++ [nm])) S8.names (show (j.push (.str nm t) nm).nm = j.nm from rfl) rfl
 rw [e8.abs, e8.1, e7] at e9
 exact e9
end
theorem add2 {prog w p loose mean mg mb dp un gd cn cs a ccd cl outer A₀ base h₀ L m s Q E x dx d τ po nf n od l nm pm t u rest} : @add2_S prog w p loose mean mg mb dp un gd cn cs a ccd cl outer A₀ base h₀ L m s Q E x dx d τ po nf n od l nm pm t u rest :=
 eps_all (S := add2_u) add2_c rfl (by have := add2_0; with_unfolding_all assumption) ((prog, w, p, loose, mean, mg), (mb, dp, un, gd, cn, cs), (a, ccd, cl, outer, A₀, base), (h₀, L, m, s, Q, E), (x, dx, d, τ, po, nf), (n, od, l, nm, pm, t), (u, rest))
section
variable {prog : Program} {w : World} {p : Program} {loose : List Str} {mean : ExcName → Option Value} {mg mb : Str → Option Value}
 {dp un : Nat} {gd : Option (List Code)} {cn : Str} {cs : Scope} {a : Addr} {ccd : Value} {cl : List (Str × Addr)} {outer : List Env} {A₀ : Around} {base h₀ : Heap} {L : Addr} {m : Str → Option Value} {s : Shared} {Q E : Value → Shared → Prop}
def add1_S {x dx d : Addr} {τ : SdT} {po nf : Int} {n : Nat} {od : Obj} {l : List NI} {nm : Str} {t : Tok} {rest : List (Addr × Obj)} : Prop := ∀ (B : Below A₀ base outer h₀) (F : Fr h₀ L s.heap m) (X : (KK w.params).In h₀) (N : News h₀ L s.heap (head3 x dx d (sD d .none po nf τ) n od ++ (infosOf l ++ rest))) (S : Sor prog w x dx d od l) (ap : SApart x dx d l rest) {k : Nat} (hsz : Small l k) (hk9 : k ≤ 900) (T : Top p loose mean mg mb h₀) (hk : cs.kind = .function) (hdp : dp < 349) (hun : un < 297) (ret : ∀ h' tk' l' od', Fr h₀ L h' m → News h₀ L h' (head3 x dx d (sD d .none po nf τ) n od' ++ (infosOf l' ++ rest)) →
     Sor prog w x dx d od' l' → SApart x dx d l' rest → Small l' (k + 2) → absN l' = pEns (absN l) nm → Q .none { s with heap := h', toks := tk' }),
    wpAny (model prog w) (ktrTop dp un gd cn cs L a ccd cl outer) (call (.ref 87) [.ref x, .str nm t]) Q E s
end
abbrev add1_u (z9 : St1 × St2 × St3 × St4 × (Addr × Addr × Addr × SdT × Int × Int) × (Nat × Obj × (List NI) × Str × Tok × (List (Addr × Obj)))) : Prop := u6 (u6 (u6 (u6 (u6 (u6 @add1_S z9.1) z9.2.1) z9.2.2.1) z9.2.2.2.1) z9.2.2.2.2.1) z9.2.2.2.2.2
def add1_c := eps (by walk_at "ne") add1_u
namespace Kadd1
@[irreducible] def prog := add1_c.1.1
@[irreducible] def w := add1_c.1.2.1
@[irreducible] def p := add1_c.1.2.2.1
@[irreducible] def loose := add1_c.1.2.2.2.1
@[irreducible] def mean := add1_c.1.2.2.2.2.1
@[irreducible] def mg := add1_c.1.2.2.2.2.2
@[irreducible] def mb := add1_c.2.1.1
@[irreducible] def dp := add1_c.2.1.2.1
@[irreducible] def un := add1_c.2.1.2.2.1
@[irreducible] def gd := add1_c.2.1.2.2.2.1
@[irreducible] def cn := add1_c.2.1.2.2.2.2.1
@[irreducible] def cs := add1_c.2.1.2.2.2.2.2
@[irreducible] def a := add1_c.2.2.1.1
@[irreducible] def ccd := add1_c.2.2.1.2.1
@[irreducible] def cl := add1_c.2.2.1.2.2.1
@[irreducible] def outer := add1_c.2.2.1.2.2.2.1
@[irreducible] def A₀ := add1_c.2.2.1.2.2.2.2.1
@[irreducible] def base := add1_c.2.2.1.2.2.2.2.2
@[irreducible] def h₀ := add1_c.2.2.2.1.1
@[irreducible] def L := add1_c.2.2.2.1.2.1
@[irreducible] def m := add1_c.2.2.2.1.2.2.1
@[irreducible] def s := add1_c.2.2.2.1.2.2.2.1
@[irreducible] def Q := add1_c.2.2.2.1.2.2.2.2.1
@[irreducible] def E := add1_c.2.2.2.1.2.2.2.2.2
@[irreducible] def x := add1_c.2.2.2.2.1.1
@[irreducible] def dx := add1_c.2.2.2.2.1.2.1
@[irreducible] def d := add1_c.2.2.2.2.1.2.2.1
@[irreducible] def τ := add1_c.2.2.2.2.1.2.2.2.1
@[irreducible] def po := add1_c.2.2.2.2.1.2.2.2.2.1
@[irreducible] def nf := add1_c.2.2.2.2.1.2.2.2.2.2
@[irreducible] def n := add1_c.2.2.2.2.2.1
@[irreducible] def od := add1_c.2.2.2.2.2.2.1
@[irreducible] def l := add1_c.2.2.2.2.2.2.2.1
@[irreducible] def nm := add1_c.2.2.2.2.2.2.2.2.1
@[irreducible] def t := add1_c.2.2.2.2.2.2.2.2.2.1
@[irreducible] def rest := add1_c.2.2.2.2.2.2.2.2.2.2
end Kadd1
section
open Kadd1
theorem add1_0 : @add1_S prog w p loose mean mg mb dp un gd cn cs a ccd cl outer A₀ base h₀ L m s Q E x dx d τ po nf n od l nm t rest := by
 have e9 : EpsOn := trivial
 unfold add1_S
 intro B F X N S ap k hsz hk9 T hk hdp hun ret
 refine wpAny_call ?_
 k_keys
 intro D g1 L1 g2 lD FG1 F1 N1 B1 X1 T1
 change Fr g1 L1 g2 (fun y => List.lookup y [("predecessors", .ref D), ("node", .str nm t), ("self", .ref x)]) at F1
 dsimp only [head3, List.cons_append, List.nil_append] at N1 lD
 (try dsimp only); (try k_fold)
 k_steps
 show wpAny _ _ (call _ _) _ _ _
 refine gniD [(D, tupOf [])] B1 (by k_asm) X1 N1 S (ap.freshL lD) (Nat.le_trans hsz.1 (Nat.le_trans hk9 (by decide))) T1 rfl (Nat.succ_lt_succ hdp) (Nat.add_lt_add_right hun 3) ?_
 intro g3 tk3 la3 lb3 od3 i F3 N4 S3 ap3 e3 fp
 clear N1 S lD
 have z3 := e3.small hsz
 walk_at "hide"
 obtain ⟨f1, f2, f3, f4, f5, f6, f7, f8, f9, c10, c11, f12, f13, b1, b2, b3⟩ := fp
 walk_at "unhide"
 replace f12 : @Ne Nat D i.ia := f12 _ (.head _)
 replace f13 : @Ne Nat D i.la := f13 _ (.head _)
 dsimp only [head3, List.cons_append, List.nil_append] at N4
 k_steps
 show wpAny _ _ (pyIter _) _ _ _
 refine iter_tupTurns (lo := tupOf []) (vs := []) rfl (by k_asm) (by k_asm) (by k_mem) rfl rfl ?_
 intro I lI
 (refine ItemsRest.zero ?_; intro h9 tk9 F9 N9)
 k_steps
 with_reducible rename Fr h₀ L _ m => kF
 obtain ⟨tq, N6⟩ := tok_ex (P := fun tq => News h₀ L _ ((i.ia, nodeObj i.da i.la i.nm i.tn (i.np + 0) tq) :: (i.la, i.lo) :: (i.da, dictOf [] 0) :: (D, tupOf []) :: (x, instObj 137 dx) :: (dx, dictOf (sD d .none po nf τ) n) :: (d, od3) :: (infosOf (la3 ++ lb3) ++ rest))) (by k_asm)
 revert tq
 intro tq N6
 refine ret _ _ (la3 ++ i.setNp (i.np + 0) tq :: lb3) od3 kF (fun q hq => unfocusN (Q := []) (P := (D, tupOf []) :: head3 x dx d (sD d .none po nf τ) n od3) (i := i.setNp (i.np + 0) tq) N6 q (.tail _ hq)) (S3.put (i := i) (i' := i.setNp (i.np + 0) tq) rfl rfl rfl rfl (S3.strOk i e3.2.1))
  (SApart.put (i := i) (i' := i.setNp (i.np + 0) tq) (fun q hq => ap3 q (.tail _ hq)) rfl rfl rfl) ?_ ?_
 ·have z4 := small_put (i' := i.setNp (i.np + 0) tq) z3 (Nat.le_succ_of_le (z3.2 i e3.2.1))
  exact ⟨Nat.le_succ_of_le z4.1, fun q hq => Nat.le_succ_of_le (z4.2 q hq)⟩
 ·rw [← e3.abs]
  simp only [absN, List.map_append, List.map_cons, Int.add_zero]
end
theorem add1 {prog w p loose mean mg mb dp un gd cn cs a ccd cl outer A₀ base h₀ L m s Q E x dx d τ po nf n od l nm t rest} : @add1_S prog w p loose mean mg mb dp un gd cn cs a ccd cl outer A₀ base h₀ L m s Q E x dx d τ po nf n od l nm t rest :=
 eps_all (S := add1_u) add1_c rfl (by have := add1_0; with_unfolding_all assumption) ((prog, w, p, loose, mean, mg), (mb, dp, un, gd, cn, cs), (a, ccd, cl, outer, A₀, base), (h₀, L, m, s, Q, E), (x, dx, d, τ, po, nf), (n, od, l, nm, t, rest))
end
end Mine
namespace Mine
namespace R
theorem lk_li_ga : typeLookup (.type "list_iterator") "__getattribute__" = pure (some (.builtin "object.__getattribute__")) := by rw [typeLookup_type, builtinLookup_eq_fast]; kernel_rfl
theorem slot_li_ga : Slot "list_iterator" "__getattribute__" "object.__getattribute__" :=
 .of (owner := "object") (n := "__getattribute__") (by rw [typeLookup_type, builtinLookup_eq_fast]; kernel_rfl) (by decide +kernel) (by decide +kernel) (by decide +kernel)
  (by first | exact .inl (by decide +kernel) | exact .inr (by decide +kernel)) (by rw [isSubtype_type]; kernel_rfl)
theorem entry_obj_ga : entryFor table "object.__getattribute__" = some Builtin.«object.__getattribute__» := entryFor_of_tree (by kernel_rfl)
theorem args_obj_ga (a b : Value) : argsOk "object.__getattribute__" ⟨[a, b], []⟩ := by unfold argsOk; kernel_rfl
theorem lk_li_next : typeLookup (.type "list_iterator") "__next__" = pure (some (.builtin "list_iterator.__next__")) := by rw [typeLookup_type, builtinLookup_eq_fast]; kernel_rfl
theorem ty_next : typeOf (.builtin "list_iterator.__next__") = pure (.type "wrapper_descriptor") := by show builtinType _ = _; rw [builtinType_eq_fast]; kernel_rfl
theorem slot_wd_get : Slot "wrapper_descriptor" "__get__" "wrapper_descriptor.__get__" :=
 .of (owner := "wrapper_descriptor") (n := "__get__") (by rw [typeLookup_type, builtinLookup_eq_fast]; kernel_rfl) (by decide +kernel) (by decide +kernel) (by decide +kernel)
  (by first | exact .inl (by decide +kernel) | exact .inr (by decide +kernel)) (by rw [isSubtype_type]; kernel_rfl)
theorem entry_wd_get : entryFor table "wrapper_descriptor.__get__" = some Builtin.«wrapper_descriptor.__get__» := entryFor_of_tree (by kernel_rfl)
theorem args_wd_get (a b c : Value) : argsOk "wrapper_descriptor.__get__" ⟨[a, b, c], []⟩ := by unfold argsOk; kernel_rfl
theorem wd_noset : typeLookup (.type "wrapper_descriptor") "__set__" = pure none := by rw [typeLookup_type, builtinLookup_eq_fast]; kernel_rfl
theorem wd_nodel : typeLookup (.type "wrapper_descriptor") "__delete__" = pure none := by rw [typeLookup_type, builtinLookup_eq_fast]; kernel_rfl
theorem li_getattr_none : typeLookup (.type "list_iterator") "__getattr__" = pure none := by rw [typeLookup_type, builtinLookup_eq_fast]; kernel_rfl
theorem sub_li : isSubtype (.type "list_iterator") (.type "list_iterator") = pure true := by rw [isSubtype_type]; kernel_rfl
theorem entry_li_next : entryFor table "list_iterator.__next__" = some Builtin.«list_iterator.__next__» := entryFor_of_tree (by kernel_rfl)
theorem quiet_li_next {as : Args} : (Code.builtin "list_iterator.__next__" as).quiet = true := Code.quiet_builtin _ (by decide +kernel)
theorem owner_li_next : (".".intercalate ("list_iterator.__next__".cutAt '.').dropLast) = "list_iterator" := by first | decide +kernel | kernel_rfl
end R
abbrev itObj (la : Addr) (pos : Nat) : Obj := { cls := .type "list_iterator", data := .fields #[.ref la, .int pos 0] }
abbrev nxObj (I : Addr) : Obj := { cls := .type "method-wrapper", data := .fields #[.builtin "list_iterator.__next__", .ref I] }
section
variable {prog : Program} {w : World} {A : Around} {E : Value → Shared → Prop} {h : Heap} {g : Array GenState} {d : Drawn} {t : Nat} {os : OsState} {I la : Addr} {pos : Nat}
theorem wd_get {P : Fin → Shared → Prop} (hx : h.get? I = some (itObj la pos)) (hq : P (.done (.ret (.ref h.objs.size))) ⟨h.push (nxObj I), g, d, t, os⟩) :
  wpAny (model prog w) A (Builtin.«wrapper_descriptor.__get__» ⟨[.builtin "list_iterator.__next__", .ref I, .type "list_iterator"], []⟩) P E ⟨h, g, d, t, os⟩ := by
 have hT : (⟨h, g, d, t, os⟩ : Shared).TypeIs (.ref I) "list_iterator" := ⟨_, hx, rfl⟩
 have f1 := R.sub_li
 have f2 : (kfb_private% "ownerAndName") "list_iterator.__next__" = ("list_iterator", "__next__") := by first | decide +kernel | kernel_rfl
 unfold Builtin.«wrapper_descriptor.__get__»
 refine wpAny_bind (wpAny_of_eq (a := (.builtin "list_iterator.__next__", some (.ref I), some (.type "list_iterator"))) (by first | rfl | kernel_rfl) ?_)
 dsimp only
 show wpAny _ _ ((kfb_private% "checkInstance") _ _ >>= _) _ _ _
 refine wpAny_bind ?_
 refine wpAny_bind (m := (kfb_private% "nameAndClass") (.builtin "list_iterator.__next__")) ?_
 refine wpAny_of_eq (a := (Str.ofString "__next__", .type "list_iterator")) (by first | rfl | kernel_rfl) ?_
 dsimp only
 repeat (any_goals (first | assumption | wp_step))
theorem wd_call {RR : Result → Shared → Prop} (hx : h.get? I = some (itObj la pos)) (hq : RR (.ok (.ret (.ref h.objs.size))) ⟨h.push (nxObj I), g, d, t, os⟩) :
  codeAny (model prog w) A (.call (.builtin "wrapper_descriptor.__get__") ⟨[.builtin "list_iterator.__next__", .ref I, .type "list_iterator"], []⟩) RR ⟨h, g, d, t, os⟩ := by
 have hT5 : (⟨h, g, d, t, os⟩ : Shared).TypeIs (.builtin "list_iterator.__next__") "wrapper_descriptor" := R.ty_next
 refine codeAny_call_builtin R.slot_wd_get.plain R.entry_wd_get (R.slot_wd_get.check _ _ _ _ _ _ _ _ hT5 (R.args_wd_get _ _ _) ?_)
 exact wd_get hx hq
theorem nx_entry {tk : Tok} {Q : Fin → Shared → Prop} (hx : h.get? I = some (itObj la pos)) (hq : Q (.done (.ret (.ref h.objs.size))) ⟨h.push (nxObj I), g, d, t, os⟩) :
  wpAny (model prog w) A (Builtin.«object.__getattribute__» ⟨[.ref I, .str "__next__" tk], []⟩) Q E ⟨h, g, d, t, os⟩ := by
 have hT : (⟨h, g, d, t, os⟩ : Shared).TypeIs (.ref I) "list_iterator" := ⟨_, hx, rfl⟩
 have hT5 : (⟨h, g, d, t, os⟩ : Shared).TypeIs (.builtin "list_iterator.__next__") "wrapper_descriptor" := R.ty_next
 have f4 := R.lk_li_next
 have f5 := R.ty_next
 have f6 := R.slot_wd_get.lookup
 have f7 := R.wd_noset
 have f8 := R.wd_nodel
 repeat (any_goals (first | assumption | wp_step))
 refine wd_call hx ?_
 repeat (any_goals (first | assumption | wp_step))
theorem nx_call {tk : Tok} {RR : Result → Shared → Prop} (hx : h.get? I = some (itObj la pos)) (hq : RR (.ok (.ret (.ref h.objs.size))) ⟨h.push (nxObj I), g, d, t, os⟩) :
  codeAny (model prog w) A (.call (.builtin "object.__getattribute__") ⟨[.ref I, .str "__next__" tk], []⟩) RR ⟨h, g, d, t, os⟩ := by
 refine codeAny_call_builtin R.slot_li_ga.plain R.entry_obj_ga (R.slot_li_ga.check _ _ _ _ _ _ _ _ (show (⟨h, g, d, t, os⟩ : Shared).TypeIs (.ref I) "list_iterator" from ⟨_, hx, rfl⟩) (R.args_obj_ga _ _) (nx_entry hx hq))
theorem nx_by {tk : Tok} {expr : Bool} {Q : Value → Shared → Prop} (hx : h.get? I = some (itObj la pos))
  (hq : Q (.ref h.objs.size) ⟨h.push (nxObj I), g, d, t, os⟩) : wpAny (model prog w) A (getAttrBy (.ref I) (.str "__next__" tk) true expr) Q E ⟨h, g, d, t, os⟩ := by
 have hT : (⟨h, g, d, t, os⟩ : Shared).TypeIs (.ref I) "list_iterator" := ⟨_, hx, rfl⟩
 have f1 := R.li_getattr_none
 have f2 := R.slot_li_ga.lookup
 have f3 := R.slot_li_ga.bind (.ref I)
 have hx0 : (expr && onTheHeap (Value.builtin "object.__getattribute__")) = false := by cases expr <;> rfl
 repeat (any_goals (first | assumption | wp_step))
 refine nx_call hx ?_
 repeat (any_goals (first | assumption | wp_step))
theorem nx_attr {expr : Bool} {Q : Value → Shared → Prop} (hx : h.get? I = some (itObj la pos))
  (hq : Q (.ref h.objs.size) ⟨h.push (nxObj I), g, d, t + 1, os⟩) : wpAny (model prog w) A (getAttr (.ref I) "__next__" expr) Q E ⟨h, g, d, t, os⟩ := by
 unfold getAttr
 repeat (any_goals (first | assumption | with_reducible apply nx_by hx | wp_step))
end
theorem iter_args (x : Value) : argsOk "iter" ⟨[x], []⟩ := by unfold argsOk; kernel_rfl
theorem iter_kind : builtinKind "iter" = none := by first | rfl | decide +kernel
theorem iter_plain : plainId "iter" = true := by first | rfl | decide +kernel
theorem iter_entry : entryFor table "iter" = some Builtin.«iter» := entryFor_of_tree (by kernel_rfl)
abbrev endIt (pos : Nat) : Obj := { cls := .type "list_iterator", data := .fields #[.none, .int pos 0] }
section
variable {prog : Program} {w : World} {A : Around} {E : Value → Shared → Prop} {s : Shared} {h₀ : Heap} {L : Addr} {m : Str → Option Value} {news : List (Addr × Obj)} {I la W : Addr} {pos : Nat}
theorem iter_list_N {vs : List Value} {nc : Nat} {Q : Value → Shared → Prop} (F : Fr h₀ L s.heap m) (N : News h₀ L s.heap news) (hm : (la, seqObj "list" vs.toArray nc) ∈ news)
  (h : ∀ I h', Fr h₀ L h' m → News h₀ L h' ((I, itObj la 0) :: news) → (∀ p ∈ news, p.1 < I) → Q (.ref I) { s with heap := h' }) :
  wpAny (model prog w) A (call (.builtin "iter") [.ref la]) Q E s := by
 refine call_function_entry iter_kind iter_plain iter_entry (iter_args _) ?_
 have hl : s.heap.IsList la vs.toArray := ⟨_, N.get hm, rfl, _, rfl⟩
 unfold Builtin.«iter»
 refine wpAny_bind (wpAny_of_eq (a := [.ref la]) (by first | rfl | kernel_rfl) ?_)
 refine wpAny_bind (wpAny_pyIter_list hl ?_)
 exact wpAny_pure ⟨_, rfl, h _ _ (F.push _) (News.push F N _) fun p hp => Heap.lt_size (N p hp).1⟩
theorem next_attr_N {expr : Bool} {Q : Value → Shared → Prop} (F : Fr h₀ L s.heap m) (N : News h₀ L s.heap news) (hm : (I, itObj la pos) ∈ news)
  (h : ∀ W h', Fr h₀ L h' m → News h₀ L h' ((W, nxObj I) :: news) → (∀ p ∈ news, p.1 < W) → Q (.ref W) { s with heap := h', toks := s.toks + 1 }) :
  wpAny (model prog w) A (getAttr (.ref I) "__next__" expr) Q E s := by
 walk_at "hide"
 obtain ⟨hp, g, d, t, os⟩ := s
 walk_at "unhide"
 exact nx_attr (N.get hm) (h _ _ (F.push _) (News.push F N _) fun p hp => Heap.lt_size (N p hp).1)
theorem callWith_next {ps : Pos} {u : Addr} {Q : Value → Shared → Prop} (N : News h₀ L s.heap news) (hm : (u, nxObj I) ∈ news)
  (h : wpAny (model prog w) A (call (.ref u) []) Q E s) : wpAny (model prog w) A (callWith ps (.ref u) [] [] []) Q E s := by
 unfold callWith
 refine wpAny_bind (wpAny_holding (evalArgs_nil3 ?_))
 refine wpAny_bind (wpAny_standAt ?_)
 refine wpAny_bind (m := keeperOf (.ref u)) ?_
 unfold keeperOf
 refine wpAny_bind (wpAny_load (N.get hm) ?_)
 simp only [show (Value.type "method-wrapper" != Value.type "method") = true by decide, show (Value.type "method-wrapper" == Value.type "builtin_function_or_method" || Value.type "method-wrapper" == Value.type "method-wrapper") = true by decide, if_true]
 refine wpAny_pure ?_
 exact wpAny_bind (wpAny_mono h (fun r s₂ hr => wpAny_bind (wpAny_holding (wpAny_point (wpAny_pure hr)))) fun _ _ x => x)
theorem next_check (x : Value) : checkBoundCall "list_iterator.__next__" ⟨[x], []⟩ = pure () := by first | rfl | kernel_rfl
theorem call_next {Q : Value → Shared → Prop} (N : News h₀ L s.heap news) (hw : (W, nxObj I) ∈ news)
  (h : wpAny (model prog w) A.in1 (Builtin.«list_iterator.__next__» ⟨[.ref I], []⟩) (fun fin s' => ∃ v, fin = .done (.ret v) ∧ Q v s') E s) :
  wpAny (model prog w) A (call (.ref W) []) Q E s := by
 refine wpAny_call (codeAny_of_tree ?_)
 show wpAny _ _ (callAny (.ref W) _) _ _ _
 simp only [callAny]
 refine wpAny_bind (wpAny_load (N.get hw) ?_)
 show wpAny _ _ (checkBoundCall "list_iterator.__next__" ⟨[.ref I], []⟩ >>= fun _ => again (.builtin "list_iterator.__next__" ⟨[.ref I], []⟩)) _ _ _
 refine wpAny_bind (wpAny_of_eq (next_check _) ?_)
 refine wpAny_pure ⟨R.quiet_li_next, codeAny_builtin R.entry_li_next ?_⟩
 refine wpAny_mono h (fun fin s₁ h₁ => ?_) fun _ _ z => z
 obtain ⟨v, rfl, hv⟩ := h₁
 exact hv
theorem call_next_item {vs : List Value} {nc : Nat} {v : Value} {Q : Value → Shared → Prop} (F : Fr h₀ L s.heap m) (N : News h₀ L s.heap ((I, itObj la pos) :: news)) (hw : (W, nxObj I) ∈ news) (hm : (la, seqObj "list" vs.toArray nc) ∈ news)
  (hv : vs[pos]? = some v) (hI : ∀ p ∈ news, p.1 ≠ I)
  (h : ∀ h', Fr h₀ L h' m → News h₀ L h' ((I, itObj la (pos + 1)) :: news) → Q v { s with heap := h' }) :
  wpAny (model prog w) A (call (.ref W) []) Q E s := by
 refine call_next N (.tail _ hw) ?_
 have ho := N.get (.head _)
 show wpAny _ _ (field (.ref I) 0 >>= _) _ _ s
 refine wpAny_bind (wpAny_field ho rfl (x := .ref la) rfl ?_)
 show wpAny _ _ (if (Value.ref la == Value.none) = true then _ else _) _ _ s
 rw [if_neg (show ¬ ((Value.ref la == Value.none) = true) from Bool.false_ne_true)]
 show wpAny _ _ (field (.ref I) 1 >>= _) _ _ s
 refine wpAny_bind (wpAny_field ho rfl (x := .int pos 0) rfl ?_)
 show wpAny _ _ (seqItems? (.ref la) >>= _) _ _ s
 refine wpAny_bind (wpAny_seqItems (N.get (.tail _ hm)) rfl ?_)
 have hx : vs.toArray[pos]? = some v := by simpa using hv
 simp only [Int.toNat_natCast, hx]
 refine wpAny_bind (wpAny_setField ho rfl (by simp) (wpAny_pure ⟨v, rfl, ?_⟩))
 have hs := Heap.SameBut.update s.heap I (Obj.mapFields fun vs => vs.setIfInBounds 1 (rawInt ((pos : Int) + 1)))
 exact h _ (F.update N (.head _) hs) (N.setHead hI hs (Heap.get?_update_self _ ho (Obj.isFreed_of_fields (Obj.data_mapFields rfl _))))
theorem stop_sub : isSubtype (.type "StopIteration") (.type "StopIteration") = pure true := by rw [isSubtype_type]; kernel_rfl
theorem call_next_end {vs : List Value} {nc : Nat} {Q : Value → Shared → Prop} (hh : A.handled = none) (F : Fr h₀ L s.heap m) (N : News h₀ L s.heap ((I, itObj la pos) :: news)) (hw : (W, nxObj I) ∈ news) (hm : (la, seqObj "list" vs.toArray nc) ∈ news)
  (hv : vs.length ≤ pos) (hI : ∀ p ∈ news, p.1 ≠ I)
  (h : ∀ h₁, Fr h₀ L h₁ m → News h₀ L h₁ ((I, endIt pos) :: news) → ∀ h' e, Heap.MadeExc h₁ h' e "StopIteration" [] → E (.ref e) { s with heap := h' }) :
  wpAny (model prog w) A (call (.ref W) []) Q E s := by
 refine call_next N (.tail _ hw) ?_
 have ho := N.get (.head _)
 show wpAny _ _ (field (.ref I) 0 >>= _) _ _ s
 refine wpAny_bind (wpAny_field ho rfl (x := .ref la) rfl ?_)
 show wpAny _ _ (if (Value.ref la == Value.none) = true then _ else _) _ _ s
 rw [if_neg (show ¬ ((Value.ref la == Value.none) = true) from Bool.false_ne_true)]
 show wpAny _ _ (field (.ref I) 1 >>= _) _ _ s
 refine wpAny_bind (wpAny_field ho rfl (x := .int pos 0) rfl ?_)
 show wpAny _ _ (seqItems? (.ref la) >>= _) _ _ s
 refine wpAny_bind (wpAny_seqItems (N.get (.tail _ hm)) rfl ?_)
 have hx : vs.toArray[pos]? = none := by simpa using hv
 simp only [Int.toNat_natCast, hx]
 refine wpAny_bind (wpAny_rule (wpAny_bind (wpAny_setField ho rfl (by simp) ?_)))
 have hs := Heap.SameBut.update s.heap I (Obj.mapFields fun vs => vs.setIfInBounds 0 Value.none)
 have h := h _ (F.update N (.head _) hs) (N.setHead hI hs (Heap.get?_update_self _ ho (Obj.isFreed_of_fields (Obj.data_mapFields rfl _))))
 generalize s.heap.update I (Obj.mapFields fun vs => vs.setIfInBounds 0 Value.none) = h₁ at h ⊢
 show wpAny _ _ (newExc (.type "StopIteration") [] >>= _) _ _ _
 refine wpAny_bind ?_
 simp only [newExc, newTuple]
 refine wpAny_bind (wpAny_newObj_type ?_ (by size_fits))
 refine wpAny_bind (m := firstArgMember _ _) (wpAny_of_eq (a := Value.none) (by first | rfl | (simp only [firstArgMember]; rfl)) ?_)
 refine wpAny_newObj_type ?_ (by size_fits)
 simp only [raiseNew]
 refine wpAny_bind (wpAny_handled ?_)
 rw [show A.in1.handled = none from hh]
 refine wpAny_bind (wpAny_pure (wpAny_throw ?_))
 refine h _ _ ⟨fun b o hb => Heap.get?_push_of_some _ (Heap.get?_push_of_some _ hb), ?_, ⟨h₁.objs.size, Heap.get?_push_size _ rfl, ?_, Heap.get?_push_of_some _ (Heap.get?_push_size _ rfl)⟩⟩
 ·exact Heap.get?_none_of_le (by show _ ≤ (h₁.push _).objs.size; rw [Heap.size_push]; omega)
 ·exact Heap.get?_none_of_le (Nat.le_refl _)
end
end Mine
namespace Mine
open TI
section
variable {A : Around} {base g : Heap} {L : Addr} {m : Str → Option Value} {news : List (Addr × Obj)} {K : Frag} {p : Program} {loose : List Str} {mean : ExcName → Option Value} {mg mb : Str → Option Value}
theorem frs_of {l : List Env} (Fn : g.FunFrames base l) (D : KtsDicts (l.filterMap (·.frame)) g) : ∃ frs, Frs l frs ∧ ∀ q ∈ frs, g.get? q.1 = some q.2 ∧ base.get? q.1 = none := by
 induction l with
 | nil => exact ⟨[], trivial, fun _ h => nomatch h⟩
 | cons env l ih =>
  obtain ⟨hk, ⟨L, o, hf, hn, ho, _⟩, hr⟩ := Fn
  rw [List.filterMap_cons, hf] at D
  obtain ⟨frs, Fs, hq⟩ := ih hr (fun b hb => D b (.tail _ hb))
  obtain ⟨o', es, ep, ho', hd⟩ := D L (.head _)
  rw [ho] at ho'
  cases ho'
  refine ⟨(L, o) :: frs, ⟨hk, hf, ⟨es, ep, hd⟩, Fs⟩, fun q h => ?_⟩
  rcases List.mem_cons.mp h with rfl | h
  ·exact ⟨ho, hn⟩
  ·exact hq q h
theorem toL {l : List Env} {h : Heap} (B : Below A base l g) (D : KtsDicts (l.filterMap (·.frame)) g) (F : Fr g L h m) (N : News g L h news) (XB : K.In base) (TB : Top p loose mean mg mb base) :
  ∃ b frs, Frs l frs ∧ (∀ q ∈ frs, g.get? q.1 = some q.2) ∧ b = gone g (frs.map (·.1)) ∧ Fr b L h m ∧ News b L h (news ++ frs) ∧ K.In b ∧ Top p loose mean mg mb b := by
 obtain ⟨frs, Fs, hq⟩ := frs_of B.frames D
 have st : base.StaysIn (gone g (frs.map (·.1))) := fun a o e => (gone_get (fun hm => by
  obtain ⟨q, hq', rfl⟩ := List.mem_map.mp hm
  rw [(hq q hq').2] at e; cases e)).trans (B.stays a o e)
 have sz : (gone g (frs.map (·.1))).objs.size = g.objs.size := by
  generalize frs.map (·.1) = as
  induction as with
  | nil => rfl
  | cons a r ih => show ((gone g r).update a _).objs.size = _; rw [← ih]; simp [Heap.update]
 refine ⟨_, frs, Fs, fun q h => (hq q h).1, rfl, ⟨F.ns, fun a o e => F.keep a o (gone_some e).2, by rw [sz]; exact F.above⟩, fun q h => ?_, XB.keeps st, TB.keeps st⟩
 rcases List.mem_append.mp h with h | h
 ·exact ⟨(N q h).1, (N q h).2.1, none_of (fun a o e => (gone_some e).2) (N q h).2.2⟩
 ·refine ⟨F.keep _ _ (hq q h).1, fun e => ?_, gone_none (List.mem_map_of_mem h)⟩
  have := kts_self F
  rw [← e, (hq q h).1] at this
  cases this
theorem toS {frs frs' : List (Addr × Obj)} {h h₁ : Heap} {m₁ : Str → Option Value} (F₁ : Fr g L h₁ m₁) (hn : ∀ q ∈ news, g.get? q.1 = none) (hq : ∀ q ∈ frs, g.get? q.1 = some q.2)
  (F : Fr (gone g (frs.map (·.1))) L h m) (N : News (gone g (frs.map (·.1))) L h (news ++ frs')) (SU : SameUp frs frs') :
  ∃ g', KtsTurn (frs.map (·.1)) g g' ∧ Fr g' L h m ∧ News g' L h news := by
 obtain ⟨T, S⟩ := kts_turn_at (h := h) (fs := frs.map (·.1)) (g := g)
  (fun b hb => by
   obtain ⟨q, h, rfl⟩ := List.mem_map.mp hb
   exact ⟨_, hq q h⟩)
  (fun b o e nm => F.keep b o ((gone_get nm).trans e))
  (fun b o e hm => by
   obtain ⟨q, hm2, rfl⟩ := List.mem_map.mp hm
   rw [hq q hm2] at e
   cases e
   obtain ⟨sl, hs⟩ := SU.back q hm2
   exact ⟨sl, (N _ (List.mem_append_right _ hs)).1⟩)
 exact ⟨_, T, ⟨F.ns, S, by rw [T.size]; exact F₁.above⟩, fun q h => ⟨(N q (List.mem_append_left _ h)).1, (N q (List.mem_append_left _ h)).2.1, T.none_ _ (hn q h)⟩⟩
end
section
variable {prog : Program} {w : World} {A₀ : Around} {E : Value → Shared → Prop} {s' : Shared} {b h : Heap} {L a e : Addr} {m : Str → Option Value} {name : Str} {scope : Scope} {cd : Value} {new frs : List (Addr × Obj)} {l : List Env}
 {b₀ : Stmt} {suite : List Stmt} {pos np : Pos} {rest : List ExceptHandler} {Q : Flow → Shared → Prop} {X T' : String} {x : Str} {KF : Frag} {p : Program} {loose : List Str} {mean : ExcName → Option Value} {mg mb : Str → Option Value}
theorem catchK (hfr : A₀.frames = some l) (Fs : Frs l frs) (hx : Heap.NewExc h s'.heap e X) (F : Fr b L h m) (N : News b L h (new ++ frs)) (hap : ∀ p ∈ new, p.1 ∉ L :: frs.map (·.1)) (XB : KF.In b) (TB : Top p loose mean mg mb b)
  (ex : nsIn KF mainGlobals x = some none) (hv : bootBuiltins x = some (.type T')) (hn' : x ≠ "__name__")
  (hexc : isSubtype (.type T') (.type "BaseException") = pure true) (hnt : isSubtype (.type ((Manifest.find? T').elim "type" fun y => y.metatype)) (.type "tuple") = pure false) (hsub : isSubtype (.type X) (.type T') = pure true)
  (k : ∀ h' frs', SameUp frs frs' → Frs l frs' → Fr b L h' m → News b L h' (new ++ frs') → wpAny (model prog w) ((A₀.deeper (envOf name scope L a cd)).mark (some (.ref e))) (execs (b₀ :: suite) (envOf name scope L a cd)) Q E { s' with heap := h' })
  (hk : scope.kind = .function := by rfl) (hx' : (envOf name scope L a cd).kindOf x = some .globalImplicit := by rfl) (hd : (x == ("__debug__" : Str)) = false := by decide)
  (hE : PassesOwnAt (model prog w) ((A₀.deeper (envOf name scope L a cd)).mark (some (.ref e))) (A₀.deeper (envOf name scope L a cd)) (envOf name scope L a cd) E := by passes_own) :
  wpAny (model prog w) (A₀.deeper (envOf name scope L a cd)) (noteFrame (.ref e) (envOf name scope L a cd))
   (fun _ s₂ => wpAny (model prog w) (A₀.deeper (envOf name scope L a cd)) (setFlight (.ref e) none) (fun _ s₃ =>
    wpAny (model prog w) (A₀.deeper (envOf name scope L a cd)) (handleBy (.ref e) (envOf name scope L a cd) (.ExceptHandler (some (.Name x np)) none (b₀ :: suite) pos :: rest)) Q E s₃) E s₂) E s' := by
 refine TLg.noted_newA hfr Fs hx F N hap (fun h1 frs1 SU Fs1 H => ?_) hk
 refine TT.HeldNA.land (s' := { s' with heap := h1 }) H fun h2 H2 => ?_
 refine wpAny_handleBy_builtin (X := X) (T := T') (b := true) hexc hnt hsub (wpAny_passesOwnAt hE (name_B H2.held.fr XB (topRead_of TB) ex hv hn' ⟨rfl, H2.isA, ?_⟩ hk hx' hd))
 rw [if_pos rfl]
 exact TT.HeldNA.lands (s' := { s' with heap := h2 }) H2 fun h3 F3 N3 => wpAny_passesOwnAt hE (k h3 frs1 SU Fs1 F3 N3)
end
section
variable {prog : Program} {w : World} {A : Around} {E : Value → Shared → Prop} {s : Shared} {env : Env} {test : PySem.Expr} {body orelse : List Stmt} {Q : Flow → Shared → Prop}
theorem whl_ind {I : Nat → Shared → Prop} (hE : PassesOwn (model prog w) A env E)
  (step : ∀ n s, I n s → (∀ j s', j < n → I j s' → WhlRest prog w A E env test body orelse Q 0 s') →
   wpAny (model prog w) A (isTrue test env (eval test env)) (fun b s₂ => WhlIf b (wpAny (model prog w) A (execs body env) (WhlPost prog w A E env test body orelse Q 0) E s₂) (wpAny (model prog w) A (execs orelse env) Q E s₂)) E s)
  (n : Nat) (h : I n s) : WhlRest prog w A E env test body orelse Q 0 s := by
 induction n using Nat.strongRecOn generalizing s with
 | ind n ih => exact whl_turn (k := 0) hE (step n s h fun j s' hj hI => ih j hj hI)
end
end Mine
namespace Mine
structure FR where
 i : NI
 tv : Tok
 W : Addr
 I : Addr
 pos : Nat
 t : Tok
instance : Nonempty FR := ⟨⟨⟨0, 0, 0, default, 0, 0, 0, [], [], 0⟩, 0, 0, 0, 0, 0⟩⟩
abbrev FR.nm (f : FR) : Str := f.i.nm
abbrev FR.step (f : FR) : FR := ⟨f.i, f.tv, f.W, f.I, f.pos + 1, f.t⟩
def framesOf : List FR → List (Addr × Obj)
 | [] => []
 | f :: r => (f.I, itObj f.i.la f.pos) :: (f.W, nxObj f.I) :: framesOf r
theorem framesOf_cons (f : FR) (r : List FR) : framesOf (f :: r) = (f.I, itObj f.i.la f.pos) :: (f.W, nxObj f.I) :: framesOf r := rfl
def fvals : List FR → List Value
 | [] => []
 | g :: r => fvals r ++ [.str g.nm g.tv]
def fws : List FR → List Value
 | [] => []
 | g :: r => fws r ++ [.ref g.W]
def fkvs : List FR → List (Str × Value)
 | [] => []
 | g :: r => fkvs r ++ [(g.nm, .int (fvals r).length g.t)]
theorem fvals_length (fs : List FR) : (fvals fs).length = fs.length := by induction fs with | nil => rfl | cons g r ih => simp [fvals, ih]
theorem fws_length (fs : List FR) : (fws fs).length = fs.length := by induction fs with | nil => rfl | cons g r ih => simp [fws, ih]
theorem fkvs_length (fs : List FR) : (fkvs fs).length = fs.length := by induction fs with | nil => rfl | cons g r ih => simp [fkvs, ih]
def Topo (l : List NI) : List Str → Prop
 | [] => True
 | v :: r => (∃ i ∈ l, i.nm = v ∧ ∀ y ∈ i.su, y ∈ r) ∧ Topo l r
def Cyc (l : List NI) (C : List Str) : Prop := C ≠ [] ∧ ∀ c ∈ C, ∃ i ∈ l, i.nm = c ∧ ∃ y ∈ i.su, y ∈ C
def Pend (fin : List Str) : List FR → Str → Prop
 | [], _ => True
 | g :: r, nm => 0 < g.pos ∧ g.i.su[g.pos - 1]? = some nm ∧ (∀ y ∈ g.i.su.take (g.pos - 1), y ∈ fin) ∧ Pend fin r g.nm
def Back (fin : List Str) : List FR → Prop
 | [] => True
 | g :: r => (∀ y ∈ g.i.su.take g.pos, y ∈ fin) ∧ Pend fin r g.nm
def FOrd (I0 : Addr) : List FR → Prop
 | [] => True
 | g :: r => @LT.lt Nat _ I0 g.I ∧ @LT.lt Nat _ g.I g.W ∧ (∀ q ∈ framesOf r, @LT.lt Nat _ q.1 g.I) ∧ FOrd I0 r
structure Dfs (l : List NI) (I0 : Addr) (fs : List FR) (fin : List Str) (Sf : Str → Bool) : Prop where
 mem : ∀ f ∈ fs, f.i ∈ l
 nd : (fin ++ fs.map FR.nm).Nodup
 seen : ∀ y, Sf y = true ↔ y ∈ fin ∨ y ∈ fs.map FR.nm
 topo : Topo l fin
 ord : FOrd I0 fs
def msr (l : List NI) (fs : List FR) (Sf : Str → Bool) : Nat :=
 (l.map fun i => if Sf i.nm then 0 else 2 * i.su.length + 3).sum + (fs.map fun g => 2 * (g.i.su.length - g.pos) + 2).sum
theorem pend_mono {fin fin' : List Str} (h : ∀ y ∈ fin, y ∈ fin') : ∀ {fs : List FR} {nm : Str}, Pend fin fs nm → Pend fin' fs nm
 | [], _, _ => trivial
 | _ :: _, _, ⟨a, b, c, d⟩ => ⟨a, b, fun y hy => h y (c y hy), pend_mono h d⟩
theorem back_fin {fin : List Str} {fs : List FR} {nm : Str} (h : Pend fin fs nm) (hn : nm ∈ fin) : Back fin fs := by
 cases fs with
 | nil => trivial
 | cons g r =>
  obtain ⟨a, b, c, d⟩ := h
  refine ⟨fun y hy => ?_, d⟩
  rw [show g.pos = (g.pos - 1) + 1 by omega, List.take_add_one, b] at hy
  rcases List.mem_append.mp hy with hy | hy
  ·exact c y hy
  ·simp at hy; exact hy ▸ hn
theorem back_push {fin : List Str} {fs : List FR} {g : FR} (h : Pend fin fs g.nm) (h0 : g.pos = 0) : Back fin (g :: fs) := ⟨by rw [h0]; simp, h⟩
theorem pend_next {fin : List Str} {r : List FR} {g : FR} {y : Str} (h : Back fin (g :: r)) (hy : g.i.su[g.pos]? = some y) : Pend fin (g.step :: r) y :=
 ⟨Nat.succ_pos _, by simpa using hy, by simpa using h.1, h.2⟩
theorem back_pop {fin : List Str} {r : List FR} {g : FR} (h : Back fin (g :: r)) (hp : g.i.su.length ≤ g.pos) : Back (g.nm :: fin) r ∧ ∀ y ∈ g.i.su, y ∈ fin := by
 obtain ⟨h1, h2⟩ := h
 rw [List.take_of_length_le hp] at h1
 exact ⟨back_fin (pend_mono (fun y hy => List.mem_cons_of_mem _ hy) h2) (List.mem_cons_self ..), h1⟩
theorem cyc_path {l : List NI} {fin : List Str} {z : Str} : ∀ {fs : List FR} {nm : Str}, Pend fin fs nm → (∀ f ∈ fs, f.i ∈ l) → z ∈ fs.map FR.nm →
  ∃ C : List Str, z ∈ C ∧ ∀ c ∈ C, ∃ i ∈ l, i.nm = c ∧ ∃ y ∈ i.su, y = nm ∨ y ∈ C
 | [], _, _, _, h => nomatch h
 | g :: r, nm, ⟨a, b, c, d⟩, hm, hz => by
  have hg : ∃ i ∈ l, i.nm = g.nm ∧ ∃ y ∈ i.su, y = nm := ⟨g.i, hm g (.head _), rfl, nm, List.mem_of_getElem? b, rfl⟩
  rcases List.mem_cons.mp hz with e | hz
  ·refine ⟨[g.nm], by rw [e]; simp, fun c hc => ?_⟩
   rw [List.mem_singleton.mp hc]
   obtain ⟨i, h1, h2, y, h3, h4⟩ := hg
   exact ⟨i, h1, h2, y, h3, .inl h4⟩
  ·obtain ⟨C, h1, h2⟩ := cyc_path d (fun f hf => hm f (.tail _ hf)) hz
   refine ⟨g.nm :: C, .tail _ h1, fun c hc => ?_⟩
   rcases List.mem_cons.mp hc with rfl | hc
   ·obtain ⟨i, h1, h2, y, h3, h4⟩ := hg
    exact ⟨i, h1, h2, y, h3, .inl h4⟩
   ·obtain ⟨i, h3, h4, y, h5, h6⟩ := h2 c hc
    exact ⟨i, h3, h4, y, h5, .inr (h6.elim (fun e => e ▸ List.mem_cons_self ..) fun h => .tail _ h)⟩
theorem cyc_of {l : List NI} {fin : List Str} {fs : List FR} {nm : Str} (h : Pend fin fs nm) (hm : ∀ f ∈ fs, f.i ∈ l) (hn : nm ∈ fs.map FR.nm) : ∃ C, Cyc l C := by
 obtain ⟨C, h1, h2⟩ := cyc_path h hm hn
 refine ⟨C, ⟨fun e => by rw [e] at h1; exact (nomatch h1), fun c hc => ?_⟩⟩
 obtain ⟨i, h3, h4, y, h5, h6⟩ := h2 c hc
 exact ⟨i, h3, h4, y, h5, h6.elim (fun e => e ▸ h1) id⟩
theorem nodup_le {α : Type} [DecidableEq α] : ∀ {a b : List α}, a.Nodup → (∀ x ∈ a, x ∈ b) → a.length ≤ b.length
 | [], _, _, _ => Nat.zero_le _
 | x :: a, b, hn, hs => by
  obtain ⟨h1, h2⟩ := List.nodup_cons.mp hn
  have hx := hs x (.head _)
  have := nodup_le (b := b.erase x) h2 fun y hy => (List.mem_erase_of_ne (fun (e : y = x) => h1 (by rw [← e]; exact hy))).mpr (hs y (.tail _ hy))
  rw [List.length_erase_of_mem hx] at this
  have := List.length_pos_of_mem hx
  simp only [List.length_cons]; omega
theorem topo_names {l : List NI} : ∀ {fin : List Str}, Topo l fin → ∀ y ∈ fin, y ∈ l.map (·.nm)
 | [], _, _, h => nomatch h
 | _ :: _, ⟨⟨i, h1, h2, _⟩, h⟩, y, hy => by
  rcases List.mem_cons.mp hy with rfl | hy
  ·exact List.mem_map.mpr ⟨i, h1, h2⟩
  ·exact topo_names h y hy
section
variable {l : List NI} {I0 : Addr} {fs : List FR} {fin : List Str} {Sf : Str → Bool} {g : FR} {nm : Str}
theorem Dfs.size (D : Dfs l I0 fs fin Sf) : fin.length + fs.length ≤ l.length := by
 have := nodup_le (b := l.map (·.nm)) D.nd fun x hx => by
  rcases List.mem_append.mp hx with hx | hx
  ·exact topo_names D.topo x hx
  ·obtain ⟨f, hf, rfl⟩ := List.mem_map.mp hx
   exact List.mem_map.mpr ⟨f.i, D.mem f hf, rfl⟩
 simpa using this
theorem Dfs.push (D : Dfs l I0 fs fin Sf) (hi : g.i ∈ l) (hn : Sf g.nm = false) (h1 : @LT.lt Nat _ I0 g.I) (h2 : @LT.lt Nat _ g.I g.W) (h3 : ∀ q ∈ framesOf fs, @LT.lt Nat _ q.1 g.I) :
  Dfs l I0 (g :: fs) fin (fun y => Sf y || decide (y = g.nm)) := by
 have hno : ¬ (g.nm ∈ fin ∨ g.nm ∈ fs.map FR.nm) := fun h => by rw [(D.seen _).mpr h] at hn; cases hn
 rw [not_or] at hno
 refine ⟨fun f hf => ?_, ?_, fun y => ?_, D.topo, ⟨h1, h2, h3, D.ord⟩⟩
 ·rcases List.mem_cons.mp hf with rfl | hf
  ·exact hi
  ·exact D.mem f hf
 ·have := D.nd
  rw [List.nodup_append] at this ⊢
  refine ⟨this.1, List.nodup_cons.mpr ⟨hno.2, this.2.1⟩, fun u hu v hv e => ?_⟩
  rcases List.mem_cons.mp hv with rfl | hv
  ·exact hno.1 (e ▸ hu)
  ·exact this.2.2 u hu v hv e
 ·have := D.seen y
  simp only [Bool.or_eq_true, this, decide_eq_true_eq, List.map_cons, List.mem_cons]
  exact ⟨fun h => h.elim (fun h => h.elim .inl fun h => .inr (.inr h)) fun h => .inr (.inl h), fun h => h.elim (fun h => .inl (.inl h)) fun h => h.elim .inr fun h => .inl (.inr h)⟩
theorem Dfs.step (D : Dfs l I0 (g :: fs) fin Sf) : Dfs l I0 (g.step :: fs) fin Sf :=
 ⟨fun f hf => by
  rcases List.mem_cons.mp hf with rfl | hf
  ·exact D.mem g (.head _)
  ·exact D.mem f (.tail _ hf), D.nd, D.seen, D.topo, D.ord⟩
theorem Dfs.pop (D : Dfs l I0 (g :: fs) fin Sf) (h : ∀ y ∈ g.i.su, y ∈ fin) : Dfs l I0 fs (g.nm :: fin) Sf := by
 refine ⟨fun f hf => D.mem f (.tail _ hf), ?_, fun y => ?_, ⟨⟨g.i, D.mem g (.head _), rfl, h⟩, D.topo⟩, D.ord.2.2.2⟩
 ·have := D.nd
  rw [List.map_cons] at this
  exact (List.perm_middle.nodup_iff).mp this
 ·rw [D.seen y]
  simp only [List.map_cons, List.mem_cons]
  exact ⟨fun h => h.elim (fun h => .inl (.inr h)) fun h => h.elim (fun h => .inl (.inl h)) .inr, fun h => h.elim (fun h => h.elim (fun h => .inr (.inl h)) .inl) fun h => .inr (.inr h)⟩
theorem msr_step (h : g.pos < g.i.su.length) : msr l (g.step :: fs) Sf + 2 = msr l (g :: fs) Sf := by
 simp only [msr, List.map_cons, List.sum_cons]; omega
theorem msr_pop : msr l fs Sf + 2 ≤ msr l (g :: fs) Sf := by
 simp only [msr, List.map_cons, List.sum_cons]; omega
theorem msr_push (hi : g.i ∈ l) (hnd : (l.map (·.nm)).Nodup) (hn : Sf g.nm = false) (h0 : g.pos = 0) : msr l (g :: fs) (fun y => Sf y || decide (y = g.nm)) + 1 = msr l fs Sf := by
 have key : ∀ l : List NI, g.i ∈ l → (l.map (·.nm)).Nodup → (l.map fun i => if (Sf i.nm || decide (i.nm = g.nm)) = true then 0 else 2 * i.su.length + 3).sum + (2 * g.i.su.length + 3) = (l.map fun i => if Sf i.nm = true then 0 else 2 * i.su.length + 3).sum := by
  intro l hi hnd
  induction l with
  | nil => exact nomatch hi
  | cons j r ih =>
   rw [List.map_cons, List.nodup_cons] at hnd
   simp only [List.map_cons, List.sum_cons]
   rcases List.mem_cons.mp hi with e | hi
   ·have e2 : ∀ q ∈ r, (if (Sf q.nm || decide (q.nm = g.nm)) = true then 0 else 2 * q.su.length + 3) = if Sf q.nm = true then 0 else 2 * q.su.length + 3 := fun q hq => by
     have : q.nm ≠ g.nm := fun e' => hnd.1 (by rw [← e]; exact List.mem_map.mpr ⟨q, hq, e'⟩)
     simp [this]
    rw [List.map_congr_left e2, ← e]
    have hn' : Sf g.i.nm = false := hn
    simp [hn']; omega
   ·have e3 : j.nm ≠ g.nm := fun e' => hnd.1 (by rw [e']; exact List.mem_map.mpr ⟨g.i, hi, rfl⟩)
    have := ih hi hnd.2
    simp only [e3, decide_false, Bool.or_false]
    omega
 have := key l hi hnd
 simp only [msr, List.map_cons, List.sum_cons, h0]
 omega
theorem va_append (a b : List (Str × Value)) (k : Str) : valueAt (a ++ b) k = (valueAt a k).or (valueAt b k) := by
 unfold valueAt
 rw [List.find?_append]
 cases List.find? (fun kv => decide (kv.1 = k)) a <;> rfl
theorem va_none {a : List (Str × Value)} {k : Str} (h : k ∉ a.map (·.1)) : valueAt a k = none := by
 unfold valueAt
 rw [Option.map_eq_none_iff, List.find?_eq_none]
 intro kv hkv e
 exact h (List.mem_map.mpr ⟨kv, hkv, by simpa using e⟩)
theorem va_one (k : Str) (v : Value) : valueAt [(k, v)] k = some v := by simp [valueAt]
theorem fkvs_keys : ∀ fs : List FR, ∀ y, y ∈ (fkvs fs).map (·.1) ↔ y ∈ fs.map FR.nm
 | [], y => Iff.rfl
 | g :: r, y => by
  have := fkvs_keys r y
  simp only [fkvs, List.map_append, List.mem_append, this, List.map_cons, List.map_nil, List.mem_cons, List.not_mem_nil, or_false]
  exact or_comm
theorem fkvs_some : ∀ {fs : List FR}, nm ∈ fs.map FR.nm → ∃ (k : Nat) (t : Tok), valueAt (fkvs fs) nm = some (.int k t) ∧ k < (fvals fs).length
 | [], h => nomatch h
 | g :: r, h => by
  by_cases hr : nm ∈ r.map FR.nm
  ·obtain ⟨k, t, h1, h2⟩ := fkvs_some hr
   refine ⟨k, t, ?_, by simp only [fvals, List.length_append]; omega⟩
   rw [fkvs, va_append, h1]; rfl
  ·rcases List.mem_cons.mp h with e | h
   ·refine ⟨(fvals r).length, g.t, ?_, by simp [fvals]⟩
    rw [fkvs, va_append, va_none (fun hm => hr ((fkvs_keys r nm).mp hm)), e, va_one]; rfl
   ·exact absurd h hr
theorem fkvs_none {fs : List FR} (h : nm ∉ fs.map FR.nm) : valueAt (fkvs fs) nm = none := va_none fun hm => h ((fkvs_keys fs nm).mp hm)
theorem fkvs_without {r : List FR} (h : g.nm ∉ r.map FR.nm) : without (fkvs (g :: r)) g.nm = fkvs r := by
 rw [fkvs]
 unfold without
 rw [List.filter_append]
 have h1 : (fkvs r).filter (fun kv => decide (kv.1 ≠ g.nm)) = fkvs r := List.filter_eq_self.mpr fun kv hkv => by
  have : kv.1 ≠ g.nm := fun e => h ((fkvs_keys r g.nm).mp (List.mem_map.mpr ⟨kv, hkv, e⟩))
  simp [this]
 rw [h1]
 simp
end
end Mine
namespace Mine
open TI
namespace SM08
def h9s_stops := sT
def h9s_binaryOp_Add_ref_ref := sT
def h9s_exec_While := sT
def h9s_exec_While_Name := sT
def h9s_exec_While_Constant := sT
def h9s_exec_While_Name_cons_cons := sT
def h9s_compareOp_In_str_ref := sT
def h9s_compareOp_In_ref := sT
def h9s_subscriptTail_Name_Name_ref_str := sT
def h9s_subscriptTail_Name_Slice_ref_ref := sT
def h9s_subscriptTail_Name_UnaryOp_ref_int := sT
def h9s_call_builtin_iter := sT
def h9s_call_builtin_len := sT
def h9s_truthy_ref := sT
def h9s_noteFrame_ref := sT
def h9s_call_ref := sT
def h9s_callWith_ref := sT
def h9s_call_builtin_list_pop := sT
def h9s_WhlRest := sT
def h9s_delItem_ref := sT
end SM08
open SM08
section
variable {prog : Program} {w : World} {A : Around} {E : Value → Shared → Prop} {s : Shared} {h₀ : Heap} {env : Env} {target : PySem.Expr} {body : List Stmt} {Q : Flow → Shared → Prop} {ws : List (Addr × String)} {keep : List (Addr × Obj)}
theorem items_ind {α : Type} {f : α → Itm} {P : List α → (Str → Option Value) → List (Addr × Obj) → Prop}
  (nil : ∀ m news, P [] m news → ItemsRest prog w A E h₀ env target body Q s ws keep [] m news)
  (cons : ∀ k ks m news, P (k :: ks) m news → (∀ m' n', P ks m' n' → ItemsRest prog w A E h₀ env target body Q s ws keep (ks.map f) m' n') → ItemsRest prog w A E h₀ env target body Q s ws keep (f k :: ks.map f) m news) :
  ∀ ks m news, P ks m news → ItemsRest prog w A E h₀ env target body Q s ws keep (ks.map f) m news
 | [], m, news, h => nil m news h
 | k :: ks, m, news, h => cons k ks m news h fun m' n' h' => items_ind nil cons ks m' n' h'
end
abbrev fcM (x d st it se nd : Addr) (mv : Option Value) : Str → Option Value := fun y =>
 if y = Str.ofString "node" then mv else if y = Str.ofString "node2stacki" then some (.ref nd) else if y = Str.ofString "seen" then some (.ref se) else if y = Str.ofString "itstack" then some (.ref it)
 else if y = Str.ofString "stack" then some (.ref st) else if y = Str.ofString "n2i" then some (.ref d) else List.lookup y [("self", .ref x)]
abbrev fcL (nd : Addr) (no : Obj) (se : Addr) (so : Obj) (it : Addr) (fs : List FR) (n1 : Nat) (st : Addr) (n2 : Nat) (x dx : Addr) (oD : Obj) (d : Addr) (od : Obj) (TL : List (Addr × Obj)) : List (Addr × Obj) :=
 (nd, no) :: (se, so) :: (it, listOf (fws fs).toArray n1) :: (st, listOf (fvals fs).toArray n2) :: (x, instObj 137 dx) :: (dx, oD) :: (d, od) :: TL
inductive ForP (prog : Program) (w : World) (l : List NI) (x dx d : Addr) (oD od : Obj) (rest frs : List (Addr × Obj)) (ev : List Env) (st it se nd I : Addr) (ks : List Str) : (Str → Option Value) → List (Addr × Obj) → Prop
 | mk (mv : Option Value) (fin : List Str) (Sf : Str → Bool) (so no : Obj) (n1 n2 : Nat) (frs' : List (Addr × Obj)) (e0 : SameUp frs frs') (e1 : Frs ev frs') (e2 : so.SetObjOf (PySem.strKind prog w) Sf fin.length) (e3 : no.IsDictOf (PySem.strKind prog w) []) (e4 : Dfs l I [] fin Sf) (e5 : (∀ y ∈ l.map (·.nm), y ∈ ks ∨ y ∈ fin)) (e6 : ∀ y ∈ ks, y ∈ l.map (·.nm)) : ForP prog w l x dx d oD od rest frs ev st it se nd I ks (fcM x d st it se nd mv) (fcL nd no se so it [] n1 st n2 x dx oD d od (infosOf l ++ rest ++ frs'))
inductive WT (prog : Program) (w : World) (l : List NI) (x dx d : Addr) (oD od : Obj) (rest frs : List (Addr × Obj)) (ev : List Env) (b : Heap) (L1 st it se nd I : Addr) (io : Obj) (k0 : Str) (ks : List Str) (s1 : Shared) : Nat → Shared → Prop
 | mk (h : Heap) (tk : Nat) (nm : Str) (tn : Tok) (fs : List FR) (fin : List Str) (Sf : Str → Bool) (so no : Obj) (n1 n2 : Nat) (frs' : List (Addr × Obj)) (e0 : SameUp frs frs') (e1 : Frs ev frs') (e2 : Fr b L1 h (fcM x d st it se nd (some (.str nm tn)))) (e3 : News b L1 h ((I, io) :: fcL nd no se so it fs n1 st n2 x dx oD d od (framesOf fs ++ (infosOf l ++ rest ++ frs')))) (e4 : so.SetObjOf (PySem.strKind prog w) Sf (fin.length + fs.length)) (e5 : no.IsDictOf (PySem.strKind prog w) (fkvs fs)) (e6 : Dfs l I fs fin Sf) (e7 : Pend fin fs nm) (e8 : nm ∈ l.map (·.nm)) (e9 : (∀ y ∈ l.map (·.nm), y = k0 ∨ y ∈ ks ∨ y ∈ fin)) (e10 : (Sf k0 = true ∨ nm = k0)) : WT prog w l x dx d oD od rest frs ev b L1 st it se nd I io k0 ks s1 (msr l fs Sf + 1) ({ s1 with heap := h, toks := tk })
inductive WB (prog : Program) (w : World) (l : List NI) (x dx d : Addr) (oD od : Obj) (rest frs : List (Addr × Obj)) (ev : List Env) (b : Heap) (L1 st it se nd I : Addr) (io : Obj) (k0 : Str) (ks : List Str) (s1 : Shared) : Nat → Shared → Prop
 | mk (h : Heap) (tk : Nat) (mv : Option Value) (fs : List FR) (fin : List Str) (Sf : Str → Bool) (so no : Obj) (n1 n2 : Nat) (frs' : List (Addr × Obj)) (e0 : SameUp frs frs') (e1 : Frs ev frs') (e2 : Fr b L1 h (fcM x d st it se nd mv)) (e3 : News b L1 h ((I, io) :: fcL nd no se so it fs n1 st n2 x dx oD d od (framesOf fs ++ (infosOf l ++ rest ++ frs')))) (e4 : so.SetObjOf (PySem.strKind prog w) Sf (fin.length + fs.length)) (e5 : no.IsDictOf (PySem.strKind prog w) (fkvs fs)) (e6 : Dfs l I fs fin Sf) (e7 : Back fin fs) (e8 : (∀ y ∈ l.map (·.nm), y = k0 ∨ y ∈ ks ∨ y ∈ fin)) (e9 : Sf k0 = true) : WB prog w l x dx d oD od rest frs ev b L1 st it se nd I io k0 ks s1 (msr l fs Sf) ({ s1 with heap := h, toks := tk })
theorem ForP.of {prog : Program} {w : World} {l : List NI} {x dx d : Addr} {oD od : Obj} {rest frs : List (Addr × Obj)} {ev : List Env} {st it se nd I : Addr} {ks : List Str} {m : Str → Option Value} {news : List (Addr × Obj)} (mv : Option Value) (fin : List Str) (Sf : Str → Bool) (so no : Obj) (n1 n2 : Nat) (frs' : List (Addr × Obj)) (em : m = fcM x d st it se nd mv) (en : news = fcL nd no se so it [] n1 st n2 x dx oD d od (infosOf l ++ rest ++ frs')) (e0 : SameUp frs frs') (e1 : Frs ev frs') (e2 : so.SetObjOf (PySem.strKind prog w) Sf fin.length) (e3 : no.IsDictOf (PySem.strKind prog w) []) (e4 : Dfs l I [] fin Sf) (e5 : (∀ y ∈ l.map (·.nm), y ∈ ks ∨ y ∈ fin)) (e6 : ∀ y ∈ ks, y ∈ l.map (·.nm)) : ForP prog w l x dx d oD od rest frs ev st it se nd I ks m news := by
 subst em en
 exact .mk mv fin Sf so no n1 n2 frs' e0 e1 e2 e3 e4 e5 e6
theorem FOrd.gt {I0 : Addr} : ∀ {fs : List FR}, FOrd I0 fs → ∀ q ∈ framesOf fs, @LT.lt Nat _ I0 q.1
 | [], _, _, h => nomatch h
 | g :: r, ⟨a, b, c, d⟩, q, h => by
  rw [framesOf_cons] at h
  rcases List.mem_cons.mp h with rfl | h
  ·exact a
  ·rcases List.mem_cons.mp h with rfl | h
   ·exact Nat.lt_trans a b
   ·exact d.gt q h
theorem mem_ents {l : List NI} {i : NI} (h : i ∈ l) : (i.ia, i.ob) ∈ infosOf l ∧ (i.la, i.lo) ∈ infosOf l ∧ (i.da, dictOf [] 0) ∈ infosOf l := by
 have : ∀ q ∈ i.ents, q ∈ infosOf l := fun q hq => List.mem_flatMap.mpr ⟨i, h, hq⟩
 exact ⟨this _ (.head _), this _ (.tail _ (.head _)), this _ (tl2 (.head _))⟩
theorem news_pull {g h : Heap} {L : Addr} {l : List NI} {i : NI} {X Y : List (Addr × Obj)} (N : News g L h X) (hi : i ∈ l) (hs : ∀ q ∈ infosOf l, q ∈ X) (hY : ∀ q ∈ Y, q ∈ X) :
  News g L h ((i.ia, i.ob) :: (i.la, i.lo) :: (i.da, dictOf [] 0) :: Y) := fun q hq => N q (subC (hs _ (mem_ents hi).1) (subC (hs _ (mem_ents hi).2.1) (subC (hs _ (mem_ents hi).2.2) hY)) q hq)
theorem off_mid {A R : List (Addr × Obj)} {z lo hi : Addr} (hA : ∀ q ∈ A, @LT.lt Nat _ hi q.1) (hR : ∀ q ∈ R, @LT.lt Nat _ q.1 lo) (h1 : @LT.lt Nat _ z hi) (h2 : @LE.le Nat _ lo z) : ∀ p ∈ A ++ R, p.1 ≠ z :=
 fun q hq => (List.mem_append.mp hq).elim (fun h => Nat.ne_of_gt (Nat.lt_trans h1 (hA q h))) fun h => Nat.ne_of_lt (Nat.lt_of_lt_of_le (hR q h) h2)
theorem hap_of {b h : Heap} {L1 st : Addr} {X O frs frs3 : List (Addr × Obj)} (SU : SameUp frs frs3) (lf : ∀ q ∈ frs, @LT.lt Nat _ q.1 st) (hO : ∀ q ∈ O, q.1 ∉ frs.map (·.1)) (N : News b L1 h X) (H : ∀ q ∈ X, @LE.le Nat _ st q.1 ∨ q ∈ O) :
  ∀ q ∈ X, q.1 ∉ L1 :: frs3.map (·.1) := fun q hq hm => by
 rcases List.mem_cons.mp hm with e | hm
 ·exact (N q hq).2.1 e
 ·obtain ⟨q', z1, z2⟩ := List.mem_map.mp hm
  obtain ⟨q2, z3, z4⟩ := SU.fwd q' z1
  have z6 : q.1 = q2.1 := z2.symm.trans z4
  rcases H q hq with h | h
  ·exact absurd (lf q2 z3) (Nat.not_lt.mpr (z6 ▸ h))
  ·exact hO q h (z6 ▸ List.mem_map_of_mem z3)
theorem kvs_at {l : List NI} {i : NI} (hn : (l.map (·.nm)).Nodup) (h : i ∈ l) : valueAt (kvsOf l) i.nm = some (.ref i.ia) := by
 induction l with
 | nil => exact (nomatch h)
 | cons j r ih =>
  rw [List.map_cons, List.nodup_cons] at hn
  rw [show kvsOf (j :: r) = [(j.nm, .ref j.ia)] ++ kvsOf r from rfl, va_append]
  rcases List.mem_cons.mp h with rfl | h
  ·rw [va_one]; rfl
  ·have : j.nm ≠ i.nm := fun e => hn.1 (e ▸ List.mem_map.mpr ⟨i, h, rfl⟩)
   rw [va_none (by simpa using this.symm), ih hn.2 h]; rfl
theorem use3 {prog : Program} {w : World} {I : Shared → Prop} {A : Around} {E : Value → Shared → Prop} {env : Env} {test : PySem.Expr} {body orelse : List Stmt} {Q : Flow → Shared → Prop} {G : Prop}
  (f : (∀ ss, I ss → WhlRest prog w A E env test body orelse Q 0 ss) → G) (t : ∀ ss, I ss → WhlRest prog w A E env test body orelse Q 0 ss) : G := f t
theorem kmk_pick_from (vs : List Value) (k : Nat) : (slicePick vs.toArray (some (k : Int)) none none) = (vs.drop k).toArray := slicePick_from' _ _
theorem led_push {i : NI} {tn2 W2 I2 tx : Nat} {I nd se it st x dx d : Addr} {io no so od : Obj} {fs : List FR} {m1 m2 : Nat} {oD : Obj} {TL : List (Addr × Obj)} :
  ∀ q ∈ (I, io) :: fcL nd no se so it (⟨i, tn2, W2, I2, 0, tx⟩ :: fs) m1 st m2 x dx oD d od (framesOf (⟨i, tn2, W2, I2, 0, tx⟩ :: fs) ++ TL),
   q ∈ (W2, nxObj I2) :: (I2, itObj i.la 0) :: (i.ia, i.ob) :: (i.la, i.lo) :: (i.da, dictOf [] 0) :: (I, io) :: (nd, no) :: (se, so) :: (it, listOf (fws fs ++ [Value.ref W2]).toArray m1) ::
    (st, listOf (fvals fs ++ [Value.str i.nm tn2]).toArray m2) :: (x, instObj 137 dx) :: (dx, oD) :: (d, od) :: (framesOf fs ++ TL) := by
 dsimp only [fcL, framesOf_cons, List.cons_append]
 walk_at "sub"
theorem led_open {g : FR} {I nd se it st x dx d : Addr} {io no so od : Obj} {r : List FR} {m1 m2 : Nat} {oD : Obj} {TL : List (Addr × Obj)} :
  ∀ q ∈ (g.I, itObj g.i.la g.pos) :: (g.W, nxObj g.I) :: (I, io) :: (nd, no) :: (se, so) :: (it, listOf (fws r ++ [Value.ref g.W]).toArray m1) :: (st, listOf (fvals r ++ [Value.str g.nm g.tv]).toArray m2) :: (x, instObj 137 dx) :: (dx, oD) :: (d, od) :: (framesOf r ++ TL),
   q ∈ (I, io) :: fcL nd no se so it (g :: r) m1 st m2 x dx oD d od (framesOf (g :: r) ++ TL) := by
 dsimp only [fcL, framesOf_cons, List.cons_append]
 walk_at "sub"
theorem led_shut {g : FR} {I nd se it st x dx d : Addr} {io no so od : Obj} {r : List FR} {m1 m2 : Nat} {oD : Obj} {TL : List (Addr × Obj)} :
  ∀ q ∈ (I, io) :: fcL nd no se so it (g :: r) m1 st m2 x dx oD d od (framesOf (g :: r) ++ TL),
   q ∈ (g.I, itObj g.i.la g.pos) :: (g.W, nxObj g.I) :: (I, io) :: (nd, no) :: (se, so) :: (it, listOf (fws r ++ [Value.ref g.W]).toArray m1) :: (st, listOf (fvals r ++ [Value.str g.nm g.tv]).toArray m2) :: (x, instObj 137 dx) :: (dx, oD) :: (d, od) :: (framesOf r ++ TL) := by
 dsimp only [fcL, framesOf_cons, List.cons_append]
 walk_at "sub"
theorem led_cyc {c c2 I nd se it st x dx d : Addr} {A0 A1 A2 A3 : Addr × Obj} {o1 o2 io no so oi os od : Obj} {oD : Obj} {T1 T2 T3 FR : List (Addr × Obj)} :
  ∀ q ∈ ((c2, o2) :: ((x, instObj 137 dx) :: (dx, oD) :: (d, od) :: (T1 ++ T2))) ++ T3,
   q ∈ (c2, o2) :: A0 :: (c, o1) :: A1 :: A2 :: A3 :: (I, io) :: (nd, no) :: (se, so) :: (it, oi) :: (st, os) :: (x, instObj 137 dx) :: (dx, oD) :: (d, od) :: (FR ++ (T1 ++ T2 ++ T3)) := by
 dsimp only [List.cons_append]
 walk_at "sub"
theorem len_vals {prog : Program} {w : World} {A : Around} {E : Value → Shared → Prop} {s : Shared} {l : Addr} {vs : List Value} {Q : Value → Shared → Prop} (hl : s.heap.IsList l vs.toArray) (hfit : vs.length < 1000)
  (h : Q (.int vs.length (s.toks + 1)) { s with toks := s.toks + 1 + 1 }) : wpAny (model prog w) A (call (.builtin "len") [.ref l]) Q E s :=
 call_len_list hl (by rw [List.size_toArray]; omega) (by rw [List.size_toArray]; exact h)
theorem truthy_vals {prog : Program} {w : World} {A : Around} {E : Value → Shared → Prop} {s : Shared} {l : Addr} {vs : List Value} {Q : Bool → Shared → Prop} (hl : s.heap.IsList l vs.toArray) (hfit : vs.length < 2000) (hne : vs ≠ [])
  (h : Q true { s with toks := s.toks + 1 + 1 }) : wpAny (model prog w) A (truthy (.ref l)) Q E s := by
 refine wpAny_truthy_list hl (by rw [List.size_toArray]; omega) ?_
 have : (!vs.toArray.isEmpty) = true := by cases vs with | nil => exact absurd rfl hne | cons a r => rfl
 rw [this]; exact h
theorem truthy_none {prog : Program} {w : World} {A : Around} {E : Value → Shared → Prop} {s : Shared} {l : Addr} {Q : Bool → Shared → Prop} (hl : s.heap.IsList l ([] : List Value).toArray)
  (h : Q false { s with toks := s.toks + 1 + 1 }) : wpAny (model prog w) A (truthy (.ref l)) Q E s := wpAny_truthy_list hl (by decide) h
theorem last_get {r : List Value} {x : Value} : (r ++ [x])[((-1 : Int) + ((r ++ [x]).length : Int)).toNat]? = some x := by
 have : ((-1 : Int) + ((r ++ [x]).length : Int)).toNat = r.length := by rw [List.length_append, List.length_singleton]; omega
 rw [this]; simp
theorem stop_exc : isSubtype (.type "StopIteration") (.type "BaseException") = pure true := by rw [isSubtype_type]; kernel_rfl
theorem stop_notTuple : isSubtype (.type ((Manifest.find? "StopIteration").elim "type" fun y => y.metatype)) (.type "tuple") = pure false := by
 first | kernel_rfl | (rw [isSubtype_type]; kernel_rfl)
theorem up_lt {frs frs' A : List (Addr × Obj)} {z : Addr} (SU : SameUp frs frs') (h : ∀ q ∈ A ++ frs, @LT.lt Nat _ q.1 z) : ∀ q ∈ A ++ frs', @LT.lt Nat _ q.1 z := fun q hq => by
 rcases List.mem_append.mp hq with hq | hq
 ·exact h q (List.mem_append_left _ hq)
 ·obtain ⟨q', h1, h2⟩ := SU.fwd q hq
  rw [h2]; exact h q' (List.mem_append_right _ h1)
theorem allLt_all {z : Addr} : ∀ {l : List (Addr × Obj)}, AllLt z l → ∀ q ∈ l, @LT.lt Nat _ q.1 z
 | [], _, _, h => nomatch h
 | _ :: _, ⟨a, b⟩, q, h => (List.mem_cons.mp h).elim (fun e => e ▸ a) (allLt_all b q)
theorem strKind_val {prog : Program} {w : World} {k : Str} {v : Value} (h : (PySem.strKind prog w).is k v = true) : ∃ t, v = kyVal (PyData.str k) t := by
 cases v <;> simp [PySem.strKind, Value.isStrOf] at h
 exact ⟨_, by rw [h]; rfl⟩
theorem news_sub {b h : Heap} {L : Addr} {A B frs' : List (Addr × Obj)} (N : News b L h A) (hs : ∀ q ∈ B ++ frs', q ∈ A) : News b L h (B ++ frs') := fun q hq => N q (hs q hq)
theorem fr_map {b h : Heap} {L : Addr} {m m' : Str → Option Value} (F : Fr b L h m) (e : ∀ y, m y = m' y) : Fr b L h m' := (funext e : m = m') ▸ F
abbrev soObj (led : Bool) : Obj := { cls := .type "set", dict := none, data := .set #[] 0 (.fresh 0 0 led) }
section
local macro_rules | `(tactic| walk_at "getAttr ref") => `(tactic| ((with_reducible show wpAny _ _ (getAttr _ ("__next__" : Str) _) _ _ _); refine stop_of ?_))
section
variable {prog : Program} {w : World} {p : Program} {loose : List Str} {mean : ExcName → Option Value} {mg mb : Str → Option Value}
 {dp un : Nat} {gd : Option (List Code)} {cn : Str} {cs : Scope} {a : Addr} {ccd : Value} {cl : List (Str × Addr)} {outer : List Env} {A₀ : Around} {base h₀ : Heap} {L : Addr} {m : Str → Option Value} {s : Shared} {Q E : Value → Shared → Prop}
def fc_S {x dx d : Addr} {τ : SdT} {po nf : Int} {n : Nat} {od : Obj} {l : List NI} {rv : Value} {rest : List (Addr × Obj)} : Prop := ∀ (B : Below A₀ base outer h₀) (F : Fr h₀ L s.heap m) (X : (KK w.params).In h₀) (N : News h₀ L s.heap (head3 x dx d (sD d rv po nf τ) n od ++ (infosOf l ++ rest))) (S : Sor prog w x dx d od l) (ap : SApart x dx d l rest) {k : Nat} (hsz : Small l k) (hk9 : k ≤ 900) (hcl : ∀ i ∈ l, ∀ y ∈ i.su, y ∈ l.map (·.nm)) (T : Top p loose mean mg mb h₀) (hk : cs.kind = .function) (hdp : dp < 349) (hun : un < 297) (XB : (KK w.params).In base) (TB : Top p loose mean mg mb base) (D : KtsDicts (outer.filterMap (·.frame)) h₀) (retN : ∀ h' tk' h₀', KtsTurn (outer.filterMap (·.frame)) h₀ h₀' → Fr h₀' L h' m → News h₀' L h' (head3 x dx d (sD d rv po nf τ) n od ++ (infosOf l ++ rest)) →
     Below A₀ base outer h₀' → (KK w.params).In h₀' → Top p loose mean mg mb h₀' → KtsDicts (outer.filterMap (·.frame)) h₀' → (∃ fin, fin.Nodup ∧ Topo l fin ∧ ∀ i ∈ l, i.nm ∈ fin) → Q .none { s with heap := h', toks := tk' }) (retC : ∀ h' tk' h₀' c v0 vs nc, vs.length < 1500 → KtsTurn (outer.filterMap (·.frame)) h₀ h₀' → Fr h₀' L h' m → News h₀' L h' ((c, listOf (v0 :: vs).toArray nc) :: (head3 x dx d (sD d rv po nf τ) n od ++ (infosOf l ++ rest))) →
     Below A₀ base outer h₀' → (KK w.params).In h₀' → Top p loose mean mg mb h₀' → KtsDicts (outer.filterMap (·.frame)) h₀' → (∃ C, Cyc l C) → Q (.ref c) { s with heap := h', toks := tk' }),
    wpAny (model prog w) (ktrTop dp un gd cn cs L a ccd [] outer) (call (.ref 127) [.ref x]) Q E s
end
abbrev fc_u (z9 : St1 × St2 × (Addr × Value × (List Env) × Around × Heap × Heap) × (Addr × (Str → Option Value) × Shared × (Value → Shared → Prop) × (Value → Shared → Prop) × Addr) × (Addr × Addr × SdT × Int × Int × Nat) × (Obj × (List NI) × Value × (List (Addr × Obj)))) : Prop := u4 (u6 (u6 (u6 (u6 (u6 @fc_S z9.1) z9.2.1) z9.2.2.1) z9.2.2.2.1) z9.2.2.2.2.1) z9.2.2.2.2.2
def fc_c := eps (by walk_at "ne") fc_u
namespace Kfc
@[irreducible] def prog := fc_c.1.1
@[irreducible] def w := fc_c.1.2.1
@[irreducible] def p := fc_c.1.2.2.1
@[irreducible] def loose := fc_c.1.2.2.2.1
@[irreducible] def mean := fc_c.1.2.2.2.2.1
@[irreducible] def mg := fc_c.1.2.2.2.2.2
@[irreducible] def mb := fc_c.2.1.1
@[irreducible] def dp := fc_c.2.1.2.1
@[irreducible] def un := fc_c.2.1.2.2.1
@[irreducible] def gd := fc_c.2.1.2.2.2.1
@[irreducible] def cn := fc_c.2.1.2.2.2.2.1
@[irreducible] def cs := fc_c.2.1.2.2.2.2.2
@[irreducible] def a := fc_c.2.2.1.1
@[irreducible] def ccd := fc_c.2.2.1.2.1
@[irreducible] def outer := fc_c.2.2.1.2.2.1
@[irreducible] def A₀ := fc_c.2.2.1.2.2.2.1
@[irreducible] def base := fc_c.2.2.1.2.2.2.2.1
@[irreducible] def h₀ := fc_c.2.2.1.2.2.2.2.2
@[irreducible] def L := fc_c.2.2.2.1.1
@[irreducible] def m := fc_c.2.2.2.1.2.1
@[irreducible] def s := fc_c.2.2.2.1.2.2.1
@[irreducible] def Q := fc_c.2.2.2.1.2.2.2.1
@[irreducible] def E := fc_c.2.2.2.1.2.2.2.2.1
@[irreducible] def x := fc_c.2.2.2.1.2.2.2.2.2
@[irreducible] def dx := fc_c.2.2.2.2.1.1
@[irreducible] def d := fc_c.2.2.2.2.1.2.1
@[irreducible] def τ := fc_c.2.2.2.2.1.2.2.1
@[irreducible] def po := fc_c.2.2.2.2.1.2.2.2.1
@[irreducible] def nf := fc_c.2.2.2.2.1.2.2.2.2.1
@[irreducible] def n := fc_c.2.2.2.2.1.2.2.2.2.2
@[irreducible] def od := fc_c.2.2.2.2.2.1
@[irreducible] def l := fc_c.2.2.2.2.2.2.1
@[irreducible] def rv := fc_c.2.2.2.2.2.2.2.1
@[irreducible] def rest := fc_c.2.2.2.2.2.2.2.2
end Kfc
section
open Kfc
theorem fc_0 : @fc_S prog w p loose mean mg mb dp un gd cn cs a ccd outer A₀ base h₀ L m s Q E x dx d τ po nf n od l rv rest := by
 have e9 : EpsOn := trivial
 unfold fc_S
 intro B F X N S ap k hsz hk9 hcl T hk hdp hun XB TB D retN retC
 dsimp only [head3, List.cons_append, List.nil_append] at N
 refine wpAny_call ?_
 k_dflt (refine' code_defS ?k1 ?k2 ?k3 ?k4 ?k5 ?XB ?TB ?D ?T0 ?kA ?k6 ?k7 ?k8 ?k9 ?kB ?_ ?cK ?c2 ?c3 ?c4 ?c5; (case kA => exact rfl); (case k2 => k_asm); (case k1 => k_asm); (case XB => assumption); (case TB => assumption); (case D => assumption); (case T0 => exact KtsTurn.refl); (case k3 => k_asm); (case k4 => k_asm); (case k5 => k_asm); (case k6 => k_is); (case k7 => k_is); (case k8 => ktr_room); (case k9 => exact BindsTo.of_eq rfl); (case kB => exact locs rfl); (case cK => first | assumption | exact rfl); (case c2 => exact rfl); (case c3 => exact rfl); (case c4 => exact rfl); (case c5 => decide); k_whole)
 intro g1 L1 hh1 FG1 F1 N1 B1 X1 T1 D1
 walk_at "hide"
 obtain ⟨b, frs, Fs, hq, hb, F2, N2, X2, T2⟩ := toL B1 D1 F1 N1 XB TB
 walk_at "unhide"
 revert b frs
 intro b frs
 walk_at "hi"
 have hapO : ∀ q ∈ (x, instObj 137 dx) :: (dx, dictOf (sD d rv po nf τ) n) :: (d, od) :: (infosOf l ++ rest), q.1 ∉ frs.map (·.1) := fun q h hm => by
  obtain ⟨q', z1, z2⟩ := List.mem_map.mp hm
  have := hq q' z1
  rw [z2, (N1 q h).2.2] at this
  cases this
 have kp1 : Stop (∃ mm, Fr g1 L1 hh1 mm ∧ News g1 L1 hh1 _) := ⟨_, F1, N1⟩
 clear F1 N1 X1 T1 XB TB T X F B N
 replace F2 : Fr b L1 hh1 (fun y => List.lookup y [("self", .ref x)]) := F2
 replace N2 : News b L1 hh1 ((x, instObj 137 dx) :: (dx, dictOf (sD d rv po nf τ) n) :: (d, od) :: ((infosOf l ++ rest) ++ frs)) := by simpa only [List.cons_append] using N2
 generalize htl : (infosOf l ++ rest) ++ frs = TL at N2
 revert TL
 intro TL
 walk_at "hi"
 (try dsimp only); (try k_fold)
 k_steps
 rename_i ha st hb2 la hc tka it hd2 lb he2 se hf2 led hsi hss lc hg2 nd hh2 no lo hds fds hdi fdi ld hi2 FK NK
 dsimp only [head3, List.cons_append, List.nil_append] at retN retC
 revert retN retC kp1 hapO NK
 refine gen1 (dictOf (sD d rv po nf τ) n) ?_
 intro oD retN retC hapO kp1 NK
 show wpAny _ _ (pyIter _) _ _ _
 clear fds hdi fdi hsi
 have klo := S.lo
 have khd := S.hd
 refine kta_keys (knd := PySem.strKind _ _) (enc := PyData.str) (xs := (l.map (·.nm)).map fun k => Itm.tok (kyVal (PyData.str k))) rfl (by k_asm) (by k_asm) (by k_mem) (by k_asm) (by k_asm) ?_ ?_ ?_
 ·intro k v hkv
  exact strKind_val hkv
 ·simp [kvsOf]
 intro I lI
 replace lI : @LT.lt Nat _ nd I := lI (nd, no) (by k_mem)
 walk_at "hide"
 obtain ⟨la1, la2, la3, la⟩ := la
 walk_at "unhide"
 replace lb := lb.1
 replace lc := lc.1
 replace ld := ld.1
 have lTL : ∀ q ∈ (infosOf l ++ rest) ++ frs, @LT.lt Nat _ q.1 st := by rw [htl]; exact allLt_all la
 subst htl
 clear la
 have a1 : @LT.lt Nat _ st se := Nat.lt_trans lb lc
 have a2 : @LT.lt Nat _ it nd := Nat.lt_trans lc ld
 have a3 : @LT.lt Nat _ st nd := Nat.lt_trans a1 ld
 have a4 : @LT.lt Nat _ st I := Nat.lt_trans a3 lI
 have a5 : @LT.lt Nat _ it I := Nat.lt_trans a2 lI
 have a6 : @LT.lt Nat _ se I := Nat.lt_trans ld lI
 have x1 : @LT.lt Nat _ x it ∧ @LT.lt Nat _ x se ∧ @LT.lt Nat _ x nd ∧ @LT.lt Nat _ x I := ⟨Nat.lt_trans la1 lb, Nat.lt_trans la1 a1, Nat.lt_trans la1 a3, Nat.lt_trans la1 a4⟩
 have x2 : @LT.lt Nat _ dx it ∧ @LT.lt Nat _ dx se ∧ @LT.lt Nat _ dx nd ∧ @LT.lt Nat _ dx I := ⟨Nat.lt_trans la2 lb, Nat.lt_trans la2 a1, Nat.lt_trans la2 a3, Nat.lt_trans la2 a4⟩
 have x3 : @LT.lt Nat _ d it ∧ @LT.lt Nat _ d se ∧ @LT.lt Nat _ d nd ∧ @LT.lt Nat _ d I := ⟨Nat.lt_trans la3 lb, Nat.lt_trans la3 a1, Nat.lt_trans la3 a3, Nat.lt_trans la3 a4⟩
 refine items_ind (P := ForP prog w l x dx d oD od rest frs _ st it se nd I) ?_ ?_ _ _ _ (ForP.of none [] (fun _ => false) _ _ 0 0 frs ?i1 rfl (SameUp.refl _) Fs hss hds ⟨fun _ h => (nomatch h), List.nodup_nil, fun y => by simp, trivial, trivial⟩ (fun y hy => .inl hy) (fun _ h => h))
 case i1 =>
  funext y
  by_cases e : y = Str.ofString "node"
  ·subst e; rfl
  ·simp only [fcM, e, if_false]
 ·clear FK NK hss hds
  intro m1 news1 W9
  refine ForP.casesOn W9 ?_
  clear W9 m1 news1
  intro mv fin Sf so no1 n1 n2 frs1 SU Fs1 hso hdo DD hall _
  (refine ItemsRest.zero ?_; intro h tk FK NK)
  k_steps
  show LeaveS _ _ _ _ _ _ _ _ _ _ _ _ _ _ _ _ _ _
  obtain ⟨mm, kF1, kN1⟩ := kp1
  revert mm
  intro mm
  walk_at "hi"
  subst hb
  walk_at "hide"
  obtain ⟨g', T', F', N'⟩ := toS kF1 (fun q hq => (kN1 q hq).2.2) hq FK (news_sub (frs' := frs1) NK fun q hq => by
   refine sub_of ?_ hq
   (try dsimp only [fcL, List.cons_append, List.nil_append])
   walk_at "sub") SU
  walk_at "unhide"
  revert g'
  intro g'
  walk_at "hi"
  (refine leaveS_r F' N' (Fs.addrs ▸ T') ?_; intro h₀' kT kF kN kB kX kP kD)
  refine retN _ _ _ kT kF kN kB kX kP kD ⟨fin, (List.nodup_append.mp DD.nd).1, DD.topo, fun i hi => ?_⟩
  rcases hall i.nm (List.mem_map.mpr ⟨i, hi, rfl⟩) with h | h
  ·exact (nomatch h)
  ·exact h
 ·clear FK NK hss hds
  intro nm ks m1 news1 W9 ih
  refine ForP.casesOn W9 ?_
  clear W9 m1 news1
  intro mv fin Sf so no1 n1 n2 frs1 SU Fs1 hso hdo DD hall hks
  (refine ItemsRest.tok1 ?_; intro tn h tk io hio FK NK)
  dsimp only [fcM, fcL] at FK NK
  (try simp only [List.cons_append, List.nil_append] at NK)
  have lT1 := up_lt SU lTL
  have hfl : fin.length < scanBound := by
   have := DD.size
   have h2 := hsz.1
   rw [show scanBound = 4096 from rfl]
   simp only [List.length_nil] at this
   omega
  have cse : ∀ p ∈ infosOf l ++ rest ++ frs1, p.1 ≠ se := fun q hq => Nat.ne_of_lt (Nat.lt_trans (lT1 q hq) a1)
  k_steps
  show wpAny _ _ (compareOp CmpOp.In (.str nm tn) (.ref se)) _ _ _
  rename_i hA FA NA
  replace FA : Fr b L1 hA (fcM x d st it se nd (some (.str nm tn))) := fr_map FA fun y => by simp only [fcM]; split <;> rfl
  refine kse_in (knd := PySem.strKind _ _) (by k_asm) (by k_updF) hso hfl (strKind_is _ _ _ _) rfl ?_
  cases hS : Sf nm
  ·k_steps
   show wpAny _ _ (exec (Stmt.While _ _ _ _) _) _ _ _
   refine whl_start 0 ?_
   refine whl_ind (I := WT prog w l x dx d oD od rest frs (envOf cn cs L a ccd :: outer) b L1 st it se nd I io nm ks { s with heap := h, toks := 0 }) ?hE ?step (msr l [] Sf + 1) ?init
   case hE => first | passes_own | with_unfolding_all passes_own
   case init =>
    refine ⟨_, _, nm, tn, [], fin, Sf, so, no1, n1, n2, frs1, SU, Fs1, FA, NA, hso, hdo, DD, trivial, hks nm (List.mem_cons_self ..), fun y hy => ?_, .inr rfl⟩
    rcases hall y hy with h | h
    ·rcases List.mem_cons.mp h with h | h
     ·exact .inl h
     ·exact .inr (.inl h)
    ·exact .inr (.inr h)
   case step =>
    clear FA NA hso hdo DD hall hS FK NK
    intro nn ss W9
    refine WT.casesOn W9 ?_
    clear W9 nn ss
    intro hB tkB nm2 tn2 fs fin2 Sf2 so2 no2 m1 m2 frs2 SU2 Fs2 FK NK hso hdo DD hP hnm hall hk0 ih2
    (try k_fold)
    have lT2 := up_lt SU2 lTL
    have gT2 := DD.ord.gt
    have cst : ∀ p ∈ framesOf fs ++ (infosOf l ++ rest ++ frs2), p.1 ≠ st := off_mid gT2 lT2 (by walk_at "lt") (by walk_at "le")
    have cit : ∀ p ∈ framesOf fs ++ (infosOf l ++ rest ++ frs2), p.1 ≠ it := off_mid gT2 lT2 (by walk_at "lt") (by walk_at "le")
    have cse : ∀ p ∈ framesOf fs ++ (infosOf l ++ rest ++ frs2), p.1 ≠ se := off_mid gT2 lT2 (by walk_at "lt") (by walk_at "le")
    have cnd : ∀ p ∈ framesOf fs ++ (infosOf l ++ rest ++ frs2), p.1 ≠ nd := off_mid gT2 lT2 (by walk_at "lt") (by walk_at "le")
    dsimp only [fcL] at NK
    have hsz2 : fin2.length + fs.length < 1000 := by
     have := DD.size
     have h2 := hsz.1
     omega
    obtain ⟨i, hil, e7⟩ := List.mem_map.mp hnm
    revert i
    intro i hil e7
    replace e7 : i.nm = nm2 := e7
    subst e7
    have hiL : (i.ia, i.ob) ∈ infosOf l ∧ (i.la, i.lo) ∈ infosOf l ∧ (i.da, dictOf [] 0) ∈ infosOf l := mem_ents hil
    have w1 := lTL _ (List.mem_append_left _ (List.mem_append_left _ hiL.1))
    have w2 := lTL _ (List.mem_append_left _ (List.mem_append_left _ hiL.2.1))
    have w3 := lTL _ (List.mem_append_left _ (List.mem_append_left _ hiL.2.2))
    dsimp only at w1 w2 w3
    replace NK := news_pull NK hil (by walk_at "sub") (fun q hq => hq)
    have hz := kvs_at S.names hil
    refine' use3 (I := fun ss => ∃ nB, nB ≤ msr l fs Sf2 ∧ WB prog w l x dx d oD od rest frs (envOf cn cs L a ccd :: outer) b L1 st it se nd I io nm ks { s with heap := h, toks := 0 } nB ss) ?main ?iw
    case main =>
     intro IW
     k_steps
     show wpAny _ _ (compareOp CmpOp.In (.str i.nm tn2) (.ref se)) _ _ _
     refine kse_in (knd := PySem.strKind _ _) (by k_asm) (by k_updF) hso (Nat.lt_trans hsz2 (by decide)) (strKind_is _ _ _ _) rfl ?_
     cases hS2 : Sf2 i.nm
     rotate_left
     ·k_steps
      show wpAny _ _ (compareOp CmpOp.In (.str i.nm tn2) (.ref nd)) _ _ _
      by_cases hm : i.nm ∈ fs.map FR.nm
      ·walk_at "hide"
       obtain ⟨kx, kt, hv1, hv2⟩ := fkvs_some hm
       walk_at "unhide"
       revert kx kt
       intro kx kt
       walk_at "hi"
       refine kda_in (knd := PySem.strKind _ _) (by k_asm) (by k_mem) hdo lo (strKind_is _ _ _ _) true (by rw [hv1]; rfl) ?_
       k_steps
       show wpAny _ _ (subscriptTail _ _ _ _) _ _ _
       refine kda_item (knd := PySem.strKind _ _) (by k_asm) (by k_mem) hdo (strKind_is _ _ _ _) hv1 ?_
       have hl2 : (fvals fs).length < 1000 := by rw [fvals_length]; omega
       k_steps
       show wpAny _ _ (subscriptTail _ _ _ _) _ _ _
       obtain ⟨v0, vs0, hv0⟩ : ∃ v0 vs0, (fvals fs).drop kx = v0 :: vs0 := by
        cases e : (fvals fs).drop kx with
        | nil => rw [List.drop_eq_nil_iff] at e; omega
        | cons a r => exact ⟨a, r, rfl⟩
       revert v0 vs0
       intro v0 vs0
       walk_at "hi"
       refine kmk_slice_lit (lo := some (kx : Int)) (hi := none) (zs := v0 :: vs0) (by k_asm) (by k_asm) (by kmk_list) (by kmk_part) (by kmk_part) (by rw [kmk_pick_from, hv0]) ?_ (by with_unfolding_all rfl) (by kmk_pure) (by rw [List.size_toArray, sizeLine_eq]; omega)
       intro c1 hc1 FC NC ltc
       have hl3 : (v0 :: vs0).length < 1000 := by rw [← hv0, List.length_drop]; omega
       k_steps
       rename_i c2 hX FX NX ltX
       refine add_lists FX NX (by is_list) (by is_list) ?_ (by rw [sizeLine_eq]; exact Nat.le_trans (Nat.le_of_lt (Nat.add_lt_add_right hl3 1)) (by decide))
       intro hY FY NY
       k_steps
       show LeaveS _ _ _ _ _ _ _ _ _ _ _ _ _ _ _ _ _ _
       have ltx : @LT.lt Nat _ st hX.objs.size := Nat.lt_trans (by omega) (Heap.lt_size (NX _ (.head _)).1)
       have nfr : hX.objs.size ∉ frs.map (·.1) := fun hm => by
        obtain ⟨q, h1, h2⟩ := List.mem_map.mp hm
        have := lTL q (List.mem_append_right _ h1)
        rw [h2] at this
        exact absurd this (Nat.lt_asymm ltx)
       obtain ⟨mm, kF1, kN1⟩ := kp1
       revert mm
       intro mm
       walk_at "hi"
       subst hb
       walk_at "hide"
       obtain ⟨g', T', F', N'⟩ := toS (news := (hX.objs.size, listOf (v0 :: (vs0 ++ [Value.str i.nm tn2])).toArray 0) :: ((x, instObj 137 dx) :: (dx, oD) :: (d, od) :: (infosOf l ++ rest))) kF1 (fun q hq => by
        rcases List.mem_cons.mp hq with rfl | hq
        ·exact (gone_get nfr).symm.trans (NY _ (.head _)).2.2
        ·exact (kN1 q hq).2.2) hq FY (fun q hq => NY q (led_cyc q hq)) SU2
       walk_at "unhide"
       revert g'
       intro g'
       walk_at "hi"
       (refine leaveS_r F' N' (Fs.addrs ▸ T') ?_; intro h₀' kT kF kN kB kX kP kD)
       exact retC _ _ h₀' hX.objs.size v0 (vs0 ++ [.str i.nm tn2]) 0 (Nat.lt_trans (by rw [List.length_append]; exact hl3) (by decide : 1000 < 1500)) kT kF kN kB kX kP kD (cyc_of hP DD.mem hm)
      ·refine kda_in (knd := PySem.strKind _ _) (by k_asm) (by k_mem) hdo lo (strKind_is _ _ _ _) false (by rw [fkvs_none hm]; rfl) ?_
       k_steps
       show wpAny _ _ (exec (Stmt.While _ _ _ _) _) _ _ _
       refine whl_start 0 (IW _ ⟨_, Nat.le_refl _, ⟨_, _, some (.str i.nm tn2), fs, fin2, Sf2, so2, no2, m1, m2, frs2, SU2, Fs2, FK, fun q hq => NK q (tl3 hq), hso, hdo, DD, back_fin hP ?_, hall, ?_⟩⟩)
       ·rcases (DD.seen i.nm).mp hS2 with h | h
        ·exact h
        ·exact absurd h hm
       ·rcases hk0 with h | h
        ·exact h
        ·rw [← h]; exact hS2
     ·k_steps
      rename_i tkz hC so3 FC NC hso3
      show wpAny _ _ (subscriptTail _ _ _ _) _ _ _
      refine kda_item (knd := PySem.strKind _ _) (by k_asm) (by k_mem) khd (strKind_is _ _ _ _) hz ?_
      k_steps
      show wpAny _ _ (call (.builtin "iter") [.ref i.la]) _ _ _
      refine iter_list_N (vs := i.sv) (nc := i.sn) (by k_asm) (by k_asm) (by k_mem) ?_
      intro I2 hI2 FI NI2 lt2
      have l21 : @LT.lt Nat _ I I2 := lt2 (I, io) (by k_mem)
      have l22 : ∀ q ∈ framesOf fs, @LT.lt Nat _ q.1 I2 := fun q hq => lt2 q (sub_of (by walk_at "sub") hq)
      k_steps
      show wpAny _ _ (getAttr (.ref I2) _ _) _ _ _
      refine next_attr_N (pos := 0) (la := i.la) (by k_asm) (by k_asm) (by k_mem) ?_
      intro W2 hW2 FW NW ltW
      have l23 : @LT.lt Nat _ I2 W2 := ltW (I2, itObj i.la 0) (by k_mem)
      have hl1 : (fws fs).length < 1000 := by rw [fws_length]; omega
      have hl2 : (fvals fs).length < 1000 := by rw [fvals_length]; omega
      k_steps
      show wpAny _ _ (call (.builtin "len") _) _ _ _
      refine len_vals (vs := fvals fs) (by kmk_list) hl2 ?_
      have hl4 : (fkvs fs).length ≤ 1000 := by rw [fkvs_length]; omega
      k_steps
      show wpAny _ _ (exec (Stmt.While _ _ _ _) _) _ _ _
      rename_i hX oX FX NX hdX hY FY NY
      have hno : i.nm ∉ fs.map FR.nm := fun hm => by rw [(DD.seen _).mpr (.inr hm)] at hS2; cases hS2
      rw [stored_absent (fkvs_none hno)] at hdX
      rw [if_neg (by rw [hS2]; decide)] at hso3
      refine whl_start 0 (IW _ ⟨_, ?le, ⟨_, _, some (.str i.nm tn2), ⟨i, tn2, W2, I2, 0, _⟩ :: fs, fin2, _, so3, oX, m1 + 1, m2 + 1, frs2, SU2, Fs2, FY, fun q hq => NY q (led_push q hq), hso3, hdX, DD.push (g := ⟨i, tn2, W2, I2, 0, _⟩) hil hS2 l21 l23 l22, back_push hP rfl, hall, ?k0⟩⟩)
      case le => exact Nat.le_of_succ_le (Nat.le_of_eq (msr_push (g := ⟨i, tn2, W2, I2, 0, _⟩) hil S.names hS2 rfl))
      case k0 =>
       rcases hk0 with h | h
       ·simp [h]
       ·simp [h]
    case iw =>
     clear FK NK hso hdo DD hP hall hk0 gT2 cst cit cse cnd hsz2 w1 w2 w3 hiL hz lT2
     intro ss W0
     obtain ⟨nB, hnB, hWB⟩ := W0
     revert nB
     intro nB hnB hWB
     refine whl_ind (I := fun k ss => k ≤ nB ∧ WB prog w l x dx d oD od rest frs (envOf cn cs L a ccd :: outer) b L1 st it se nd I io nm ks { s with heap := h, toks := 0 } k ss) ?hE ?step nB ⟨Nat.le_refl _, hWB⟩
     case hE => first | passes_own | with_unfolding_all passes_own
     clear hWB
     intro n8 s8 W0
     obtain ⟨hn8, W9⟩ := W0
     revert hn8
     refine WB.casesOn W9 ?_
     clear W9 n8 s8
     intro hD tkD mv2 gs fin3 Sf3 so4 no4 m3 m4 frs3 SU3 Fs3 FK NK hso hdo DD hB2 hall hk0 hn8 ih3
     (try k_fold)
     cases gs with
     | nil =>
      dsimp only [fcL, fws, fvals, framesOf] at NK
      k_steps
      show wpAny _ _ (truthy (.ref st)) _ _ _
      refine truthy_none (by kmk_list) ?_
      k_steps
      show UnrEndW _ _ _ _ _ _
      have lT1' : ∀ q ∈ infosOf l ++ rest ++ frs3, @LT.lt Nat _ q.1 I := fun q hq => Nat.lt_trans (up_lt SU3 lTL q hq) a4
      refine unrEnd1 (news' := fcL nd no4 se so4 it [] m3 st m4 x dx _ d od (infosOf l ++ rest ++ frs3)) FK NK ?_ ⟨⟨by k_mem, trivial⟩, ih _ _ ⟨_, fin3, Sf3, so4, no4, m3, m4, frs3, SU3, Fs3, hso, hdo, DD, fun y hy => ?_, fun y hy => hks y (.tail _ hy)⟩⟩
      ·have lT1 : ∀ q ∈ infosOf l ++ rest ++ frs3, q.1 ≠ I := fun q hq => Nat.ne_of_lt (lT1' q hq)
       dsimp only [fcL]
       walk_at "off"
      ·rcases hall y hy with h | h | h
       ·rw [h]
        rcases (DD.seen nm).mp hk0 with h | h
        ·exact .inr h
        ·exact (nomatch h)
       ·exact .inl h
       ·exact .inr h
     | cons g r =>
      revert g r
      intro g r
      walk_at "hi"
      have lT2 := up_lt SU3 lTL
      walk_at "hide"
      obtain ⟨o1, o2, o3, o4⟩ := DD.ord
      walk_at "unhide"
      have gT2 := o4.gt
      have lT3 : ∀ q ∈ infosOf l ++ rest ++ frs3, @LT.lt Nat _ q.1 g.I := fun q hq => Nat.lt_trans (lT2 q hq) (Nat.lt_trans a4 o1)
      have cst : ∀ p ∈ framesOf r ++ (infosOf l ++ rest ++ frs3), p.1 ≠ st := off_mid gT2 lT2 (by walk_at "lt") (by walk_at "le")
      have cit : ∀ p ∈ framesOf r ++ (infosOf l ++ rest ++ frs3), p.1 ≠ it := off_mid gT2 lT2 (by walk_at "lt") (by walk_at "le")
      have cnd : ∀ p ∈ framesOf r ++ (infosOf l ++ rest ++ frs3), p.1 ≠ nd := off_mid gT2 lT2 (by walk_at "lt") (by walk_at "le")
      have cgI : ∀ p ∈ framesOf r ++ (infosOf l ++ rest ++ frs3), p.1 ≠ g.I := fun q hq => (List.mem_append.mp hq).elim (fun h => Nat.ne_of_lt (o3 q h)) fun h => Nat.ne_of_lt (lT3 q h)
      have hsz3 := DD.size
      rw [List.length_cons] at hsz3
      have hsz4 := hsz.1
      have hl1 : (fws r).length < 1000 := by rw [fws_length]; omega
      have hl2 : (fvals r).length < 1000 := by rw [fvals_length]; omega
      replace NK : News b L1 hD ((g.I, itObj g.i.la g.pos) :: (g.W, nxObj g.I) :: (I, io) :: (nd, no4) :: (se, so4) :: (it, listOf (fws r ++ [Value.ref g.W]).toArray m3) :: (st, listOf (fvals r ++ [Value.str g.nm g.tv]).toArray m4) :: (x, instObj 137 dx) :: (dx, oD) :: (d, od) :: (framesOf r ++ (infosOf l ++ rest ++ frs3))) := fun q hq => NK q (led_open q hq)
      have hgl := DD.mem g (.head _)
      k_steps
      show wpAny _ _ (truthy (.ref st)) _ _ _
      refine truthy_vals (vs := fvals r ++ [Value.str g.nm g.tv]) (by kmk_list) (by simp only [List.length_append, List.length_cons, List.length_nil]; omega) (by simp) ?_
      k_steps
      show wpAny _ _ (subscriptTail _ _ (.ref it) (.int (-1) _)) _ _ _
      refine kim_back (lo := listOf (fws r ++ [Value.ref g.W]).toArray m3) (l := fws r ++ [Value.ref g.W]) (n := m3) (by k_asm) (by k_mem) rfl rfl (by decide) (by simp only [List.length_append, List.length_cons, List.length_nil]; omega) (by decide) last_get ?_
      k_steps
      show wpAny _ _ (callWith _ (.ref g.W) _ _ _) _ _ _
      refine callWith_next (by k_asm) (by k_mem) ?_
      have hso5 := S.strOk _ hgl
      have hlo : (g.i.la, seqObj "list" g.i.sv.toArray g.i.sn) ∈ (g.W, nxObj g.I) :: (I, io) :: (nd, no4) :: (se, so4) :: (it, listOf (fws r ++ [Value.ref g.W]).toArray m3) :: (st, listOf (fvals r ++ [Value.str g.nm g.tv]).toArray m4) :: (x, instObj 137 dx) :: (dx, oD) :: (d, od) :: (framesOf r ++ (infosOf l ++ rest ++ frs3)) := by
       exact memD 9 (List.mem_append_right _ (List.mem_append_left _ (List.mem_append_left _ (mem_ents hgl).2.1)))
      have hgI : ∀ q ∈ (g.W, nxObj g.I) :: (I, io) :: (nd, no4) :: (se, so4) :: (it, listOf (fws r ++ [Value.ref g.W]).toArray m3) :: (st, listOf (fvals r ++ [Value.str g.nm g.tv]).toArray m4) :: (x, instObj 137 dx) :: (dx, oD) :: (d, od) :: (framesOf r ++ (infosOf l ++ rest ++ frs3)), q.1 ≠ g.I := by
       walk_at "off"
      by_cases hpos : g.pos < g.i.su.length
      ·obtain ⟨ty, hy⟩ := hso5.at (List.getElem?_eq_getElem hpos)
       revert ty
       intro ty
       walk_at "hi"
       refine call_next_item (vs := g.i.sv) (nc := g.i.sn) (by k_asm) NK (.head _) hlo hy hgI ?_
       intro hF FF NF
       have hyl := hcl g.i hgl _ (List.getElem_mem hpos)
       k_steps
       show WhlRest _ _ _ _ _ _ _ _ _ _ _
       rename_i hG FG NG
       have FG2 : Fr b L1 hG (fcM x d st it se nd (some (.str g.i.su[g.pos] ty))) := fr_map FG fun y => by simp only [fcM]; split <;> rfl
       refine ih2 (msr l (g.step :: r) Sf3 + 1) _ ?lt ⟨_, _, _, ty, g.step :: r, fin3, Sf3, so4, no4, m3, m4, frs3, SU3, Fs3, FG2, fun q hq => NG q (led_shut (g := g.step) q hq), hso, hdo, DD.step, pend_next hB2 (List.getElem?_eq_getElem hpos), hyl, hall, .inl hk0⟩
       case lt =>
        have := msr_step (l := l) (fs := r) (Sf := Sf3) hpos
        omega
      ·refine call_next_end (vs := g.i.sv) (nc := g.i.sn) rfl (by k_asm) NK (.head _) hlo (by rw [hso5.length]; omega) hgI ?_
       intro hF FF NF hF2 e1 hM
       k_steps
       show wpAny _ _ (noteFrame _ _) _ _ _
       refine catchK (KF := KK w.params) (new := (g.I, endIt g.pos) :: (g.W, nxObj g.I) :: (I, io) :: (nd, no4) :: (se, so4) :: (it, listOf (fws r ++ [Value.ref g.W]).toArray m3) :: (st, listOf (fvals r ++ [Value.str g.nm g.tv]).toArray m4) :: (x, instObj 137 dx) :: (dx, oD) :: (d, od) :: (framesOf r ++ (infosOf l ++ rest)))
        rfl Fs3 hM.newExc FF (fun q hq => NF q (sub_of (by dsimp only [List.cons_append]; walk_at "sub") hq)) ?hap X2 T2 (by k_is) (by boot_by_name) (by decide) stop_exc stop_notTuple stop_sub ?_
       case hap =>
        refine hap_of SU3 (fun q hq => lTL q (List.mem_append_right _ hq)) hapO (fun q hq => NF q (sub_of (by walk_at "sub") hq)) ?_
        have o5 := Nat.lt_trans a4 o1
        exact List.forall_mem_cons.mpr ⟨.inl (Nat.le_of_lt o5), List.forall_mem_cons.mpr ⟨.inl (Nat.le_of_lt (Nat.lt_trans o5 o2)), List.forall_mem_cons.mpr ⟨.inl (Nat.le_of_lt a4), List.forall_mem_cons.mpr ⟨.inl (Nat.le_of_lt a3), List.forall_mem_cons.mpr ⟨.inl (Nat.le_of_lt a1), List.forall_mem_cons.mpr ⟨.inl (Nat.le_of_lt lb),
         List.forall_mem_cons.mpr ⟨.inl (Nat.le_refl _), List.forall_mem_cons.mpr ⟨.inr (.head _), List.forall_mem_cons.mpr ⟨.inr (.tail _ (.head _)), List.forall_mem_cons.mpr ⟨.inr (tl2 (.head _)), fun q hq =>
          (List.mem_append.mp hq).elim (fun h => .inl (Nat.le_of_lt (Nat.lt_trans a4 (gT2 q h)))) fun h => .inr (tl3 h)⟩⟩⟩⟩⟩⟩⟩⟩⟩⟩
       clear FF NF hM
       intro hG frs4 SU4 Fs4 FG NG0
       have lT4 := up_lt (SU3.trans SU4) lTL
       have NG : News b L1 hG ((I, io) :: (nd, no4) :: (se, so4) :: (it, listOf (fws r ++ [Value.ref g.W]).toArray m3) :: (st, listOf (fvals r ++ [Value.str g.nm g.tv]).toArray m4) :: (x, instObj 137 dx) :: (dx, oD) :: (d, od) :: (framesOf r ++ (infosOf l ++ rest ++ frs4))) := fun q hq => NG0 q (by simp only [List.cons_append, List.append_assoc] at hq ⊢; exact List.mem_cons_of_mem _ (List.mem_cons_of_mem _ hq))
       clear NG0 cst cit cnd cgI NK hlo hgI
       have cst : ∀ p ∈ framesOf r ++ (infosOf l ++ rest ++ frs4), p.1 ≠ st := off_mid gT2 lT4 (by walk_at "lt") (by walk_at "le")
       have cit : ∀ p ∈ framesOf r ++ (infosOf l ++ rest ++ frs4), p.1 ≠ it := off_mid gT2 lT4 (by walk_at "lt") (by walk_at "le")
       have cnd : ∀ p ∈ framesOf r ++ (infosOf l ++ rest ++ frs4), p.1 ≠ nd := off_mid gT2 lT4 (by walk_at "lt") (by walk_at "le")
       have hno : g.nm ∉ r.map FR.nm := by
        have := DD.nd
        rw [List.map_cons, List.nodup_append, List.nodup_cons] at this
        exact this.2.1.1
       k_steps
       show wpAny _ _ (call (.builtin "list.pop") [.ref st]) _ _ _
       refine kl_pop (its := (fvals r ++ [Value.str g.nm g.tv]).toArray) (n := m4) (p := fvals r) (y := .str g.nm g.tv) (by k_asm) (by k_asm) (kpa_last _ _) (by k_upd) (by rw [sizeLine_eq]; simp only [List.length_append, List.length_cons, List.length_nil]; omega) ?_
       intro hI1 FI1 NI1
       k_steps
       show wpAny _ _ (delItem (.ref nd) (.str g.nm g.tv)) _ _ _
       refine kob_del (knd := PySem.strKind _ _) (by k_asm) (by k_asm) (by k_updF) hdo (strKind_is _ _ _ _) (by obtain ⟨kx, kt, hv1, _⟩ := fkvs_some (fs := g :: r) (List.mem_cons_self ..); rw [hv1]; rfl) (by rw [fkvs_length, sizeLine_eq, List.length_cons]; omega) ?_
       intro hI2 oI2 FI2 NI2 hdI2
       rw [fkvs_without hno] at hdI2
       k_steps
       show wpAny _ _ (call (.builtin "list.pop") [.ref it]) _ _ _
       refine kl_pop (its := (fws r ++ [Value.ref g.W]).toArray) (n := m3) (p := fws r) (y := .ref g.W) (by k_asm) (by k_asm) (kpa_last _ _) (by k_upd) (by rw [sizeLine_eq]; simp only [List.length_append, List.length_cons, List.length_nil]; omega) ?_
       intro hI3 FI3 NI3
       k_steps
       show WhlRest _ _ _ _ _ _ _ _ _ _ _
       have hbp := back_pop hB2 (Nat.le_of_not_lt hpos)
       have hmp := msr_pop (l := l) (fs := r) (g := g) (Sf := Sf3)
       have hsl : (g.nm :: fin3).length + r.length = fin3.length + (g :: r).length := by simp only [List.length_cons]; omega
       refine ih3 (msr l r Sf3) _ (by omega) ⟨by omega, ⟨_, _, mv2, r, g.nm :: fin3, Sf3, so4, oI2, m3 + 1, m4 + 1, frs4, SU3.trans SU4, Fs4, FI3, NI3, by rw [hsl]; exact hso, hdI2, DD.pop hbp.2, hbp.1, fun y hy => ?_, hk0⟩⟩
       rcases hall y hy with z | z | z
       ·exact .inl z
       ·exact .inr (.inl z)
       ·exact .inr (.inr (.tail _ z))
  ·k_steps
   show UnrEndW _ _ _ _ _ _
   refine unrEnd1 (news' := fcL nd no1 se so it [] n1 st n2 x dx _ d od (infosOf l ++ rest ++ frs1)) FA NA ?_ ⟨⟨by k_mem, trivial⟩, ih _ _ ⟨_, fin, Sf, so, no1, n1, n2, frs1, SU, Fs1, hso, hdo, DD, fun y hy => ?_, fun y hy => hks y (.tail _ hy)⟩⟩
   ·have lT1' : ∀ q ∈ infosOf l ++ rest ++ frs1, q.1 ≠ I := fun q hq => Nat.ne_of_lt (Nat.lt_trans (lT1 q hq) a4)
    dsimp only [fcL]
    walk_at "off"
   ·rcases hall y hy with h | h
    ·rcases List.mem_cons.mp h with h | h
     ·rw [h]
      rcases (DD.seen nm).mp hS with h | h
      ·exact .inr h
      ·exact (nomatch h)
     ·exact .inl h
    ·exact .inr h
end
theorem fc {prog w p loose mean mg mb dp un gd cn cs a ccd outer A₀ base h₀ L m s Q E x dx d τ po nf n od l rv rest} : @fc_S prog w p loose mean mg mb dp un gd cn cs a ccd outer A₀ base h₀ L m s Q E x dx d τ po nf n od l rv rest :=
 eps_all (S := fc_u) fc_c rfl (by have := fc_0; with_unfolding_all assumption) ((prog, w, p, loose, mean, mg), (mb, dp, un, gd, cn, cs), (a, ccd, outer, A₀, base, h₀), (L, m, s, Q, E, x), (dx, d, τ, po, nf, n), (od, l, rv, rest))
end
end Mine
namespace Mine
open TI
theorem adr_inj {l : List NI} (h : (adrsOf l).Nodup) {i j : NI} (hi : i ∈ l) (hj : j ∈ l) (e : i.ia = j.ia) : i = j := by
 induction l with
 | nil => exact (nomatch hi)
 | cons a r ih =>
  rw [adrsOf_cons] at h
  have h1 := (List.nodup_cons.mp h).1
  have h2 := (List.nodup_cons.mp (List.nodup_cons.mp (List.nodup_cons.mp h).2).2).2
  have mm : ∀ q ∈ r, q.ia ∈ adrsOf r := fun q hq => List.mem_flatMap.mpr ⟨q, hq, by simp⟩
  rcases List.mem_cons.mp hi with e1 | hi' <;> rcases List.mem_cons.mp hj with e2 | hj'
  ·rw [e1, e2]
  ·exact absurd (by rw [← e1, e]; exact tl2 (mm j hj')) h1
  ·exact absurd (by rw [← e2, ← e]; exact tl2 (mm i hi')) h1
  ·exact ih h2 hi' hj'
def rdyP (l : List NI) : Value → Bool
 | .ref a => l.any fun i => decide (i.ia = a) && decide (i.np = 0)
 | _ => false
def rdyF (l : List NI) (v w : Value) : Prop := ∃ i ∈ l, v = .ref i.ia ∧ w = .str i.nm i.tn
theorem rdyP_at {l : List NI} (h : (adrsOf l).Nodup) {i : NI} (hi : i ∈ l) : rdyP l (.ref i.ia) = decide (i.np = 0) := by
 unfold rdyP
 by_cases e : i.np = 0
 ·rw [decide_eq_true e, List.any_eq_true]
  exact ⟨i, hi, by simp [e]⟩
 ·rw [decide_eq_false e, Bool.eq_false_iff]
  intro hh
  obtain ⟨j, hj, hb⟩ := List.any_eq_true.mp hh
  simp only [Bool.and_eq_true, decide_eq_true_eq] at hb
  exact e (adr_inj h hj hi hb.1 ▸ hb.2)
theorem paired_is {l l' : List NI} (h : (adrsOf l).Nodup) (hs : ∀ i ∈ l', i ∈ l) : ∀ {ys : List Value}, Paired (rdyF l) (l'.map fun i => Value.ref i.ia) ys → ys = l'.map fun i => Value.str i.nm i.tn := by
 induction l' with
 | nil => intro ys hp; cases hp; rfl
 | cons a r ih =>
  intro ys hp
  cases hp with
  | cons hf ht =>
   obtain ⟨i, hi, e1, e2⟩ := hf
   injection e1 with e1
   have := adr_inj h (hs a (.head _)) hi e1
   subst this
   rw [e2, ih (fun i hi => hs i (.tail _ hi)) ht]; rfl
abbrev rdyL (l : List NI) : List NI := l.filter fun i => decide (i.np = 0)
theorem strs_map (l : List NI) : StrsAre (l.map fun i => Value.str i.nm i.tn) (l.map (·.nm)) := by
 induction l with
 | nil => exact .nil
 | cons a r ih => exact .cons _ _ ih
section
variable {prog : Program} {w : World} {A : Around} {E : Value → Shared → Prop} {s : Shared} {g1 : Heap} {L1 d vw : Addr} {m1 : Str → Option Value} {news : List (Addr × Obj)} {od : Obj} {l : List NI} {env : Env} {scope : Scope} {x : Str} {ct elt : PySem.Expr} {Q : Value → Shared → Prop}
theorem ready_comp (hh : A.handled = none) (F : Fr g1 L1 s.heap m1) (N : News g1 L1 s.heap news) (hv : s.heap.IsValuesView vw d) (hm : (d, od) ∈ news) (hd : od.IsDictOf (PySem.strKind prog w) (kvsOf l)) (hnd : (adrsOf l).Nodup) (hsz : l.length ≤ 1000)
  (ht : ∀ C s₃ m₃ E' i, i ∈ l → s₃.heap.Ns C m₃ → m₃ x = some (.ref i.ia) → Fr g1 L1 s₃.heap m1 → News g1 L1 s₃.heap news →
   wpAny (model prog w) A (isTrue ct (compEnv scope C env) (eval ct (compEnv scope C env))) (fun ok s₄ => ok = decide (i.np = 0) ∧ Keeps s₃ s₄) E' s₃)
  (he : ∀ C s₃ m₃ E' i, i ∈ l → s₃.heap.Ns C m₃ → m₃ x = some (.ref i.ia) → Fr g1 L1 s₃.heap m1 → News g1 L1 s₃.heap news →
   wpAny (model prog w) A (eval elt (compEnv scope C env)) (fun y s₄ => y = .str i.nm i.tn ∧ Keeps s₃ s₄) E' s₃)
  (hQ : ∀ D h' tk nc, Fr g1 L1 h' m1 → News g1 L1 h' ((D, listOf ((rdyL l).map fun i => Value.str i.nm i.tn).toArray nc) :: news) → (∀ q ∈ news, q.1 ≠ D) → Q (.ref D) { s with heap := h', toks := tk }) :
  wpAny (model prog w) A (pyIter (.ref vw)) (CompPost prog w A env scope x [ct] elt Q) E s := by
 obtain ⟨ep, hat⟩ := (kda_dict (knd := PySem.strKind prog w) N hm hd).dictAt
 have hne : d ≠ s.heap.objs.size := Nat.ne_of_lt hat.lt_size
 refine wpAny_pyIter_values hv hat ?_
 have keepF : ∀ h3 : Heap, (∀ b o, b ∉ [s.heap.objs.size] → (s.heap.push ({ cls := .type "dict_valueiterator", data := .fields #[.ref d, .int 0 0, .int (kvsOf l).length 0, .int ep 0] } : Obj)).get? b = some o → h3.get? b = some o) → Fr g1 L1 h3 m1 ∧ News g1 L1 h3 news := fun h3 hk => by
  have k : ∀ b o, s.heap.get? b = some o → h3.get? b = some o := fun b o e => hk b o (by
   have := Heap.lt_size e
   intro hm
   rw [List.mem_singleton.mp hm] at this
   exact Nat.lt_irrefl _ this) (Heap.get?_push_of_some _ e)
  exact ⟨F.keeps k, N.keepsAll k⟩
 have itm : ∀ (i : Nat) (v : Value), (∃ k, (kvsOf l)[i]? = some (k, v)) → ∃ j ∈ l, v = .ref j.ia := fun i v ⟨k, hk⟩ => by
  unfold kvsOf at hk
  rw [List.getElem?_map, Option.map_eq_some_iff] at hk
  obtain ⟨j, hj, e⟩ := hk
  injection e with _ e
  exact ⟨j, List.mem_of_getElem? hj, e.symm⟩
 refine ⟨rdyP l, rdyF l, s.heap.objs.size, [s.heap.objs.size, d], [s.heap.objs.size], (kvsOf l).length, _, _, rfl, Walks.dictValues hh s.heap.objs.size d hne (kvsOf l) ep, by unfold kvsOf; rw [List.length_map, sizeLine_eq]; omega,
  ⟨⟨_, Heap.get?_push_size _ rfl, rfl, rfl⟩, hat.push _⟩, ?fp, ⟨?tests, ?elt⟩, ?cont⟩
 case fp =>
  intro b hb
  show b < (s.heap.push _).objs.size
  rw [Heap.size_push]
  simp only [List.mem_cons, List.not_mem_nil, or_false] at hb
  rcases hb with rfl | rfl
  ·exact Nat.lt_succ_self _
  ·exact Nat.lt_succ_of_lt hat.lt_size
 case tests =>
  intro C i v s₃ m₃ E' hP hns hx hk _
  obtain ⟨j, hj, rfl⟩ := itm i v hP
  obtain ⟨F3, N3⟩ := keepF _ hk
  rw [rdyP_at hnd hj]
  exact wpAny_tests_one (ht C s₃ m₃ E' j hj hns hx F3 N3)
 case elt =>
  intro C i v s₃ m₃ E' hP _ hns hx hk _
  obtain ⟨j, hj, rfl⟩ := itm i v hP
  obtain ⟨F3, N3⟩ := keepF _ hk
  exact wpAny_mono (he C s₃ m₃ E' j hj hns hx F3 N3) (fun y s₄ h4 => ⟨⟨j, hj, rfl, h4.1⟩, h4.2⟩) fun _ _ z => z
 case cont =>
  intro D h' tk ys vs hD hl hpl hlen hvs hp hk
  obtain ⟨F3, N3⟩ := keepF _ hk
  have e1 : vs = l.map fun i => Value.ref i.ia := by
   apply List.ext_getElem?
   intro j
   cases hj : vs[j]? with
   | none =>
    rw [List.getElem?_eq_none_iff] at hj
    symm
    rw [List.getElem?_eq_none_iff, List.length_map]
    unfold kvsOf at hlen
    rw [List.length_map] at hlen
    omega
   | some v =>
    obtain ⟨k, hk⟩ := hvs j v hj
    unfold kvsOf at hk
    rw [List.getElem?_map, Option.map_eq_some_iff] at hk
    obtain ⟨i, hi, e⟩ := hk
    injection e with _ e
    rw [List.getElem?_map, hi, ← e]; rfl
  subst e1
  rw [List.filter_map, List.filter_congr (p := rdyP l ∘ fun i : NI => Value.ref i.ia) (q := fun i : NI => decide (i.np = 0)) (fun i hi => rdyP_at hnd hi)] at hp
  have e2 := paired_is hnd (fun i hi => (List.mem_filter.mp hi).1) hp
  obtain ⟨nc, hpl⟩ := hpl
  have e3 : ys = ((rdyL l).map fun i => Value.str i.nm i.tn).toArray := by rw [← e2, Array.toArray_toList]
  subst e3
  have old : ∀ b o, s.heap.get? b = some o → b ≠ D := fun b o e z => by
   have := Heap.get?_push_of_some ({ cls := .type "dict_valueiterator", data := .fields #[.ref d, .int 0 0, .int (kvsOf l).length 0, .int ep 0] } : Obj) e
   rw [z] at this
   rw [show (s.heap.push _).get? D = none from hD] at this
   cases this
  refine hQ D h' tk nc F3 (fun q hq => ?_) fun q hq => old _ _ (N q hq).1
  rcases List.mem_cons.mp hq with rfl | hq
  ·refine ⟨hpl, fun z => ?_, ?_⟩
   ·obtain ⟨oL, es, ep', hL, _⟩ := F.ns
    exact old _ _ hL z.symm
   ·cases z : g1.get? D with
    | none => rfl
    | some o => exact absurd rfl (old _ _ (F.keep _ _ z))
  ·exact N3 q hq
end
section
variable {d : Addr} {rv v key : Value} {po nf hs p' : Int} {τ : SdT} {u' : Tok} {n : Nat}
theorem put_rdy : (putL "_ready_nodes" hs key v (sD d rv po nf τ), putN "_ready_nodes" (sD d rv po nf τ) n) = (sD d v po nf τ, n) := by rfl
theorem put_po : (putL "_npassedout" hs key (.int p' u') (sD d rv po nf τ), putN "_npassedout" (sD d rv po nf τ) n) = (sD d rv p' nf { τ with u1 := u' }, n) := by rfl
theorem put_nf : (putL "_nfinished" hs key (.int p' u') (sD d rv po nf τ), putN "_nfinished" (sD d rv po nf τ) n) = (sD d rv po p' { τ with u2 := u' }, n) := by rfl
end
end Mine
local macro_rules | `(tactic| k_put) => `(tactic| first | exact put_rdy | exact put_po | exact put_nf)
namespace Mine
open TI
namespace SM10
def h9s_stops := sT
def h9s_pyIter_ref := sT
def h9s_truthy_ref := sT
theorem h9r0 : StopRef 127 := trivial
end SM10
open SM10
theorem turn_up {A₀ : Around} {base h₀ g1 g2 : Heap} {outer : List Env} {L : Addr} {m : Str → Option Value} (B : Below A₀ base outer h₀) (F : Fr h₀ L g1 m) (T : KtsTurn (L :: outer.filterMap (·.frame)) g1 g2) :
  ∃ h₀', KtsTurn (outer.filterMap (·.frame)) h₀ h₀' ∧ Fr h₀' L g2 m ∧ Below A₀ base outer h₀' := by
 have nL := kts_self F
 obtain ⟨T', S⟩ := kts_turn_at (h := g2) (fs := outer.filterMap (·.frame)) (g := h₀)
  (fun b hb => by
   walk_at "hide"
   obtain ⟨_, o, ho, _⟩ := B.frames.mem hb
   walk_at "unhide"
   exact ⟨o, ho⟩)
  (fun b o e nm => T.other b o (F.keep b o e) fun hm => by
   rcases List.mem_cons.mp hm with rfl | hm
   ·rw [nL] at e; cases e
   ·exact nm hm)
  (fun b o e hm => T.up (F.keep b o e))
 have U : g1.UpToSlots g2 := fun b o e _ => T.up e
 refine ⟨_, T', ⟨U.ns F.ns, S, by rw [T'.size]; exact F.above⟩, ⟨B.stack, fun b o e => T'.other b o (B.stays b o e) (fun hm => by
  rw [(B.frames.mem hm).1] at e
  cases e), B.frames.of_keeps fun b o e _ => ?_⟩⟩
 obtain ⟨sl, hs⟩ := T'.up e
 exact ⟨_, hs, rfl⟩
theorem raised_sub {base G : Heap} {l : List Env} {e t : Addr} {cls : Value} {vs : List Value} {A B : List (Addr × Obj)} {h : Heap} (R : RaisedS base G l e cls t vs A h) (hs : ∀ q ∈ B, q ∈ A) : RaisedS base G l e cls t vs B h := by
 walk_at "hide"
 obtain ⟨⟨b, hB, hBG, hl, hfl, hnew⟩, htup⟩ := R
 walk_at "unhide"
 exact ⟨⟨b, hB, hBG, fun q hq => hl q (hs q hq), hfl, hnew⟩, htup⟩
abbrev rdyO (l : List NI) (nc : Nat) : Obj := listOf ((rdyL l).map fun i => Value.str i.nm i.tn).toArray nc
theorem SApart.cons {x dx d D : Addr} {o : Obj} {l : List NI} {rest : List (Addr × Obj)} (ap : SApart x dx d l rest) (h1 : @Ne Nat D x) (h2 : @Ne Nat D dx) (h3 : @Ne Nat D d) (hi : ∀ q ∈ infosOf l, q.1 ≠ D) : SApart x dx d l ((D, o) :: rest) := by
 intro q hq
 rcases List.mem_cons.mp hq with rfl | hq
 ·intro hm
  simp only [List.mem_cons] at hm
  rcases hm with h | h | h | h
  ·exact h1 h
  ·exact h2 h
  ·exact h3 h
  ·rw [← infosOf_keys] at h
   obtain ⟨q, hq, e⟩ := List.mem_map.mp h
   exact hi q hq e
 ·exact ap q hq
theorem Sor.off {prog : Program} {w : World} {x dx d : Addr} {od : Obj} {l : List NI} {rest : List (Addr × Obj)} (S : Sor prog w x dx d od l) (ap : SApart x dx d l rest) :
  (∀ p ∈ infosOf l ++ rest, p.1 ≠ x) ∧ (∀ p ∈ infosOf l ++ rest, p.1 ≠ dx) ∧ (∀ p ∈ infosOf l ++ rest, p.1 ≠ d) := by
 have h := S.nd
 simp only [List.nodup_cons, List.mem_cons, not_or] at h
 walk_at "hide"
 obtain ⟨⟨_, _, a1⟩, ⟨_, a2⟩, a3, _⟩ := h
 walk_at "unhide"
 have key : ∀ z : Addr, z ∉ adrsOf l → z ∈ x :: dx :: d :: adrsOf l → ∀ p ∈ infosOf l ++ rest, p.1 ≠ z := fun z h1 h2 q hq e => by
  rcases List.mem_append.mp hq with hq | hq
  ·exact h1 (e ▸ mem_adrs hq)
  ·exact ap q hq (e ▸ h2)
 exact ⟨key x a1 (by simp), key dx a2 (by simp), key d a3 (by simp)⟩
section
local macro_rules | `(tactic| walk_at "exec Assign cons ListComp") => `(tactic| walk_at "exec Assign")
local macro_rules | `(tactic| walk_at "eval Name") => `(tactic| ((with_reducible show wpAny _ _ (eval (PySem.Expr.Name _ _) (compEnv _ _ _)) _ _ _); k_dflt (refine wpAny_Name (wpAny_loadName_local (by rfl) (by rfl) (by assumption) (by assumption) ?_) (by decide))))
section
variable {prog : Program} {w : World} {p : Program} {loose : List Str} {mean : ExcName → Option Value} {mg mb : Str → Option Value}
 {dp un : Nat} {gd : Option (List Code)} {cn : Str} {cs : Scope} {a : Addr} {ccd : Value} {cl : List (Str × Addr)} {outer : List Env} {A₀ : Around} {base h₀ : Heap} {L : Addr} {m : Str → Option Value} {s : Shared} {Q E : Value → Shared → Prop}
def prep_S {x dx d : Addr} {τ : SdT} {po nf : Int} {n : Nat} {od : Obj} {l : List NI} {rest : List (Addr × Obj)} : Prop := ∀ (B : Below A₀ base outer h₀) (F : Fr h₀ L s.heap m) (X : (KK w.params).In h₀) (N : News h₀ L s.heap (head3 x dx d (sD d .none po nf τ) n od ++ (infosOf l ++ rest))) (S : Sor prog w x dx d od l) (ap : SApart x dx d l rest) {k : Nat} (hsz : Small l k) (hk9 : k ≤ 900) (hcl : ∀ i ∈ l, ∀ y ∈ i.su, y ∈ l.map (·.nm)) (T : Top p loose mean mg mb h₀) (hk : cs.kind = .function) (hdp : dp < 348) (hun : un < 290) (XB : (KK w.params).In base) (TB : Top p loose mean mg mb base) (D : KtsDicts (outer.filterMap (·.frame)) h₀) (retN : ∀ h' tk' h₀' D2 nc, KtsTurn (outer.filterMap (·.frame)) h₀ h₀' → Fr h₀' L h' m → News h₀' L h' (head3 x dx d (sD d (.ref D2) po nf τ) n od ++ (infosOf l ++ ((D2, rdyO l nc) :: rest))) →
     Below A₀ base outer h₀' → (KK w.params).In h₀' → Top p loose mean mg mb h₀' → KtsDicts (outer.filterMap (·.frame)) h₀' → SApart x dx d l ((D2, rdyO l nc) :: rest) → (∀ q ∈ rest, q.1 ≠ D2) →
     (∃ fin, fin.Nodup ∧ Topo l fin ∧ ∀ i ∈ l, i.nm ∈ fin) → Q .none { s with heap := h', toks := tk' }) (retX : ∀ h' tk' h₀' G e t vs D2 nc, KtsTurn (outer.filterMap (·.frame)) h₀ h₀' → Fr h₀' L G m → RaisedS base G (envOf cn cs L a ccd :: outer) e (.ref 55) t vs (head3 x dx d (sD d (.ref D2) po nf τ) n od ++ (infosOf l ++ ((D2, rdyO l nc) :: rest))) h' → G.UpToSlots h' →
     Below A₀ base outer h₀' → (KK w.params).In h₀' → Top p loose mean mg mb h₀' → KtsDicts (outer.filterMap (·.frame)) h₀' → SApart x dx d l ((D2, rdyO l nc) :: rest) → (∀ q ∈ rest, q.1 ≠ D2) →
     (∃ C, Cyc l C) → E (.ref e) { s with heap := h', toks := tk' }),
    wpAny (model prog w) (ktrTop dp un gd cn cs L a ccd [] outer) (call (.ref 92) [.ref x]) Q E s
end
abbrev prep_u (z9 : St1 × St2 × (Addr × Value × (List Env) × Around × Heap × Heap) × (Addr × (Str → Option Value) × Shared × (Value → Shared → Prop) × (Value → Shared → Prop) × Addr) × (Addr × Addr × SdT × Int × Int × Nat) × (Obj × (List NI) × (List (Addr × Obj)))) : Prop := u3 (u6 (u6 (u6 (u6 (u6 @prep_S z9.1) z9.2.1) z9.2.2.1) z9.2.2.2.1) z9.2.2.2.2.1) z9.2.2.2.2.2
def prep_c := eps (by walk_at "ne") prep_u
namespace Kprep
@[irreducible] def prog := prep_c.1.1
@[irreducible] def w := prep_c.1.2.1
@[irreducible] def p := prep_c.1.2.2.1
@[irreducible] def loose := prep_c.1.2.2.2.1
@[irreducible] def mean := prep_c.1.2.2.2.2.1
@[irreducible] def mg := prep_c.1.2.2.2.2.2
@[irreducible] def mb := prep_c.2.1.1
@[irreducible] def dp := prep_c.2.1.2.1
@[irreducible] def un := prep_c.2.1.2.2.1
@[irreducible] def gd := prep_c.2.1.2.2.2.1
@[irreducible] def cn := prep_c.2.1.2.2.2.2.1
@[irreducible] def cs := prep_c.2.1.2.2.2.2.2
@[irreducible] def a := prep_c.2.2.1.1
@[irreducible] def ccd := prep_c.2.2.1.2.1
@[irreducible] def outer := prep_c.2.2.1.2.2.1
@[irreducible] def A₀ := prep_c.2.2.1.2.2.2.1
@[irreducible] def base := prep_c.2.2.1.2.2.2.2.1
@[irreducible] def h₀ := prep_c.2.2.1.2.2.2.2.2
@[irreducible] def L := prep_c.2.2.2.1.1
@[irreducible] def m := prep_c.2.2.2.1.2.1
@[irreducible] def s := prep_c.2.2.2.1.2.2.1
@[irreducible] def Q := prep_c.2.2.2.1.2.2.2.1
@[irreducible] def E := prep_c.2.2.2.1.2.2.2.2.1
@[irreducible] def x := prep_c.2.2.2.1.2.2.2.2.2
@[irreducible] def dx := prep_c.2.2.2.2.1.1
@[irreducible] def d := prep_c.2.2.2.2.1.2.1
@[irreducible] def τ := prep_c.2.2.2.2.1.2.2.1
@[irreducible] def po := prep_c.2.2.2.2.1.2.2.2.1
@[irreducible] def nf := prep_c.2.2.2.2.1.2.2.2.2.1
@[irreducible] def n := prep_c.2.2.2.2.1.2.2.2.2.2
@[irreducible] def od := prep_c.2.2.2.2.2.1
@[irreducible] def l := prep_c.2.2.2.2.2.2.1
@[irreducible] def rest := prep_c.2.2.2.2.2.2.2
end Kprep
section
open Kprep
theorem prep_0 : @prep_S prog w p loose mean mg mb dp un gd cn cs a ccd outer A₀ base h₀ L m s Q E x dx d τ po nf n od l rest := by
 have e9 : EpsOn := trivial
 unfold prep_S
 intro B F X N S ap k hsz hk9 hcl T hk hdp hun XB TB D retN retX
 dsimp only [head3, List.cons_append, List.nil_append] at N
 have klo := S.lo
 have khd := S.hd
 obtain ⟨b1, b2, b3⟩ := S.base
 obtain ⟨cx, cdx, cd⟩ := S.off ap
 refine wpAny_call ?_
 k_dflt (refine' code_defS ?k1 ?k2 ?k3 ?k4 ?k5 ?XB ?TB ?D ?T0 ?kA ?k6 ?k7 ?k8 ?k9 ?kB ?_ ?cK ?c2 ?c3 ?c4 ?c5; (case kA => exact rfl); (case k2 => k_asm); (case k1 => k_asm); (case XB => assumption); (case TB => assumption); (case D => assumption); (case T0 => exact KtsTurn.refl); (case k3 => k_asm); (case k4 => k_asm); (case k5 => k_asm); (case k6 => k_is); (case k7 => k_is); (case k8 => ktr_room); (case k9 => exact BindsTo.of_eq rfl); (case kB => exact locs rfl); (case cK => first | assumption | exact rfl); (case c2 => exact rfl); (case c3 => exact rfl); (case c4 => exact rfl); (case c5 => decide); k_whole)
 intro g1 L1 hh1 FG1 F1 N1 B1 X1 T1 D1
 replace F1 : Fr g1 L1 hh1 (fun y => List.lookup y [("self", .ref x)]) := F1
 (try dsimp only); (try k_fold)
 k_steps
 show wpAny _ _ (pyIter _) _ _ _
 rename_i vw hV FV NV lV
 have hnd : (adrsOf l).Nodup := (List.nodup_cons.mp (List.nodup_cons.mp (List.nodup_cons.mp S.nd).2).2).2
 refine ready_comp (l := l) (d := d) (od := od) rfl FV NV ⟨_, NV.get (.head _), rfl, rfl⟩ (by k_mem) khd hnd (Nat.le_trans hsz.1 (by omega)) ?t ?e ?c
 case t =>
  clear FV NV F1 N1
  intro C s₃ m₃ E' i hi hns hx F3 N3
  have N4 := news_pull (Y := infosOf l) N3 hi (by walk_at "sub") (by walk_at "sub")
  clear N3
  k_steps
  exact ⟨_, _, rfl, fun _ _ e => e⟩
 case e =>
  clear FV NV F1 N1
  intro C s₃ m₃ E' i hi hns hx F3 N3
  have N4 := news_pull (Y := infosOf l) N3 hi (by walk_at "sub") (by walk_at "sub")
  clear N3
  k_steps
  exact ⟨_, _, rfl, fun _ _ e => e⟩
 case c =>
  clear FV NV F1 N1
  intro D2 hD2 tkD nc FD ND lD
  have e1 : @Ne Nat D2 dx := neN (fun e => lD (dx, dictOf (sD d .none po nf τ) n) (by k_mem) e.symm)
  have e2 : @Ne Nat D2 x := neN (fun e => lD (x, instObj 137 dx) (by k_mem) e.symm)
  have e3 : @Ne Nat D2 d := neN (fun e => lD (d, od) (by k_mem) e.symm)
  have e4 : @Ne Nat D2 vw := neN (fun e => lD (vw, { cls := Value.type "dict_values", data := Data.fields #[Value.ref d] }) (by k_mem) e.symm)
  walk_at "hide"
  obtain ⟨v1, v2, v3, v4⟩ := lV
  walk_at "unhide"
  k_steps
  show wpAny _ _ (call (.ref 127) [.ref x]) _ _ _
  rename_i hE FE NE
  have ap1 : SApart x dx d l ((vw, { cls := Value.type "dict_values", data := Data.fields #[Value.ref d] }) :: rest) := ap.cons (by omega) (by omega) (by omega) fun q hq => neN (Nat.ne_of_lt (allLt_all v4 q (List.mem_append_left _ hq)))
  have ap2 : SApart x dx d l ((D2, listOf ((rdyL l).map fun i => Value.str i.nm i.tn).toArray nc) :: (vw, { cls := Value.type "dict_values", data := Data.fields #[Value.ref d] }) :: rest) := ap1.cons e2 e1 e3 fun q hq => lD q (sub_of (by walk_at "sub") hq)
  have NE2 : News g1 L1 hE (head3 x dx d (sD d (.ref D2) po nf τ) n od ++ (infosOf l ++ ((D2, listOf ((rdyL l).map fun i => Value.str i.nm i.tn).toArray nc) :: (vw, { cls := Value.type "dict_values", data := Data.fields #[Value.ref d] }) :: rest))) := fun q hq => NE q (by
   refine sub_of ?_ hq
   (try dsimp only [head3, List.cons_append, List.nil_append])
   walk_at "sub")
  have ap3 : SApart x dx d l ((D2, rdyO l nc) :: rest) := ap.cons e2 e1 e3 fun q hq => lD q (sub_of (by walk_at "sub") hq)
  refine fc B1 FE X1 NE2 S ap2 hsz hk9 hcl T1 rfl (Nat.succ_lt_succ hdp) (unlt hun (by decide)) XB TB D1 ?retN ?retC
  case retN =>
   clear FE NE NE2 X1 T1 B1
   intro h' tk' h₀' kT kF kN kB kX kP kD hfin
   k_steps
   rename_i hX FX NX kg2 kT2 kF2 kN2 kB2 kX2 kP2 kD2 kX3
   exact retN _ _ _ D2 nc kT2 kF2 (fun q hq => kN2 q (by
    refine sub_of ?_ hq
    (try dsimp only [head3, List.cons_append, List.nil_append])
    walk_at "sub")) kB2 kX2 kP2 kD2 ap3 (fun q hq => lD q (sub_of (by walk_at "sub") hq)) hfin
  case retC =>
   clear FE NE NE2 X1 T1 B1
   intro h' tk' h₀' c v0 vs nc2 hvs kT kF kN kB kX kP kD hcyc
   have kN2 : News h₀' L1 h' ((c, listOf (v0 :: vs).toArray nc2) :: (x, instObj 137 dx) :: (dx, dictOf (sD d (.ref D2) po nf τ) n) :: (d, od) :: (infosOf l ++ ((D2, listOf ((rdyL l).map fun i => Value.str i.nm i.tn).toArray nc) :: (vw, { cls := Value.type "dict_values", data := Data.fields #[Value.ref d] }) :: rest))) := kN
   clear kN
   k_steps
   show wpAny _ _ (truthy (.ref c)) _ _ _
   refine truthy_vals (vs := v0 :: vs) (by kmk_list) (by rw [List.length_cons]; omega) (by simp) ?_
   k_steps
   rename_i hX FX NX hX2 eX aX hX3 tX RX KX UX
   walk_at "hide"
   obtain ⟨g0, T0, F0, B0⟩ := turn_up B FG1 kT
   walk_at "unhide"
   exact retX _ _ g0 h₀' eX tX _ D2 nc T0 F0 (raised_sub RX fun q hq => by
    refine sub_of ?_ hq
    (try dsimp only [head3, List.cons_append, List.nil_append])
    walk_at "sub") UX B0 (XB.keeps B0.stays) (TB.keeps B0.stays) (D.turn T0) ap3 (fun q hq => lD q (sub_of (by walk_at "sub") hq)) hcyc
end
theorem prep {prog w p loose mean mg mb dp un gd cn cs a ccd outer A₀ base h₀ L m s Q E x dx d τ po nf n od l rest} : @prep_S prog w p loose mean mg mb dp un gd cn cs a ccd outer A₀ base h₀ L m s Q E x dx d τ po nf n od l rest :=
 eps_all (S := prep_u) prep_c rfl (by have := prep_0; with_unfolding_all assumption) ((prog, w, p, loose, mean, mg), (mb, dp, un, gd, cn, cs), (a, ccd, outer, A₀, base, h₀), (L, m, s, Q, E, x), (dx, d, τ, po, nf, n), (od, l, rest))
end
end Mine
namespace Mine
open TI
theorem meets_bool_list (l : Addr) (vs : List Value) (hfit : vs.length < 2000) :
  Meets (Builtin.«bool.__new__» ⟨[.type "bool", .ref l], []⟩) (fun _ R s => s.heap.IsList l vs.toArray ∧ R (.ok (.ret (.bool (!vs.isEmpty)))) { s with toks := s.toks + 1 + 1 }) :=
 Meets.of_wp fun prog w A R s hs => by
  obtain ⟨hl, hs⟩ := hs
  obtain ⟨hp, g, d, tk, os⟩ := s
  have e : vs.toArray.isEmpty = vs.isEmpty := by cases vs <;> rfl
  rw [← e] at hs
  have f1 := F.conv_sub_bool
  have hT : (⟨hp, g, d, tk, os⟩ : Shared).TypeIs (.ref l) "list" := hl.typeIs
  repeat (any_goals (first | assumption | (with_reducible refine wpAny_truthy_list hl (by rw [List.size_toArray]; omega) ?_) | wp_step))
  all_goals exact ⟨_, rfl, hs⟩
theorem call_bool_list {prog : Program} {w : World} {A : Around} {E : Value → Shared → Prop} {s : Shared} {l : Addr} {vs : List Value} {Q : Value → Shared → Prop} (hl : s.heap.IsList l vs.toArray) (hfit : vs.length < 2000) (h : Q (.bool (!vs.isEmpty)) { s with toks := s.toks + 1 + 1 }) :
  wpAny (model prog w) A (call (.type "bool") [.ref l]) Q E s :=
 call_bool_1 (meets_bool_list l vs hfit) (show s.heap.IsList l vs.toArray ∧ wants (fun obj s₁ => s₁.TypeIs obj "bool" ∧ Q obj s₁) E _ _ from ⟨hl, rfl, h⟩)
namespace SM11
def h9s_stops := sT
def h9s_pyIter_ref := sT
def h9s_call_type_bool := sT
def h9s_call_type_tuple := sT
end SM11
open SM11
section
section
variable {prog : Program} {w : World} {p : Program} {loose : List Str} {mean : ExcName → Option Value} {mg mb : Str → Option Value}
 {dp un : Nat} {gd : Option (List Code)} {cn : Str} {cs : Scope} {a : Addr} {ccd : Value} {cl : List (Str × Addr)} {outer : List Env} {A₀ : Around} {base h₀ : Heap} {L : Addr} {m : Str → Option Value} {s : Shared} {Q E : Value → Shared → Prop}
def isact_S {x dx d rl : Addr} {τ : SdT} {po nf : Int} {n nc : Nat} {od : Obj} {l : List NI} {rvs : List Value} {rest : List (Addr × Obj)} : Prop := ∀ (B : Below A₀ base outer h₀) (F : Fr h₀ L s.heap m) (X : (KK w.params).In h₀) (N : News h₀ L s.heap (head3 x dx d (sD d (.ref rl) po nf τ) n od ++ (infosOf l ++ ((rl, listOf rvs.toArray nc) :: rest)))) (S : Sor prog w x dx d od l) (ap : SApart x dx d l ((rl, listOf rvs.toArray nc) :: rest)) (hrv : rvs.length ≤ 1000) (T : Top p loose mean mg mb h₀) (hk : cs.kind = .function) (hdp : dp < 348) (hun : un < 290) (ret : ∀ h' tk', Fr h₀ L h' m → News h₀ L h' (head3 x dx d (sD d (.ref rl) po nf τ) n od ++ (infosOf l ++ ((rl, listOf rvs.toArray nc) :: rest))) → Q (.bool (decide (nf < po) || !rvs.isEmpty)) { s with heap := h', toks := tk' }),
  wpAny (model prog w) (ktrTop dp un gd cn cs L a ccd cl outer) (call (.ref 106) [.ref x]) Q E s
end
abbrev isact_u (z9 : St1 × St2 × St3 × St4 × (Addr × Addr × Addr × Addr × SdT × Int) × (Int × Nat × Nat × Obj × (List NI) × (List Value)) × ((List (Addr × Obj)))) : Prop := u1 (u6 (u6 (u6 (u6 (u6 (u6 @isact_S z9.1) z9.2.1) z9.2.2.1) z9.2.2.2.1) z9.2.2.2.2.1) z9.2.2.2.2.2.1) z9.2.2.2.2.2.2
def isact_c := eps (by walk_at "ne") isact_u
namespace Kisact
@[irreducible] def prog := isact_c.1.1
@[irreducible] def w := isact_c.1.2.1
@[irreducible] def p := isact_c.1.2.2.1
@[irreducible] def loose := isact_c.1.2.2.2.1
@[irreducible] def mean := isact_c.1.2.2.2.2.1
@[irreducible] def mg := isact_c.1.2.2.2.2.2
@[irreducible] def mb := isact_c.2.1.1
@[irreducible] def dp := isact_c.2.1.2.1
@[irreducible] def un := isact_c.2.1.2.2.1
@[irreducible] def gd := isact_c.2.1.2.2.2.1
@[irreducible] def cn := isact_c.2.1.2.2.2.2.1
@[irreducible] def cs := isact_c.2.1.2.2.2.2.2
@[irreducible] def a := isact_c.2.2.1.1
@[irreducible] def ccd := isact_c.2.2.1.2.1
@[irreducible] def cl := isact_c.2.2.1.2.2.1
@[irreducible] def outer := isact_c.2.2.1.2.2.2.1
@[irreducible] def A₀ := isact_c.2.2.1.2.2.2.2.1
@[irreducible] def base := isact_c.2.2.1.2.2.2.2.2
@[irreducible] def h₀ := isact_c.2.2.2.1.1
@[irreducible] def L := isact_c.2.2.2.1.2.1
@[irreducible] def m := isact_c.2.2.2.1.2.2.1
@[irreducible] def s := isact_c.2.2.2.1.2.2.2.1
@[irreducible] def Q := isact_c.2.2.2.1.2.2.2.2.1
@[irreducible] def E := isact_c.2.2.2.1.2.2.2.2.2
@[irreducible] def x := isact_c.2.2.2.2.1.1
@[irreducible] def dx := isact_c.2.2.2.2.1.2.1
@[irreducible] def d := isact_c.2.2.2.2.1.2.2.1
@[irreducible] def rl := isact_c.2.2.2.2.1.2.2.2.1
@[irreducible] def τ := isact_c.2.2.2.2.1.2.2.2.2.1
@[irreducible] def po := isact_c.2.2.2.2.1.2.2.2.2.2
@[irreducible] def nf := isact_c.2.2.2.2.2.1.1
@[irreducible] def n := isact_c.2.2.2.2.2.1.2.1
@[irreducible] def nc := isact_c.2.2.2.2.2.1.2.2.1
@[irreducible] def od := isact_c.2.2.2.2.2.1.2.2.2.1
@[irreducible] def l := isact_c.2.2.2.2.2.1.2.2.2.2.1
@[irreducible] def rvs := isact_c.2.2.2.2.2.1.2.2.2.2.2
@[irreducible] def rest := isact_c.2.2.2.2.2.2
end Kisact
section
open Kisact
theorem isact_0 : @isact_S prog w p loose mean mg mb dp un gd cn cs a ccd cl outer A₀ base h₀ L m s Q E x dx d rl τ po nf n nc od l rvs rest := by
 have e9 : EpsOn := trivial
 unfold isact_S
 intro B F X N S ap hrv T hk hdp hun ret
 have apz : Apart ((x, instObj 137 dx) :: (dx, dictOf (sD d (.ref rl) po nf τ) n) :: (rl, listOf rvs.toArray nc) :: (d, od) :: (infosOf l ++ rest)) [] := fun _ h => nomatch h
 have N0 : News h₀ L s.heap (((x, instObj 137 dx) :: (dx, dictOf (sD d (.ref rl) po nf τ) n) :: (rl, listOf rvs.toArray nc) :: (d, od) :: (infosOf l ++ rest)) ++ []) := fun q hq => N q (by
  refine sub_of ?_ hq
  simp only [List.append_nil, List.cons_append, List.nil_append, head3]
  walk_at "sub")
 clear N
 refine wpAny_call ?_
 k_dflt ktr_enter
 intro g1 L1 hh1 FG1 F1 N1 B1 X1 T1 l1 hr
 (try dsimp only); (try k_fold)
 have back : ∀ {h' : Heap}, News h₀ L h' ((x, instObj 137 dx) :: (dx, dictOf (sD d (.ref rl) po nf τ) n) :: (rl, listOf rvs.toArray nc) :: (d, od) :: (infosOf l ++ rest)) →
   News h₀ L h' (head3 x dx d (sD d (.ref rl) po nf τ) n od ++ (infosOf l ++ ((rl, listOf rvs.toArray nc) :: rest))) := fun N q hq => N q (by
  refine sub_of ?_ hq
  (try dsimp only [head3, List.cons_append, List.nil_append])
  walk_at "sub")
 k_steps
 ·skip
  with_reducible rename nf < po => hlt
  with_reducible rename Fr h₀ L _ m => kF
  with_reducible rename News h₀ L _ (_ :: _) => kN
  rw [decide_eq_true hlt, Bool.true_or] at ret
  rw [decide_eq_true hlt]
  exact ret _ _ kF (back kN)
 ·show wpAny _ _ (call (.type "bool") [.ref rl]) _ _ _
  refine call_bool_list (vs := rvs) (by kmk_list) (by omega) ?_
  with_reducible rename ¬ nf < po => hlt
  k_steps
  with_reducible rename Fr h₀ L _ m => kF
  with_reducible rename News h₀ L _ (_ :: _) => kN
  rw [decide_eq_false hlt, Bool.false_or] at ret
  exact ret _ _ kF (back kN)
end
theorem isact {prog w p loose mean mg mb dp un gd cn cs a ccd cl outer A₀ base h₀ L m s Q E x dx d rl τ po nf n nc od l rvs rest} : @isact_S prog w p loose mean mg mb dp un gd cn cs a ccd cl outer A₀ base h₀ L m s Q E x dx d rl τ po nf n nc od l rvs rest :=
 eps_all (S := isact_u) isact_c rfl (by have := isact_0; with_unfolding_all assumption) ((prog, w, p, loose, mean, mg), (mb, dp, un, gd, cn, cs), (a, ccd, cl, outer, A₀, base), (h₀, L, m, s, Q, E), (x, dx, d, rl, τ, po), (nf, n, nc, od, l, rvs), (rest))
end
end Mine
namespace Mine
open TI
theorem clr_any {prog : Program} {w : World} {A : Around} {E : Value → Shared → Prop} {s : Shared} {h₀ : Heap} {L D : Addr} {m : Str → Option Value} {news : List (Addr × Obj)} {g : Obj → List (Addr × Obj)} {its : Array Value} {n : Nat} {Q : Value → Shared → Prop}
  (F : Fr h₀ L s.heap m) (N : News h₀ L s.heap news) (U : UpdF D (listOf its n) news g) (hz : its.size ≤ sizeLine) (h : ∀ h' n', Fr h₀ L h' m → News h₀ L h' (g (listOf #[] n')) → Q .none { s with heap := h' }) :
  wpAny (model prog w) A (call (.builtin "list.clear") [.ref D]) Q E s := by
 obtain ⟨pre, post, rfl, hg, a, c⟩ := U.split
 have z := N (D, listOf its n) (List.mem_append_right _ (.head _))
 refine call_meets PySem.F.slot_list_clear ⟨_, z.1, rfl⟩ PySem.F.entry_list_clear (PySem.F.args_list_clear_1 _) (PySem.AutoSeq1.list_clear_list_0 D its n hz) ⟨z.1, h _ (if (#[] : Array Value).size == its.size then n else n + 1) (F.change (Heap.SameBut.update ..) z.2.1 z.2.2) ?_⟩
 exact hg _ ▸ N.setIn a c (Heap.SameBut.update ..) (IsL.update z.1 _)
theorem len_tup {prog : Program} {w : World} {A : Around} {E : Value → Shared → Prop} {s : Shared} {h₀ : Heap} {L D : Addr} {news : List (Addr × Obj)} {vs : List Value} {Q : Value → Shared → Prop} (N : News h₀ L s.heap news) (hm : (D, tupOf vs) ∈ news) (hfit : vs.length < 2000)
  (h : Q (.int vs.length (s.toks + 1)) { s with toks := s.toks + 1 + 1 }) : wpAny (model prog w) A (call (.builtin "len") [.ref D]) Q E s :=
 PyProof.Rows.len_tuple (items := vs.toArray) (News.isTup N hm) (by rw [List.size_toArray]; omega) (by rw [List.size_toArray]; exact h)
abbrev sV (p : Str × Tok) : Value := .str p.1 p.2
def pOut (P : List (Str × Int × List Str)) : List Str → List (Str × Int × List Str)
 | [] => P
 | y :: r => pOut (pUpd P y fun q => (-1, q.2)) r
abbrev grM (x d D : Addr) (mv : Option Value) : Str → Option Value := fun y => if y = Str.ofString "node" then mv else if y = Str.ofString "n2i" then some (.ref d) else if y = Str.ofString "result" then some (.ref D) else List.lookup y [("self", .ref x)]
inductive GrP (prog : Program) (w : World) (x dx d rl D : Addr) (oD oR od : Obj) (l : List NI) (rp0 : List (Str × Tok)) (names : List Str) (k : Nat) (rp : List (Str × Tok)) : (Str → Option Value) → List (Addr × Obj) → Prop
 | mk (mv : Option Value) (l' : List NI) (e0 : Sor prog w x dx d od l') (e1 : adrsOf l' = adrsOf l) (e2 : l'.map (·.nm) = names) (e3 : ∀ i ∈ l', i.sv.length ≤ k) (e4 : pOut (absN l') (rp.map (·.1)) = pOut (absN l) (rp0.map (·.1))) (e5 : ∀ p ∈ rp, p.1 ∈ names) :
  GrP prog w x dx d rl D oD oR od l rp0 names k rp (grM x d D mv) ((D, tupOf (rp0.map sV)) :: (x, instObj 137 dx) :: (dx, oD) :: (rl, oR) :: (d, od) :: infosOf l')
theorem gr_of {prog : Program} {w : World} {x dx d rl D : Addr} {oD oR od : Obj} {l : List NI} {rp0 : List (Str × Tok)} {names : List Str} {k : Nat} {rp : List (Str × Tok)} {m m' : Str → Option Value} {news : List (Addr × Obj)} (e : m = m') (h : GrP prog w x dx d rl D oD oR od l rp0 names k rp m' news) : GrP prog w x dx d rl D oD oR od l rp0 names k rp m news := e ▸ h
theorem infos_as {l l' : List NI} {P : Addr → Prop} (e : adrsOf l' = adrsOf l) (h : ∀ q ∈ infosOf l, P q.1) : ∀ q ∈ infosOf l', P q.1 := fun q hq => by
 have h1 := mem_adrs hq
 rw [e, ← infosOf_keys] at h1
 obtain ⟨q', z1, z2⟩ := List.mem_map.mp h1
 exact z2 ▸ h q' z1
namespace SM12
def h9s_stops := sT
def h9s_pyIter_ref := sT
def h9s_call_builtin_list_clear := sT
def h9s_call_builtin_len := sT
def h9s_call_type_tuple := sT
def h9s_subscriptTail_Name_Name_ref_str := sT
end SM12
open SM12
section
section
variable {prog : Program} {w : World} {p : Program} {loose : List Str} {mean : ExcName → Option Value} {mg mb : Str → Option Value}
 {dp un : Nat} {gd : Option (List Code)} {cn : Str} {cs : Scope} {a : Addr} {ccd : Value} {cl : List (Str × Addr)} {outer : List Env} {A₀ : Around} {base h₀ : Heap} {L : Addr} {m : Str → Option Value} {s : Shared} {Q E : Value → Shared → Prop}
def getrdy_S {x dx d rl : Addr} {τ : SdT} {po nf : Int} {n nc : Nat} {od : Obj} {l : List NI} {rp : List (Str × Tok)} {rest : List (Addr × Obj)} {k : Nat} : Prop := ∀ (B : Below A₀ base outer h₀) (F : Fr h₀ L s.heap m) (X : (KK w.params).In h₀) (N : News h₀ L s.heap (head3 x dx d (sD d (.ref rl) po nf τ) n od ++ (infosOf l ++ ((rl, listOf (rp.map sV).toArray nc) :: rest)))) (S : Sor prog w x dx d od l) (ap : SApart x dx d l ((rl, listOf (rp.map sV).toArray nc) :: rest)) (hrl : ∀ q ∈ rest, q.1 ≠ rl) (hrv : rp.length ≤ 1000) (hrn : ∀ p ∈ rp, p.1 ∈ l.map (·.nm)) (hsz : Small l k) (hk9 : k ≤ 900) (T : Top p loose mean mg mb h₀) (hk : cs.kind = .function) (hdp : dp < 348) (hun : un < 290) (ret : ∀ h' tk' τ' l' D nc', Fr h₀ L h' m → News h₀ L h' ((D, tupOf (rp.map sV)) :: (head3 x dx d (sD d (.ref rl) (po + rp.length) nf τ') n od ++ (infosOf l' ++ ((rl, listOf #[] nc') :: rest)))) →
     Sor prog w x dx d od l' → SApart x dx d l' ((D, tupOf (rp.map sV)) :: (rl, listOf #[] nc') :: rest) → (∀ q ∈ rest, q.1 ≠ D) → @Ne Nat D rl → Small l' k →
     absN l' = pOut (absN l) (rp.map (·.1)) → l'.map (·.nm) = l.map (·.nm) → Q (.ref D) { s with heap := h', toks := tk' }),
    wpAny (model prog w) (ktrTop dp un gd cn cs L a ccd cl outer) (call (.ref 99) [.ref x]) Q E s
end
abbrev getrdy_u (z9 : St1 × St2 × St3 × St4 × (Addr × Addr × Addr × Addr × SdT × Int) × (Int × Nat × Nat × Obj × (List NI) × (List (Str × Tok))) × ((List (Addr × Obj)) × Nat)) : Prop := u2 (u6 (u6 (u6 (u6 (u6 (u6 @getrdy_S z9.1) z9.2.1) z9.2.2.1) z9.2.2.2.1) z9.2.2.2.2.1) z9.2.2.2.2.2.1) z9.2.2.2.2.2.2
def getrdy_c := eps (by walk_at "ne") getrdy_u
namespace Kgetrdy
@[irreducible] def prog := getrdy_c.1.1
@[irreducible] def w := getrdy_c.1.2.1
@[irreducible] def p := getrdy_c.1.2.2.1
@[irreducible] def loose := getrdy_c.1.2.2.2.1
@[irreducible] def mean := getrdy_c.1.2.2.2.2.1
@[irreducible] def mg := getrdy_c.1.2.2.2.2.2
@[irreducible] def mb := getrdy_c.2.1.1
@[irreducible] def dp := getrdy_c.2.1.2.1
@[irreducible] def un := getrdy_c.2.1.2.2.1
@[irreducible] def gd := getrdy_c.2.1.2.2.2.1
@[irreducible] def cn := getrdy_c.2.1.2.2.2.2.1
@[irreducible] def cs := getrdy_c.2.1.2.2.2.2.2
@[irreducible] def a := getrdy_c.2.2.1.1
@[irreducible] def ccd := getrdy_c.2.2.1.2.1
@[irreducible] def cl := getrdy_c.2.2.1.2.2.1
@[irreducible] def outer := getrdy_c.2.2.1.2.2.2.1
@[irreducible] def A₀ := getrdy_c.2.2.1.2.2.2.2.1
@[irreducible] def base := getrdy_c.2.2.1.2.2.2.2.2
@[irreducible] def h₀ := getrdy_c.2.2.2.1.1
@[irreducible] def L := getrdy_c.2.2.2.1.2.1
@[irreducible] def m := getrdy_c.2.2.2.1.2.2.1
@[irreducible] def s := getrdy_c.2.2.2.1.2.2.2.1
@[irreducible] def Q := getrdy_c.2.2.2.1.2.2.2.2.1
@[irreducible] def E := getrdy_c.2.2.2.1.2.2.2.2.2
@[irreducible] def x := getrdy_c.2.2.2.2.1.1
@[irreducible] def dx := getrdy_c.2.2.2.2.1.2.1
@[irreducible] def d := getrdy_c.2.2.2.2.1.2.2.1
@[irreducible] def rl := getrdy_c.2.2.2.2.1.2.2.2.1
@[irreducible] def τ := getrdy_c.2.2.2.2.1.2.2.2.2.1
@[irreducible] def po := getrdy_c.2.2.2.2.1.2.2.2.2.2
@[irreducible] def nf := getrdy_c.2.2.2.2.2.1.1
@[irreducible] def n := getrdy_c.2.2.2.2.2.1.2.1
@[irreducible] def nc := getrdy_c.2.2.2.2.2.1.2.2.1
@[irreducible] def od := getrdy_c.2.2.2.2.2.1.2.2.2.1
@[irreducible] def l := getrdy_c.2.2.2.2.2.1.2.2.2.2.1
@[irreducible] def rp := getrdy_c.2.2.2.2.2.1.2.2.2.2.2
@[irreducible] def rest := getrdy_c.2.2.2.2.2.2.1
@[irreducible] def k := getrdy_c.2.2.2.2.2.2.2
end Kgetrdy
section
open Kgetrdy
theorem getrdy_0 : @getrdy_S prog w p loose mean mg mb dp un gd cn cs a ccd cl outer A₀ base h₀ L m s Q E x dx d rl τ po nf n nc od l rp rest k := by
 have e9 : EpsOn := trivial
 unfold getrdy_S
 intro B F X N S ap hrl hrv hrn hsz hk9 T hk hdp hun ret
 obtain ⟨b1, b2, b3⟩ := S.base
 have rx : @Ne Nat rl x ∧ @Ne Nat rl dx ∧ @Ne Nat rl d ∧ ∀ q ∈ infosOf l, q.1 ≠ rl := by
  have := ap (rl, listOf (rp.map sV).toArray nc) (.head _)
  simp only [List.mem_cons, not_or] at this
  exact ⟨this.1, this.2.1, this.2.2.1, fun q hq e => this.2.2.2 (e ▸ mem_adrs hq)⟩
 walk_at "hide"
 obtain ⟨r1, r2, r3, r4⟩ := rx
 walk_at "unhide"
 have N0 : News h₀ L s.heap (((x, instObj 137 dx) :: (dx, dictOf (sD d (.ref rl) po nf τ) n) :: (rl, listOf (rp.map sV).toArray nc) :: (d, od) :: infosOf l) ++ rest) := fun q hq => N q (by
  refine sub_of ?_ hq
  (try dsimp only [head3, List.cons_append, List.nil_append])
  walk_at "sub")
 have apz : Apart ((x, instObj 137 dx) :: (dx, dictOf (sD d (.ref rl) po nf τ) n) :: (rl, listOf (rp.map sV).toArray nc) :: (d, od) :: infosOf l) rest := fun q hq q' hq' e => by
  have h := ap q (.tail _ hq)
  simp only [List.mem_cons] at hq'
  rcases hq' with rfl | rfl | rfl | rfl | hq'
  ·exact h (e ▸ by walk_at "mem")
  ·exact h (e ▸ by walk_at "mem")
  ·exact hrl q hq e
  ·exact h (e ▸ by walk_at "mem")
  ·exact h (List.mem_cons_of_mem _ (List.mem_cons_of_mem _ (List.mem_cons_of_mem _ (e ▸ mem_adrs hq'))))
 clear N
 refine wpAny_call ?_
 k_dflt ktr_enter
 intro g1 L1 hh1 FG1 F1 N1 B1 X1 T1 l1 hr
 have l0 : ∀ q ∈ infosOf l, @LT.lt Nat _ q.1 L1 := fun q hq => l1 q (sub_of (by walk_at "sub") hq)
 replace F1 : Fr g1 L1 hh1 (fun y => List.lookup y [("self", .ref x)]) := F1
 (try dsimp only); (try k_lt l1); (try k_fold)
 k_steps
 show wpAny _ _ (call (.type "tuple") [.ref rl]) _ _ _
 refine kde_tupleOf (zs := rp.map sV) (by k_asm) (by k_asm) (by kmk_list) (by rw [List.size_toArray, List.length_map]; omega) (by first | rfl | simp) ?_
 intro D hD FD ND lD
 have lDi : ∀ q ∈ infosOf l, @LT.lt Nat _ q.1 D := fun q hq => lD q (sub_of (by walk_at "sub") hq)
 k_lt lD
 walk_at "hide"
 obtain ⟨ld1, ld2, ld3, ld4, _⟩ := lD
 walk_at "unhide"
 k_steps
 show wpAny _ _ (pyIter _) _ _ _
 refine iter_tupTurns (lo := tupOf (rp.map sV)) (vs := rp.map sV) rfl (by k_asm) (by k_asm) (by k_mem) rfl rfl ?_
 intro I lI
 have lID : @LT.lt Nat _ D I := lI (D, tupOf (rp.map sV)) (.head _)
 clear lI
 rw [List.map_map]
 refine items_ind (f := Itm.val ∘ sV) (P := GrP prog w x dx d rl D (dictOf (sD d (.ref rl) po nf τ) n) (listOf (rp.map sV).toArray nc) od l rp (l.map (·.nm)) k) ?_ ?_ _ _ _ (gr_of (m' := grM x d D none) ?i1 ⟨none, l, S, rfl, rfl, hsz.2, rfl, hrn⟩)
 case i1 =>
  funext y
  by_cases e : y = Str.ofString "node"
  ·subst e; rfl
  ·simp only [grM, e, if_false]
 ·intro m1 news1 W9
  refine GrP.casesOn W9 ?_
  clear W9 m1 news1
  intro mv l' S' e1 e2 e3 e4 e5
  (refine ItemsRest.zero ?_; intro h tk FK NK)
  have r5 : ∀ q ∈ infosOf l', q.1 ≠ rl := infos_as (P := fun z => z ≠ rl) e1 r4
  have c2 := S'.off (rest := []) (fun _ h => nomatch h)
  rw [List.append_nil] at c2
  obtain ⟨_, c2, _⟩ := c2
  k_steps
  show wpAny _ _ (call (.builtin "list.clear") [.ref rl]) _ _ _
  refine clr_any (its := (rp.map sV).toArray) (n := nc) (by k_asm) (by k_asm) (by k_updF) (by rw [List.size_toArray, List.length_map, sizeLine_eq]; omega) ?_
  intro hC nC FC NC
  (try dsimp only at NC)
  k_steps
  show wpAny _ _ (call (.builtin "len") [.ref D]) _ _ _
  refine len_tup (vs := rp.map sV) (by k_asm) (by k_mem) (by rw [List.length_map]; omega) ?_
  k_steps
  rename_i hZ FZ NZ kF kN Tc kX nr
  have apD : Apart _ rest := apart_of NZ hr
  rw [List.length_map] at kN
  obtain ⟨uu, kN⟩ := tok_ex (P := fun uu => News h₀ L hZ ((D, tupOf (rp.map sV)) :: (x, instObj 137 dx) :: (dx, dictOf (sD d (.ref rl) (po + (rp.length : Nat)) nf { τ with u1 := uu }) n) :: (rl, listOf #[] nC) :: (d, od) :: infosOf l')) kN
  revert uu
  intro uu kN
  have c3 : ∀ q ∈ infosOf l', @LT.lt Nat _ q.1 D := infos_as (P := fun z => @LT.lt Nat _ z D) e1 lDi
  have ap3 : SApart x dx d l' ((D, tupOf (rp.map sV)) :: (rl, listOf #[] nC) :: rest) := by
   refine SApart.cons (SApart.cons (fun q hq => ?_) r1 r2 r3 r5) (by k_ne) (by k_ne) (by k_ne) fun q hq => neN (Nat.ne_of_lt (c3 q hq))
   rw [e1]; exact ap q (.tail _ hq)
  refine ret _ _ { τ with u1 := uu } l' D nC kF ?_ S' ap3 (fun q hq => apD q hq (D, tupOf (rp.map sV)) (.head _)) (by k_ne) ⟨?_, e3⟩ e4 e2
  ·have kA := kN.append nr
   exact fun q hq => kA q (sub_of (by dsimp only [head3, List.cons_append, List.nil_append]; walk_at "sub") hq)
  ·have := congrArg List.length e2
   rw [List.length_map, List.length_map] at this
   rw [this]; exact hsz.1
 ·intro p0 rq m1 news1 W9 ih
  refine GrP.casesOn W9 ?_
  clear W9 m1 news1
  intro mv l' S' e1 e2 e3 e4 e5
  obtain ⟨py, pt⟩ := p0
  revert py pt
  intro py pt e4 e5
  (refine ItemsRest.val1 ?_; intro h tk io hio FK NK)
  have hpy : py ∈ l'.map (·.nm) := by rw [e2]; exact e5 (py, pt) (.head _)
  obtain ⟨j, hj, hjn⟩ := List.mem_map.mp hpy
  revert j
  intro j hj hjn
  have hjn : j.nm = py := hjn
  subst hjn
  have hz := kvs_at S'.names hj
  have khd := S'.hd
  obtain ⟨la, lb, hl⟩ := List.append_of_mem hj
  revert la lb
  intro la lb hl
  subst hl
  have lj : ∀ q ∈ infosOf (la ++ j :: lb), @LT.lt Nat _ q.1 D := infos_as (P := fun z => @LT.lt Nat _ z D) e1 lDi
  walk_at "hide"
  obtain ⟨⟨f1, f2, f3, f4, f5, f6, f7, f7a, f7b⟩, f8, f9, _, _⟩ := S'.focus (rest := []) (fun _ h => nomatch h)
  walk_at "unhide"
  have w1 : @LT.lt Nat _ j.ia D := lj (j.ia, j.ob) (mem_ents hj).1
  have w4 : @Ne Nat j.ia rl := infos_as (P := fun z => z ≠ rl) e1 r4 _ (mem_ents hj).1
  replace NK := focusN0 (P := (I, io) :: (D, tupOf (rp.map sV)) :: (x, instObj 137 dx) :: (dx, dictOf (sD d (.ref rl) po nf τ) n) :: (rl, listOf (rp.map sV).toArray nc) :: [(d, od)]) NK
  dsimp only [List.cons_append, List.nil_append] at NK
  k_steps
  show wpAny _ _ (subscriptTail _ _ (.ref d) (.str j.nm pt)) _ _ _
  rename_i hA FA NA
  refine kda_item (knd := PySem.strKind _ _) (by k_asm) (by k_mem) khd (strKind_is _ _ _ _) hz ?_
  k_steps
  show UnrEndW _ _ _ _ _ _
  rename_i hB FB NB
  let j' : NI := ⟨j.ia, j.da, j.la, j.nm, j.tn, -1, 197, j.sv, j.su, j.sn⟩
  have e6 : adrsOf (la ++ j' :: lb) = adrsOf (la ++ j :: lb) := by simp [adrsOf_append, adrsOf_cons, j']
  refine unrEnd1 (m' := grM x d D (some (sV (j.nm, pt)))) (news' := (D, tupOf (rp.map sV)) :: (x, instObj 137 dx) :: (dx, dictOf (sD d (.ref rl) po nf τ) n) :: (rl, listOf (rp.map sV).toArray nc) :: (d, od) :: infosOf (la ++ j' :: lb)) (fr_map FB (fun y => by
   by_cases e : y = Str.ofString "node"
   ·subst e; rfl
   ·simp only [grM, e, if_false])) (fun q hq => NB q (sub_of (by simp only [infosOf_append, infosOf_cons]; walk_at "sub") hq)) ?off ⟨⟨.head _, trivial⟩, ih _ _ ⟨_, la ++ j' :: lb, S'.put (i' := j') rfl rfl rfl rfl (S'.strOk j hj), e6.trans e1, ?nms, ?szs, ?abs, fun p hp => e5 p (.tail _ hp)⟩⟩
  case nms => rw [← e2]; simp [j']
  case szs =>
   intro q hq
   rcases List.mem_append.mp hq with z | z
   ·exact e3 q (List.mem_append_left _ z)
   ·rcases List.mem_cons.mp z with rfl | z
    ·exact e3 j hj
    ·exact e3 q (List.mem_append_right _ (.tail _ z))
  case abs =>
   rw [← e4]
   show pOut (absN (la ++ j' :: lb)) _ = pOut (pUpd (absN (la ++ j :: lb)) j.nm fun q => (-1, q.2)) _
   rw [← abs_put (i' := j') (f := fun q => (-1, q.2)) S'.names rfl rfl]
  case off =>
   have lI : ∀ q ∈ infosOf (la ++ j' :: lb), q.1 ≠ I := infos_as (P := fun z => z ≠ I) e6 fun q hq => Nat.ne_of_lt (Nat.lt_trans (lj q hq) lID)
   walk_at "off"
end
theorem getrdy {prog w p loose mean mg mb dp un gd cn cs a ccd cl outer A₀ base h₀ L m s Q E x dx d rl τ po nf n nc od l rp rest k} : @getrdy_S prog w p loose mean mg mb dp un gd cn cs a ccd cl outer A₀ base h₀ L m s Q E x dx d rl τ po nf n nc od l rp rest k :=
 eps_all (S := getrdy_u) getrdy_c rfl (by have := getrdy_0; with_unfolding_all assumption) ((prog, w, p, loose, mean, mg), (mb, dp, un, gd, cn, cs), (a, ccd, cl, outer, A₀, base), (h₀, L, m, s, Q, E), (x, dx, d, rl, τ, po), (nf, n, nc, od, l, rp), (rest, k))
end
end Mine
namespace Mine
open TI
def pDec (P : List (Str × Int × List Str)) (R : List Str) : List Str → List (Str × Int × List Str) × List Str
 | [] => (P, R)
 | y :: r => pDec (pUpd P y fun q => (q.1 - 1, q.2)) (if (P.find? fun q => decide (q.1 = y)).map (·.2.1) = some 1 then R ++ [y] else R) r
theorem strs_pairs {vs : List Value} {ys : List Str} (h : StrsAre vs ys) : ∃ sp : List (Str × Tok), vs = sp.map sV ∧ sp.map (·.1) = ys := by
 induction h with
 | nil => exact ⟨[], rfl, rfl⟩
 | cons y t _ ih =>
  obtain ⟨sp, e1, e2⟩ := ih
  exact ⟨(y, t) :: sp, by rw [e1]; rfl, by rw [← e2]; rfl⟩
theorem abs_find {l : List NI} {j : NI} (hn : (l.map (·.nm)).Nodup) (hj : j ∈ l) : (absN l).find? (fun q => decide (q.1 = j.nm)) = some (j.nm, j.np, j.su) := by
 induction l with
 | nil => exact (nomatch hj)
 | cons a r ih =>
  rw [List.map_cons, List.nodup_cons] at hn
  show ((a.nm, a.np, a.su) :: absN r).find? _ = _
  rw [List.find?_cons]
  rcases List.mem_cons.mp hj with rfl | hj
  ·simp
  ·have : a.nm ≠ j.nm := fun e => hn.1 (e ▸ List.mem_map.mpr ⟨j, hj, rfl⟩)
   simp only [this, decide_false]
   exact ih hn.2 hj
theorem dec_step {l1 l2 : List NI} {j : NI} {R : List Str} {r : List Str} {tq : Tok} (hn : ((l1 ++ j :: l2).map (·.nm)).Nodup) :
  pDec (absN (l1 ++ j :: l2)) R (j.nm :: r) = pDec (absN (l1 ++ j.setNp (j.np - 1) tq :: l2)) (if j.np = 1 then R ++ [j.nm] else R) r := by
 show pDec (pUpd (absN (l1 ++ j :: l2)) j.nm fun q => (q.1 - 1, q.2)) _ r = _
 rw [abs_find hn (by simp), ← abs_put (i' := j.setNp (j.np - 1) tq) (f := fun q => (q.1 - 1, q.2)) hn rfl rfl]
 simp
theorem lo_kept {l1 l2 : List NI} {j : NI} {v : Int} {tq : Tok} {la : Addr} {a : Array Value} {n : Nat} (h : (la, listOf a n) ∈ infosOf (l1 ++ j :: l2)) : (la, listOf a n) ∈ infosOf (l1 ++ j.setNp v tq :: l2) := by
 simp only [infosOf_append, infosOf_cons, List.mem_append, List.mem_cons] at h ⊢
 rcases h with z | z | z | z | z
 ·exact .inl z
 ·have := congrArg (fun q => q.2.cls) z
  cases this
 ·exact .inr (.inr (.inl z))
 ·exact .inr (.inr (.inr (.inl z)))
 ·exact .inr (.inr (.inr (.inr z)))
abbrev dnM (x d D : Addr) (nv niv sv : Value) (m1 m2 : Option Value) : Str → Option Value := fun y => if y = Str.ofString "successor_info" then m2 else if y = Str.ofString "successor" then m1 else if y = Str.ofString "stat" then some sv else if y = Str.ofString "nodeinfo" then some niv else if y = Str.ofString "node" then some nv else if y = Str.ofString "n2i" then some (.ref d) else List.lookup y [("nodes", .ref D), ("self", .ref x)]
theorem dnM_set {x d D : Addr} {nv niv sv : Value} {m1 m2 a b : Option Value} : ∀ y, (if y = Str.ofString "successor_info" then b else if y = Str.ofString "successor" then a else dnM x d D nv niv sv m1 m2 y) = dnM x d D nv niv sv a b y := fun y => by
 by_cases z1 : y = Str.ofString "successor_info"
 ·subst z1; rfl
 ·by_cases z2 : y = Str.ofString "successor"
  ·subst z2; rfl
  ·simp only [dnM, z1, z2, if_false]
inductive DnP (prog : Program) (w : World) (x dx d rl D I : Addr) (io oD od : Obj) (l0 : List NI) (la : Addr) (lo : Obj) (rest : List (Addr × Obj)) (nv niv sv : Value) (bn : Nat) (names : List Str) (k : Nat) (PR : List (Str × Int × List Str) × List Str) (rq : List (Str × Tok)) : (Str → Option Value) → List (Addr × Obj) → Prop
 | mk (m1 m2 : Option Value) (l' : List NI) (rp : List (Str × Tok)) (nc : Nat) (e0 : Sor prog w x dx d od l') (e1 : adrsOf l' = adrsOf l0) (e2 : l'.map (·.nm) = names) (e3 : ∀ i ∈ l', i.sv.length ≤ k) (e4 : (la, lo) ∈ infosOf l') (e5 : rp.length + rq.length ≤ bn)
  (e6 : pDec (absN l') (rp.map (·.1)) (rq.map (·.1)) = PR) (e7 : ∀ p ∈ rq, p.1 ∈ names) :
  DnP prog w x dx d rl D I io oD od l0 la lo rest nv niv sv bn names k PR rq (dnM x d D nv niv sv m1 m2) ((I, io) :: (D, tupOf [nv]) :: (x, instObj 137 dx) :: (dx, oD) :: (rl, listOf (rp.map sV).toArray nc) :: (d, od) :: (infosOf l' ++ rest))
theorem small_at {l1 l2 : List NI} {i i' : NI} {k : Nat} (h : ∀ q ∈ l1 ++ i :: l2, q.sv.length ≤ k) (e : i'.sv.length ≤ k) : ∀ q ∈ l1 ++ i' :: l2, q.sv.length ≤ k := fun q hq =>
 (List.mem_append.mp hq).elim (fun z => h q (List.mem_append_left _ z)) fun z => (List.mem_cons.mp z).elim (fun z => z ▸ e) fun z => h q (List.mem_append_right _ (.tail _ z))
theorem dn_next {prog : Program} {w : World} {x dx d rl D I : Addr} {io oD od : Obj} {l0 la2 lb2 : List NI} {j : NI} {la : Addr} {la0 : Array Value} {ln : Nat} {rest : List (Addr × Obj)} {nv niv sv : Value} {bn : Nat} {names : List Str} {k : Nat} {PR : List (Str × Int × List Str) × List Str} {rq rp2 rp' : List (Str × Tok)} {p0 : Str × Tok} {m1 m2 : Option Value} {nc' : Nat} {tq : Tok}
  (S' : Sor prog w x dx d od (la2 ++ j :: lb2)) (e1 : adrsOf (la2 ++ j :: lb2) = adrsOf l0) (e2 : (la2 ++ j :: lb2).map (·.nm) = names) (e3 : ∀ i ∈ la2 ++ j :: lb2, i.sv.length ≤ k) (e4 : (la, listOf la0 ln) ∈ infosOf (la2 ++ j :: lb2)) (e5 : rp'.length + rq.length ≤ bn)
  (e6 : pDec (absN (la2 ++ j :: lb2)) (rp2.map (·.1)) (j.nm :: rq.map (·.1)) = PR) (e7 : ∀ p ∈ p0 :: rq, p.1 ∈ names) (hr : rp'.map (·.1) = if j.np = 1 then rp2.map (·.1) ++ [j.nm] else rp2.map (·.1)) :
  DnP prog w x dx d rl D I io oD od l0 la (listOf la0 ln) rest nv niv sv bn names k PR rq (dnM x d D nv niv sv m1 m2) ((I, io) :: (D, tupOf [nv]) :: (x, instObj 137 dx) :: (dx, oD) :: (rl, listOf (rp'.map sV).toArray nc') :: (d, od) :: (infosOf (la2 ++ j.setNp (j.np - 1) tq :: lb2) ++ rest)) :=
 ⟨_, _, _, rp', nc', S'.put (i' := j.setNp (j.np - 1) tq) rfl rfl rfl rfl (S'.strOk j (List.mem_append_right _ (.head _))), (adrs_put (i := j) (i' := j.setNp (j.np - 1) tq) rfl rfl rfl).trans e1, by rw [← e2, List.map_append, List.map_append]; rfl, small_at e3 (e3 j (List.mem_append_right _ (.head _))), lo_kept e4, e5,
  by rw [← e6, dec_step (tq := tq) S'.names, hr], fun p hp => e7 p (.tail _ hp)⟩
theorem dn_of {prog : Program} {w : World} {x dx d rl D I : Addr} {io oD od : Obj} {l0 : List NI} {la : Addr} {lo : Obj} {rest : List (Addr × Obj)} {nv niv sv : Value} {bn : Nat} {names : List Str} {k : Nat} {PR : List (Str × Int × List Str) × List Str} {rq : List (Str × Tok)} {m m' : Str → Option Value} {news : List (Addr × Obj)} (e : m = m')
  (h : DnP prog w x dx d rl D I io oD od l0 la lo rest nv niv sv bn names k PR rq m' news) : DnP prog w x dx d rl D I io oD od l0 la lo rest nv niv sv bn names k PR rq m news := e ▸ h
namespace SM13
def h9s_stops := sT
def h9s_pyIter_ref := sT
def h9s_exec_For_Name_Attribute_cons_nil := sT
def h9s_subscriptTail_Name_Name_ref_str := sT
end SM13
open SM13
section
section
variable {prog : Program} {w : World} {p : Program} {loose : List Str} {mean : ExcName → Option Value} {mg mb : Str → Option Value}
 {dp un : Nat} {gd : Option (List Code)} {cn : Str} {cs : Scope} {a : Addr} {ccd : Value} {cl : List (Str × Addr)} {outer : List Env} {A₀ : Around} {base h₀ : Heap} {L : Addr} {m : Str → Option Value} {s : Shared} {Q E : Value → Shared → Prop}
def done1_S {x dx d rl : Addr} {τ : SdT} {po nf : Int} {n nc : Nat} {od : Obj} {l1 l2 : List NI} {i : NI} {rp : List (Str × Tok)} {rest : List (Addr × Obj)} {t : Tok} {k : Nat} : Prop := ∀ (B : Below A₀ base outer h₀) (F : Fr h₀ L s.heap m) (X : (KK w.params).In h₀) (N : News h₀ L s.heap (head3 x dx d (sD d (.ref rl) po nf τ) n od ++ (infosOf (l1 ++ i :: l2) ++ ((rl, listOf (rp.map sV).toArray nc) :: rest)))) (S : Sor prog w x dx d od (l1 ++ i :: l2)) (ap : SApart x dx d (l1 ++ i :: l2) ((rl, listOf (rp.map sV).toArray nc) :: rest)) (hrl : ∀ q ∈ rest, q.1 ≠ rl) (hrv : rp.length ≤ 1000) (hsz : Small (l1 ++ i :: l2) k) (hk9 : k ≤ 900) (hcl : ∀ j ∈ l1 ++ i :: l2, ∀ y ∈ j.su, y ∈ (l1 ++ i :: l2).map (·.nm)) (hnp : i.np = -1) (T : Top p loose mean mg mb h₀) (hk : cs.kind = .function) (hdp : dp < 348) (hun : un < 290) (ret : ∀ (h' : Heap) (tk' : Nat) (τ' : SdT) (l' : List NI) (rp' : List (Str × Tok)) (nc' : Nat), Fr h₀ L h' m → News h₀ L h' (head3 x dx d (sD d (.ref rl) po (nf + 1) τ') n od ++ (infosOf l' ++ ((rl, listOf (rp'.map sV).toArray nc') :: rest))) →
     Sor prog w x dx d od l' → SApart x dx d l' ((rl, listOf (rp'.map sV).toArray nc') :: rest) → Small l' k → l'.map (·.nm) = (l1 ++ i :: l2).map (·.nm) →
     (absN l', rp'.map (·.1)) = pDec (pUpd (absN (l1 ++ i :: l2)) i.nm fun q => (-2, q.2)) (rp.map (·.1)) i.su → Q .none { s with heap := h', toks := tk' }),
    wpAny (model prog w) (ktrTop dp un gd cn cs L a ccd cl outer) (call (.ref 120) [.ref x, .str i.nm t]) Q E s
end
abbrev done1_u (z9 : St1 × St2 × St3 × St4 × (Addr × Addr × Addr × Addr × SdT × Int) × (Int × Nat × Nat × Obj × (List NI) × (List NI)) × (NI × (List (Str × Tok)) × (List (Addr × Obj)) × Tok × Nat)) : Prop := u5 (u6 (u6 (u6 (u6 (u6 (u6 @done1_S z9.1) z9.2.1) z9.2.2.1) z9.2.2.2.1) z9.2.2.2.2.1) z9.2.2.2.2.2.1) z9.2.2.2.2.2.2
def done1_c := eps (by walk_at "ne") done1_u
namespace Kdone1
@[irreducible] def prog := done1_c.1.1
@[irreducible] def w := done1_c.1.2.1
@[irreducible] def p := done1_c.1.2.2.1
@[irreducible] def loose := done1_c.1.2.2.2.1
@[irreducible] def mean := done1_c.1.2.2.2.2.1
@[irreducible] def mg := done1_c.1.2.2.2.2.2
@[irreducible] def mb := done1_c.2.1.1
@[irreducible] def dp := done1_c.2.1.2.1
@[irreducible] def un := done1_c.2.1.2.2.1
@[irreducible] def gd := done1_c.2.1.2.2.2.1
@[irreducible] def cn := done1_c.2.1.2.2.2.2.1
@[irreducible] def cs := done1_c.2.1.2.2.2.2.2
@[irreducible] def a := done1_c.2.2.1.1
@[irreducible] def ccd := done1_c.2.2.1.2.1
@[irreducible] def cl := done1_c.2.2.1.2.2.1
@[irreducible] def outer := done1_c.2.2.1.2.2.2.1
@[irreducible] def A₀ := done1_c.2.2.1.2.2.2.2.1
@[irreducible] def base := done1_c.2.2.1.2.2.2.2.2
@[irreducible] def h₀ := done1_c.2.2.2.1.1
@[irreducible] def L := done1_c.2.2.2.1.2.1
@[irreducible] def m := done1_c.2.2.2.1.2.2.1
@[irreducible] def s := done1_c.2.2.2.1.2.2.2.1
@[irreducible] def Q := done1_c.2.2.2.1.2.2.2.2.1
@[irreducible] def E := done1_c.2.2.2.1.2.2.2.2.2
@[irreducible] def x := done1_c.2.2.2.2.1.1
@[irreducible] def dx := done1_c.2.2.2.2.1.2.1
@[irreducible] def d := done1_c.2.2.2.2.1.2.2.1
@[irreducible] def rl := done1_c.2.2.2.2.1.2.2.2.1
@[irreducible] def τ := done1_c.2.2.2.2.1.2.2.2.2.1
@[irreducible] def po := done1_c.2.2.2.2.1.2.2.2.2.2
@[irreducible] def nf := done1_c.2.2.2.2.2.1.1
@[irreducible] def n := done1_c.2.2.2.2.2.1.2.1
@[irreducible] def nc := done1_c.2.2.2.2.2.1.2.2.1
@[irreducible] def od := done1_c.2.2.2.2.2.1.2.2.2.1
@[irreducible] def l1 := done1_c.2.2.2.2.2.1.2.2.2.2.1
@[irreducible] def l2 := done1_c.2.2.2.2.2.1.2.2.2.2.2
@[irreducible] def i := done1_c.2.2.2.2.2.2.1
@[irreducible] def rp := done1_c.2.2.2.2.2.2.2.1
@[irreducible] def rest := done1_c.2.2.2.2.2.2.2.2.1
@[irreducible] def t := done1_c.2.2.2.2.2.2.2.2.2.1
@[irreducible] def k := done1_c.2.2.2.2.2.2.2.2.2.2
end Kdone1
section
open Kdone1
theorem done1_0 : @done1_S prog w p loose mean mg mb dp un gd cn cs a ccd cl outer A₀ base h₀ L m s Q E x dx d rl τ po nf n nc od l1 l2 i rp rest t k := by
  have e9 : EpsOn := trivial
  unfold done1_S
  intro B F X N S ap hrl hrv hsz hk9 hcl hnp T hk hdp hun ret
  have hi : i ∈ l1 ++ i :: l2 := List.mem_append_right _ (.head _)
  obtain ⟨b1, b2, b3⟩ := S.base
  have rx : @Ne Nat rl x ∧ @Ne Nat rl dx ∧ @Ne Nat rl d ∧ ∀ q ∈ infosOf (l1 ++ i :: l2), q.1 ≠ rl := by
    have := ap (rl, listOf (rp.map sV).toArray nc) (.head _)
    simp only [List.mem_cons, not_or] at this
    exact ⟨this.1, this.2.1, this.2.2.1, fun q hq e => this.2.2.2 (e ▸ mem_adrs hq)⟩
  walk_at "hide"
  obtain ⟨r1, r2, r3, r4⟩ := rx
  walk_at "unhide"
  refine wpAny_call ?_
  k_keys
  intro D g1 L1 g2 lD FG1 F1 N1 B1 X1 T1
  change Fr g1 L1 g2 (fun y => List.lookup y [("nodes", .ref D), ("self", .ref x)]) at F1
  have lDi : ∀ q ∈ infosOf (l1 ++ i :: l2) ++ rest, @LT.lt Nat _ q.1 D := fun q hq => lD q (sub_of (by dsimp only [head3, List.cons_append, List.nil_append]; walk_at "sub") hq)
  replace lD : @LT.lt Nat _ x D ∧ @LT.lt Nat _ dx D ∧ @LT.lt Nat _ d D ∧ @LT.lt Nat _ rl D := ⟨lD (x, instObj 137 dx) (.head _), lD _ (.tail _ (.head _)), lD _ (tl2 (.head _)), lD (rl, listOf (rp.map sV).toArray nc) (List.mem_append_right _ (List.mem_append_right _ (.head _)))⟩
  have hz := kvs_at S.names hi
  have khd := S.hd
  have klo := S.lo
  have hstr := S.strOk _ hi
  have hsvl := hsz.2 _ hi
  have apr : SApart x dx d (l1 ++ i :: l2) rest := fun q hq => ap q (.tail _ hq)
  have hiL := mem_ents hi
  walk_at "hide"
  obtain ⟨f1, f2, f3, f4, f5, f6, f7, f8, f9, c10, _, _, _, _, _, _⟩ := S.focP (P := []) apr
  walk_at "unhide"
  have w1 : @LT.lt Nat _ i.ia D := lDi _ (List.mem_append_left _ hiL.1)
  have w2 : @LT.lt Nat _ i.la D := lDi _ (List.mem_append_left _ hiL.2.1)
  have w3 : @LT.lt Nat _ i.da D := lDi _ (List.mem_append_left _ hiL.2.2)
  have w4 : @Ne Nat i.ia rl := neN (r4 _ hiL.1)
  replace N1 : News g1 L1 g2 ((i.ia, nodeObj i.da i.la i.nm i.tn (-1) i.tp) :: (i.la, i.lo) :: (i.da, dictOf [] 0) :: (D, tupOf [.str i.nm t]) :: (x, instObj 137 dx) :: (dx, dictOf (sD d (.ref rl) po nf τ) n) :: (rl, listOf (rp.map sV).toArray nc) :: (d, od) :: (infosOf (l1 ++ l2) ++ rest)) := fun q hq => N1 q (sub_of (by
    rw [← hnp]
    simp only [head3, infosOf_append, infosOf_cons, List.cons_append, List.nil_append]
    walk_at "sub") hq)
  (try dsimp only); (try k_fold)
  k_steps
  show wpAny _ _ (pyIter _) _ _ _
  refine iter_tupTurns (lo := tupOf [.str i.nm t]) (vs := [.str i.nm t]) rfl (by k_asm) (by k_asm) (by k_mem) rfl rfl ?_
  intro I lI
  have lID : @LT.lt Nat _ D I := lI (D, tupOf [.str i.nm t]) (by k_mem)
  clear lI
  (refine ItemsRest.val1 ?_; intro h5 tk5 io hio F5 N5)
  k_steps
  show wpAny _ _ (exec (Stmt.For _ _ _ _ _) _) _ _ _
  refine For_turns (by k_asm) ?_
  k_steps
  show wpAny _ _ (pyIter _) _ _ _
  rename_i hJ FJ NJ
  obtain ⟨sp, hsp1, hsp2⟩ := strs_pairs hstr
  revert sp
  intro sp hsp1 hsp2
  have sPut : Sor prog w x dx d od (l1 ++ i.setNp (-2) 200 :: l2) := S.put (i' := i.setNp (-2) 200) rfl rfl rfl rfl hstr
  have aPut : absN (l1 ++ i.setNp (-2) 200 :: l2) = pUpd (absN (l1 ++ i :: l2)) i.nm (fun q => (-2, q.2)) := abs_put (i := i) (i' := i.setNp (-2) 200) (f := fun q => (-2, q.2)) S.names rfl rfl
  have NJ2 : News g1 L1 hJ ((I, io) :: (D, tupOf [.str i.nm t]) :: (x, instObj 137 dx) :: (dx, dictOf (sD d (.ref rl) po nf τ) n) :: (rl, listOf (rp.map sV).toArray nc) :: (d, od) :: (infosOf (l1 ++ i.setNp (-2) 200 :: l2) ++ rest)) := fun q hq => NJ q (by
    refine sub_of ?_ hq
    simp only [infosOf_append, infosOf_cons, List.cons_append, List.nil_append]
    walk_at "sub")
  have mLo : (i.la, i.lo) ∈ infosOf (l1 ++ i.setNp (-2) 200 :: l2) := by rw [infosOf_append, infosOf_cons]; walk_at "mem"
  refine iter_listTurns (lo := i.lo) (vs := i.sv) rfl FJ NJ2 (memD 6 (List.mem_append_left _ mLo)) rfl rfl ?_
  intro I2 lI2
  have lII : @LT.lt Nat _ I I2 := lI2 (I, io) (by k_mem)
  have lIr : ∀ q ∈ rest, @LT.lt Nat _ q.1 I2 := fun q hq => lI2 q (sub_of (by walk_at "sub") hq)
  have lDI := Nat.lt_trans lID lII
  have l9 : @LT.lt Nat _ x I2 ∧ @LT.lt Nat _ dx I2 ∧ @LT.lt Nat _ d I2 ∧ @LT.lt Nat _ rl I2 ∧ @LT.lt Nat _ D I2 := ⟨Nat.lt_trans lD.1 lDI, Nat.lt_trans lD.2.1 lDI, Nat.lt_trans lD.2.2.1 lDI, Nat.lt_trans lD.2.2.2 lDI, lDI⟩
  clear lI2 NJ NJ2
  rw [hsp1, List.map_map]
  refine items_ind (f := Itm.val ∘ sV) (P := DnP prog w x dx d rl D I io (dictOf (sD d (.ref rl) po nf τ) n) od (l1 ++ i :: l2) i.la i.lo rest (.str i.nm t) (.ref i.ia) (.int (-1) i.tp) 2000 ((l1 ++ i :: l2).map (·.nm)) k (pDec (pUpd (absN (l1 ++ i :: l2)) i.nm fun q => (-2, q.2)) (rp.map (·.1)) i.su)) ?_ ?_ _ _ _
    (dn_of (m' := dnM x d D (.str i.nm t) (.ref i.ia) (.int (-1) i.tp) none none) (funext ?i1) ⟨_, _, _, rp, nc, sPut, adrs_put (i := i) (i' := i.setNp (-2) 200) rfl rfl rfl, ?i3, small_at (i := i) hsz.2 hsvl, mLo, ?i6, ?i7, ?i8⟩)
  case i1 =>
   exact fun y => by
    by_cases e1 : y = Str.ofString "successor_info"
    · subst e1; rfl
    · by_cases e2 : y = Str.ofString "successor"
      · subst e2; rfl
      · simp only [dnM, e1, e2, if_false]
  case i3 => rw [List.map_append, List.map_append]; rfl
  case i6 =>
    rw [hsp1, List.length_map] at hsvl
    omega
  case i7 => rw [aPut, hsp2]
  case i8 =>
    intro q hq
    exact hcl i hi q.1 (hsp2 ▸ List.mem_map_of_mem hq)
  · intro m1 news1 W9
    refine DnP.casesOn W9 ?_
    clear W9 m1 news1
    intro m1 m2 l' rp2 nc2 S' e1 e2 e3 e4 e5 e6 e7
    (refine ItemsRest.zero ?_; intro h tk FK NK)
    have c2 := (S'.off (rest := rest) (by unfold SApart; rw [e1]; exact apr)).2.1
    k_steps
    show UnrEndW _ _ _ _ _ _
    with_reducible rename Fr g1 _ _ _ => FB
    with_reducible rename News g1 _ _ _ => NB
    obtain ⟨uu, NB⟩ := tok_ex (P := fun uu => News g1 L1 _ ((I, io) :: (D, tupOf [.str i.nm t]) :: (x, instObj 137 dx) :: (dx, dictOf (sD d (.ref rl) po (nf + 1) { τ with u2 := uu }) n) :: (rl, listOf (rp2.map sV).toArray nc2) :: (d, od) :: (infosOf l' ++ rest))) NB
    revert uu
    intro uu NB
    refine unrEnd1 (news' := (D, tupOf [.str i.nm t]) :: (x, instObj 137 dx) :: (dx, dictOf (sD d (.ref rl) po (nf + 1) { τ with u2 := uu }) n) :: (rl, listOf (rp2.map sV).toArray nc2) :: (d, od) :: (infosOf l' ++ rest)) FB NB ?off ⟨⟨List.mem_cons_self .., trivial⟩, ?rest⟩
    case off =>
      have lI : ∀ q ∈ infosOf l' ++ rest, q.1 ≠ I := fun q hq => (List.mem_append.mp hq).elim (infos_as (P := fun z => z ≠ I) e1 (fun q hq => Nat.ne_of_lt (Nat.lt_trans (lDi q (List.mem_append_left _ hq)) lID)) q) fun hq => Nat.ne_of_lt (Nat.lt_trans (lDi q (List.mem_append_right _ hq)) lID)
      walk_at "off"
    case rest =>
      clear FB NB
      (refine ItemsRest.zero ?_; intro h9 tk9 F9 N9)
      k_steps
      with_reducible rename Fr h₀ L _ m => kF
      with_reducible rename News h₀ L _ (_ :: _) => kN
      refine ret _ _ { τ with u2 := uu } l' rp2 nc2 kF (fun q hq => kN q (sub_of (by dsimp only [head3, List.cons_append, List.nil_append]; walk_at "sub") hq)) S' (fun q hq => ?_) ⟨?_, e3⟩ e2 e6
      · rw [e1]
        rcases List.mem_cons.mp hq with rfl | hq
        · exact ap (rl, listOf (rp.map sV).toArray nc) (.head _)
        · exact apr q hq
      · have := congrArg List.length e2
        rw [List.length_map, List.length_map] at this
        rw [this]; exact hsz.1
  · intro p0 rq m1 news1 W9 ih
    refine DnP.casesOn W9 ?_
    clear W9 m1 news1
    intro m1 m2 l' rp2 nc2 S' e1 e2 e3 e4 e5 e6 e7
    obtain ⟨py, pt⟩ := p0
    revert py pt
    intro py pt e5 e6 e7
    (refine ItemsRest.val1 ?_; intro h tk io2 hio2 FK NK)
    have hpy : py ∈ l'.map (·.nm) := by rw [e2]; exact e7 (py, pt) (.head _)
    obtain ⟨j, hj, hjn⟩ := List.mem_map.mp hpy
    revert j
    intro j hj hjn
    have hjn : j.nm = py := hjn
    subst hjn
    have hz2 := kvs_at S'.names hj
    have khd2 := S'.hd
    have hjL := mem_ents hj
    obtain ⟨la2, lb2, hl⟩ := List.append_of_mem hj
    revert la2 lb2
    intro la2 lb2 hl
    subst hl
    have lj : ∀ q ∈ infosOf (la2 ++ j :: lb2), @LT.lt Nat _ q.1 D := infos_as (P := fun z => @LT.lt Nat _ z D) e1 fun q hq => lDi q (List.mem_append_left _ hq)
    have rj : ∀ q ∈ infosOf (la2 ++ j :: lb2), q.1 ≠ rl := infos_as (P := fun z => z ≠ rl) e1 r4
    walk_at "hide"
    obtain ⟨p1, p2, p3, p4, p5, p6, p7, p8, p9, cj, _, _, _, _, _, _⟩ := S'.focP (P := []) (rest := rest) (by unfold SApart; rw [e1]; exact apr)
    walk_at "unhide"
    have crl : ∀ p ∈ infosOf (la2 ++ lb2) ++ rest, p.1 ≠ rl := fun q hq => (List.mem_append.mp hq).elim (fun h => rj q (by
      refine sub_of ?_ h
      simp only [infosOf_append, infosOf_cons, List.cons_append, List.nil_append]
      walk_at "sub")) fun h => hrl q h
    have y1 : @LT.lt Nat _ j.ia D := lj _ hjL.1
    have y2 : @LT.lt Nat _ j.la D := lj _ hjL.2.1
    have y3 : @LT.lt Nat _ j.da D := lj _ hjL.2.2
    have y4 := neN (rj _ hjL.1)
    have y5 := neN (rj _ hjL.2.1)
    have y6 := neN (rj _ hjL.2.2)
    dsimp only at y4 y5 y6
    have hl7 : rp2.length < 2000 := by rw [List.length_cons] at e5; omega
    replace NK := focusN (P := (I2, io2) :: (I, io) :: (D, tupOf [.str i.nm t]) :: (x, instObj 137 dx) :: (dx, dictOf (sD d (.ref rl) po nf τ) n) :: (rl, listOf (rp2.map sV).toArray nc2) :: [(d, od)]) NK
    dsimp only [List.cons_append, List.nil_append] at NK
    k_steps
    show wpAny _ _ (subscriptTail _ _ (.ref d) (.str j.nm pt)) _ _ _
    refine kda_item (knd := PySem.strKind _ _) (by k_asm) (by k_mem) khd2 (strKind_is _ _ _ _) hz2 ?_
    k_steps
    · show UnrEndW _ _ _ _ _ _
      with_reducible rename j.np - 1 = 0 => hz0
      with_reducible rename Fr g1 L1 _ _ => FB
      with_reducible rename News g1 L1 _ _ => NB
      rw [show List.map sV rp2 ++ [sV (j.nm, pt)] = (rp2 ++ [(j.nm, pt)]).map sV by rw [List.map_append]; rfl] at NB
      obtain ⟨tq, NB⟩ := tok_ex (P := fun tq => News g1 L1 _ ((j.ia, nodeObj j.da j.la j.nm j.tn (j.np - 1) tq) :: (j.la, j.lo) :: (j.da, dictOf [] 0) :: (I2, io2) :: (I, io) :: (D, tupOf [.str i.nm t]) :: (x, instObj 137 dx) :: (dx, dictOf (sD d (.ref rl) po nf τ) n) :: (rl, listOf ((rp2 ++ [(j.nm, pt)]).map sV).toArray (nc2 + 1)) :: (d, od) :: (infosOf (la2 ++ lb2) ++ rest))) NB
      revert tq
      intro tq NB
      refine unrEnd1 (m' := dnM x d D (.str i.nm t) (.ref i.ia) (.int (-1) i.tp) (some (.str j.nm pt)) (some (.ref j.ia))) (news' := (I, io) :: (D, tupOf [.str i.nm t]) :: (x, instObj 137 dx) :: (dx, dictOf (sD d (.ref rl) po nf τ) n) :: (rl, listOf ((rp2 ++ [(j.nm, pt)]).map sV).toArray (nc2 + 1)) :: (d, od) :: (infosOf (la2 ++ j.setNp (j.np - 1) tq :: lb2) ++ rest))
        (fr_map FB dnM_set) (fun q hq => NB q (sub_of (by simp only [infosOf_append, infosOf_cons, List.cons_append, List.nil_append]; walk_at "sub") hq)) ?off ⟨⟨memD 6 (List.mem_append_left _ (lo_kept e4)), trivial⟩, ih _ _ (dn_next S' e1 e2 e3 e4 ?len e6 e7 ?abs)⟩
      case len =>
        rw [List.length_append, List.length_singleton]
        rw [List.length_cons] at e5
        omega
      case abs => rw [if_pos (by omega), List.map_append]; rfl
      case off =>
        have lI : ∀ q ∈ infosOf (la2 ++ j.setNp (j.np - 1) tq :: lb2) ++ rest, q.1 ≠ I2 := fun q hq => (List.mem_append.mp hq).elim (infos_as (P := fun z => z ≠ I2) (adrs_put (i := j) (i' := j.setNp (j.np - 1) tq) rfl rfl rfl) (fun q hq => Nat.ne_of_lt (Nat.lt_trans (lj q hq) lDI)) q) fun hq => Nat.ne_of_lt (lIr q hq)
        walk_at "off"
    · show UnrEndW _ _ _ _ _ _
      with_reducible rename ¬ j.np - 1 = 0 => hz0
      with_reducible rename Fr g1 L1 _ _ => FB
      with_reducible rename News g1 L1 _ _ => NB
      obtain ⟨tq, NB⟩ := tok_ex (P := fun tq => News g1 L1 _ ((j.ia, nodeObj j.da j.la j.nm j.tn (j.np - 1) tq) :: (j.la, j.lo) :: (j.da, dictOf [] 0) :: (I2, io2) :: (I, io) :: (D, tupOf [.str i.nm t]) :: (x, instObj 137 dx) :: (dx, dictOf (sD d (.ref rl) po nf τ) n) :: (rl, listOf (rp2.map sV).toArray nc2) :: (d, od) :: (infosOf (la2 ++ lb2) ++ rest))) NB
      revert tq
      intro tq NB
      refine unrEnd1 (m' := dnM x d D (.str i.nm t) (.ref i.ia) (.int (-1) i.tp) (some (.str j.nm pt)) (some (.ref j.ia))) (news' := (I, io) :: (D, tupOf [.str i.nm t]) :: (x, instObj 137 dx) :: (dx, dictOf (sD d (.ref rl) po nf τ) n) :: (rl, listOf (rp2.map sV).toArray nc2) :: (d, od) :: (infosOf (la2 ++ j.setNp (j.np - 1) tq :: lb2) ++ rest))
        (fr_map FB dnM_set) (fun q hq => NB q (sub_of (by simp only [infosOf_append, infosOf_cons, List.cons_append, List.nil_append]; walk_at "sub") hq)) ?off ⟨⟨memD 6 (List.mem_append_left _ (lo_kept e4)), trivial⟩, ih _ _ (dn_next S' e1 e2 e3 e4 ?len e6 e7 ?abs)⟩
      case len =>
        rw [List.length_cons] at e5
        omega
      case abs => rw [if_neg (by omega)]
      case off =>
        have lI : ∀ q ∈ infosOf (la2 ++ j.setNp (j.np - 1) tq :: lb2) ++ rest, q.1 ≠ I2 := fun q hq => (List.mem_append.mp hq).elim (infos_as (P := fun z => z ≠ I2) (adrs_put (i := j) (i' := j.setNp (j.np - 1) tq) rfl rfl rfl) (fun q hq => Nat.ne_of_lt (Nat.lt_trans (lj q hq) lDI)) q) fun hq => Nat.ne_of_lt (lIr q hq)
        walk_at "off"
end
theorem done1 {prog w p loose mean mg mb dp un gd cn cs a ccd cl outer A₀ base h₀ L m s Q E x dx d rl τ po nf n nc od l1 l2 i rp rest t k} : @done1_S prog w p loose mean mg mb dp un gd cn cs a ccd cl outer A₀ base h₀ L m s Q E x dx d rl τ po nf n nc od l1 l2 i rp rest t k :=
 eps_all (S := done1_u) done1_c rfl (by have := done1_0; with_unfolding_all assumption) ((prog, w, p, loose, mean, mg), (mb, dp, un, gd, cn, cs), (a, ccd, cl, outer, A₀, base), (h₀, L, m, s, Q, E), (x, dx, d, rl, τ, po), (nf, n, nc, od, l1, l2), (i, rp, rest, t, k))
end
end Mine
namespace Mine
abbrev Edges := List (Str × Str)
def mkP (names : List Str) (E : Edges) : List (Str × Int × List Str) := names.map fun y => (y, (((E.filter fun e => decide (e.1 = y)).length : Nat) : Int), (E.filter fun e => decide (e.2 = y)).map (·.1))
def ens (names : List Str) (y : Str) : List Str := if y ∈ names then names else names ++ [y]
theorem mkP_names (names : List Str) (E : Edges) : (mkP names E).map (·.1) = names := by
 unfold mkP
 rw [List.map_map]
 exact List.map_id' names
theorem mem_ens_self (names : List Str) (y : Str) : y ∈ ens names y := by
 unfold ens; split
 ·assumption
 ·simp
theorem mem_ens_of {names : List Str} {y z : Str} (h : z ∈ names) : z ∈ ens names y := by
 unfold ens; split
 ·exact h
 ·simp [h]
theorem mem_ens {names : List Str} {y z : Str} : z ∈ ens names y ↔ z ∈ names ∨ z = y := by
 unfold ens; split
 ·exact ⟨.inl, fun h => h.elim id fun e => e ▸ by assumption⟩
 ·simp
theorem ens_nodup {names : List Str} {y : Str} (h : names.Nodup) : (ens names y).Nodup := by
 unfold ens; split
 ·exact h
 ·rw [List.nodup_append]
  exact ⟨h, by simp, fun a ha b hb e => by simp at hb; subst hb; subst e; contradiction⟩
theorem filter_none {E : Edges} {p : Str × Str → Bool} (h : ∀ e ∈ E, p e = false) : E.filter p = [] := List.filter_eq_nil_iff.mpr fun e he => by rw [h e he]; decide
theorem pEns_mk {names : List Str} {E : Edges} {y : Str} (hE : ∀ e ∈ E, e.1 ∈ names ∧ e.2 ∈ names) : pEns (mkP names E) y = mkP (ens names y) E := by
 unfold pEns ens
 rw [mkP_names]
 split
 ·rfl
 ·rename_i hn
  unfold mkP
  rw [List.map_append, List.map_singleton, filter_none (p := fun e => decide (e.1 = y)) fun e he => decide_eq_false fun z => hn (z ▸ (hE e he).1), filter_none (p := fun e => decide (e.2 = y)) fun e he => decide_eq_false fun z => hn (z ▸ (hE e he).2)]
  rfl
theorem pAdd2_mk {names : List Str} {E : Edges} {f g : Str} (hE : ∀ e ∈ E, e.1 ∈ names ∧ e.2 ∈ names) : pAdd2 (mkP names E) f g = mkP (ens (ens names f) g) (E ++ [(f, g)]) := by
 have hE1 : ∀ e ∈ E, e.1 ∈ ens names f ∧ e.2 ∈ ens names f := fun e he => ⟨mem_ens_of (hE e he).1, mem_ens_of (hE e he).2⟩
 have hE2 : ∀ e ∈ E, e.1 ∈ ens (ens names f) g ∧ e.2 ∈ ens (ens names f) g := fun e he => ⟨mem_ens_of (hE1 e he).1, mem_ens_of (hE1 e he).2⟩
 have step : ∀ ns : List Str, (∀ e ∈ E, e.1 ∈ ns ∧ e.2 ∈ ns) → f ∈ ns → pEns (pUpd (mkP ns E) f fun q => (q.1 + 1, q.2)) g = pUpd (mkP (ens ns g) E) f fun q => (q.1 + 1, q.2) := by
  intro ns h hf
  have hnm : (pUpd (mkP ns E) f fun q => (q.1 + 1, q.2)).map (·.1) = ns := by
   unfold pUpd
   rw [List.map_map]
   rw [show ((fun x : Str × Int × List Str => x.1) ∘ fun q : Str × Int × List Str => if q.1 = f then (q.1, q.2.1 + 1, q.2.2) else q) = fun q => q.1 from funext fun q => by
    show (if q.1 = f then _ else q).1 = q.1
    split <;> rfl]
   exact mkP_names ns E
  unfold pEns ens
  rw [hnm]
  split
  ·rfl
  ·rename_i hn
   have : f ≠ g := fun e => hn (e ▸ hf)
   unfold mkP pUpd
   rw [List.map_append, List.map_append, List.map_singleton, List.map_singleton, filter_none (p := fun e => decide (e.1 = g)) fun e he => decide_eq_false fun z => hn (z ▸ (h e he).1), filter_none (p := fun e => decide (e.2 = g)) fun e he => decide_eq_false fun z => hn (z ▸ (h e he).2)]
   simp [Ne.symm this]
 unfold pAdd2
 rw [pEns_mk hE, step _ hE1 (mem_ens_self _ _)]
 unfold pUpd mkP
 rw [List.map_map, List.map_map]
 refine List.map_congr_left fun y _ => ?_
 simp only [Function.comp, List.filter_append]
 by_cases h1 : f = y <;> by_cases h2 : g = y
 ·subst h1; subst h2; simp
 ·subst h1; simp [h2]; intro h; exact absurd h.symm h2
 ·subst h2; simp [h1, Ne.symm h1]
 ·have h1' : ¬ y = f := fun e => h1 e.symm
  have h2' : ¬ y = g := fun e => h2 e.symm
  simp [h1, h2, h1', h2']
end Mine
namespace Mine
def mkQ (ns : List Str) (f : Str → Int) (s : Str → List Str) : List (Str × Int × List Str) := ns.map fun y => (y, f y, s y)
theorem mkQ_upd {ns : List Str} {f : Str → Int} {s : Str → List Str} {z : Str} {g : Int → Int} : pUpd (mkQ ns f s) z (fun q => (g q.1, q.2)) = mkQ ns (fun y => if y = z then g (f y) else f y) s := by
 unfold pUpd mkQ
 rw [List.map_map]
 refine List.map_congr_left fun y _ => ?_
 show (if y = z then (y, g (f y), s y) else (y, f y, s y)) = (y, (if y = z then g (f y) else f y), s y)
 split <;> rfl
theorem mkQ_find {ns : List Str} {f : Str → Int} {s : Str → List Str} {z : Str} (h : z ∈ ns) : (mkQ ns f s).find? (fun q => decide (q.1 = z)) = some (z, f z, s z) := by
 induction ns with
 | nil => exact (nomatch h)
 | cons a r ih =>
  show ((a, f a, s a) :: mkQ r f s).find? _ = _
  rw [List.find?_cons]
  by_cases e : a = z
  ·subst e; simp
  ·simp only [e, decide_false]
   exact ih ((List.mem_cons.mp h).resolve_left fun h => e h.symm)
def hits (f : Str → Int) : List Str → List Str
 | [] => []
 | z :: r => (if f z = 1 then [z] else []) ++ hits (fun y => if y = z then f y - 1 else f y) r
theorem pOut_mk {ns : List Str} {s : Str → List Str} : ∀ {R : List Str} {f : Str → Int}, pOut (mkQ ns f s) R = mkQ ns (fun y => if y ∈ R then -1 else f y) s
 | [], f => by simp [pOut]
 | z :: r, f => by
  show pOut (pUpd (mkQ ns f s) z fun q => (-1, q.2)) r = _
  rw [mkQ_upd (g := fun _ => -1), pOut_mk]
  congr 1
  funext y
  by_cases h1 : y ∈ r <;> by_cases h2 : y = z <;> simp [h1, h2]
theorem pDec_mk {ns : List Str} {s : Str → List Str} : ∀ {zs : List Str} {f : Str → Int} {R : List Str}, (∀ z ∈ zs, z ∈ ns) →
  pDec (mkQ ns f s) R zs = (mkQ ns (fun y => f y - (zs.count y : Nat)) s, R ++ hits f zs)
 | [], f, R, _ => by simp [pDec, hits]
 | z :: r, f, R, h => by
  show pDec (pUpd (mkQ ns f s) z fun q => (q.1 - 1, q.2)) (if ((mkQ ns f s).find? fun q => decide (q.1 = z)).map (·.2.1) = some 1 then R ++ [z] else R) r = _
  rw [mkQ_upd (g := fun v => v - 1), mkQ_find (h z (.head _)), pDec_mk fun z hz => h z (.tail _ hz)]
  congr 1
  ·congr 1
   funext y
   rw [List.count_cons]
   by_cases e : y = z
   ·subst e; simp; omega
   ·have : ¬ z = y := fun h => e h.symm
    simp [e, this]
  ·show (if some (f z) = some 1 then R ++ [z] else R) ++ _ = R ++ ((if f z = 1 then [z] else []) ++ _)
   by_cases e : f z = 1
   ·simp [e]
   ·simp [e]
theorem mem_hits {y : Str} : ∀ {zs : List Str} {f : Str → Int}, y ∈ hits f zs ↔ 1 ≤ f y ∧ f y ≤ (zs.count y : Nat)
 | [], f => by simp [hits]; omega
 | z :: r, f => by
  show y ∈ (if f z = 1 then [z] else []) ++ hits (fun y => if y = z then f y - 1 else f y) r ↔ _
  rw [List.mem_append, mem_hits, List.count_cons]
  by_cases e : y = z
  ·subst e
   by_cases h1 : f y = 1
   ·simp [h1]; omega
   ·simp [h1]; omega
  ·have e' : ¬ z = y := fun h => e h.symm
   have : y ∉ (if f z = 1 then [z] else []) := by split <;> simp [e]
   simp [this, e, e']
theorem hits_nodup : ∀ {zs : List Str} {f : Str → Int}, (hits f zs).Nodup
 | [], f => List.nodup_nil
 | z :: r, f => by
  show ((if f z = 1 then [z] else []) ++ hits (fun y => if y = z then f y - 1 else f y) r).Nodup
  rw [List.nodup_append]
  refine ⟨by split <;> simp, hits_nodup, fun a ha b hb e => ?_⟩
  subst e
  rw [mem_hits] at hb
  by_cases h1 : f z = 1
  ·rw [if_pos h1] at ha
   simp at ha
   subst ha
   simp [h1] at hb
  ·rw [if_neg h1] at ha
   exact (nomatch ha)
end Mine
namespace Mine
def succs (E : Edges) (y : Str) : List Str := (E.filter fun e => decide (e.2 = y)).map (·.1)
def need (E : Edges) (Dn : List Str) (y : Str) : Nat := (E.filter fun e => decide (e.1 = y) && decide (e.2 ∉ Dn)).length
def stat (E : Edges) (Dn Out : List Str) (y : Str) : Int := if y ∈ Dn then -2 else if y ∈ Out then -1 else (need E Dn y : Nat)
theorem mkP_mkQ (ns : List Str) (E : Edges) : mkP ns E = mkQ ns (stat E [] []) (succs E) := by
 unfold mkP mkQ
 refine List.map_congr_left fun y _ => ?_
 simp [stat, need, succs]
theorem out_mk {ns : List Str} {E : Edges} {Dn R : List Str} {s : Str → List Str} (h : ∀ y ∈ R, y ∉ Dn) : pOut (mkQ ns (stat E Dn []) s) R = mkQ ns (stat E Dn R) s := by
 rw [pOut_mk]
 congr 1
 funext y
 by_cases h1 : y ∈ R
 ·simp [stat, h1, h y h1]
 ·simp [stat, h1]
theorem count_succs (E : Edges) (y z : Str) : (succs E y).count z = (E.filter fun e => decide (e.1 = z) && decide (e.2 = y)).length := by
 unfold succs
 induction E with
 | nil => rfl
 | cons e r ih =>
  rw [List.filter_cons, List.filter_cons]
  by_cases h2 : e.2 = y <;> by_cases h1 : e.1 = z
  ·simp [h1, h2, List.count_cons, ih]
  ·simp [h1, h2, List.count_cons, ih]
  ·simp [h2, ih]
  ·simp [h1, h2, ih]
theorem need_step (E : Edges) (Dn : List Str) (y z : Str) (hy : y ∉ Dn) : need E Dn z = need E (y :: Dn) z + (succs E y).count z := by
 rw [count_succs]
 unfold need
 induction E with
 | nil => rfl
 | cons e r ih =>
  rw [List.filter_cons, List.filter_cons, List.filter_cons]
  by_cases h1 : e.1 = z
  ·by_cases h2 : e.2 = y
   ·have : y ∉ Dn := hy
    simp [h1, h2, this] at ih ⊢; omega
   ·by_cases h3 : e.2 ∈ Dn
    ·simp [h1, h2, h3] at ih ⊢; omega
    ·simp [h1, h2, h3] at ih ⊢; omega
  ·simp [h1] at ih ⊢; omega
theorem done_mk {ns : List Str} {E : Edges} {Dn Out R : List Str} {y : Str} (hns : ∀ e ∈ E, e.1 ∈ ns) (hy : y ∉ Dn) (hO : y ∈ Out) (H : ∀ e ∈ E, e.2 = y → e.1 ∉ Dn ∧ e.1 ∉ Out) :
  pDec (pUpd (mkQ ns (stat E Dn Out) (succs E)) y fun q => (-2, q.2)) R (succs E y) =
   (mkQ ns (stat E (y :: Dn) Out) (succs E), R ++ hits (fun z => if z = y then -2 else stat E Dn Out z) (succs E y)) := by
 rw [mkQ_upd (g := fun _ => -2), pDec_mk fun z hz => by
  obtain ⟨e, he, rfl⟩ := List.mem_map.mp hz
  exact hns e (List.mem_filter.mp he).1]
 have c0 : ∀ z, z ∈ Dn ∨ z ∈ Out → (succs E y).count z = 0 := fun z hz => List.count_eq_zero.mpr fun hm => by
  obtain ⟨e, he, rfl⟩ := List.mem_map.mp hm
  obtain ⟨h1, h2⟩ := List.mem_filter.mp he
  obtain ⟨h3, h4⟩ := H e h1 (by simpa using h2)
  exact hz.elim h3 h4
 congr 1
 congr 1
 funext z
 by_cases h1 : z = y
 ·subst h1
  simp [stat, c0 z (.inr hO)]
 ·by_cases h2 : z ∈ Dn
  ·simp [stat, h1, h2, c0 z (.inl h2)]
  ·by_cases h3 : z ∈ Out
   ·simp [stat, h1, h2, h3, c0 z (.inr h3)]
   ·have := need_step E Dn y z hy
    simp [stat, h1, h2, h3]
    omega
theorem mem_hits_done {E : Edges} {Dn Out : List Str} {y z : Str} (hy : y ∉ Dn) :
  z ∈ hits (fun z => if z = y then -2 else stat E Dn Out z) (succs E y) ↔ z ≠ y ∧ z ∉ Dn ∧ z ∉ Out ∧ 1 ≤ need E Dn z ∧ need E (y :: Dn) z = 0 := by
 rw [mem_hits]
 have := need_step E Dn y z hy
 by_cases h1 : z = y
 ·simp [h1]
 ·by_cases h2 : z ∈ Dn
  ·simp [h1, h2, stat]
  ·by_cases h3 : z ∈ Out
   ·simp [h1, h2, h3, stat]
   ·simp [h1, h2, h3, stat]
    omega
end Mine
namespace Mine
def TopoE (E : Edges) : List Str → Prop
 | [] => True
 | v :: r => (∀ y ∈ succs E v, y ∈ r) ∧ TopoE E r
theorem su_of {l : List NI} {ns : List Str} {E : Edges} (h : absN l = mkP ns E) {i : NI} (hi : i ∈ l) : i.su = succs E i.nm := by
 have : (i.nm, i.np, i.su) ∈ absN l := List.mem_map.mpr ⟨i, hi, rfl⟩
 rw [h] at this
 obtain ⟨y, _, e⟩ := List.mem_map.mp this
 injection e with e1 e2
 injection e2 with _ e3
 rw [← e3, ← e1]; rfl
theorem topo_E {l : List NI} {ns : List Str} {E : Edges} (h : absN l = mkP ns E) : ∀ {fin : List Str}, Topo l fin → TopoE E fin
 | [], _ => trivial
 | _ :: _, ⟨⟨i, hi, hn, hs⟩, ht⟩ => ⟨fun y hy => hs y (by rw [su_of h hi, hn]; exact hy), topo_E h ht⟩
theorem mem_succs {E : Edges} {y z : Str} : z ∈ succs E y ↔ (z, y) ∈ E := by
 unfold succs
 rw [List.mem_map]
 constructor
 ·rintro ⟨e, he, rfl⟩
  obtain ⟨h1, h2⟩ := List.mem_filter.mp he
  have : e.2 = y := by simpa using h2
  rw [← this]; exact h1
 ·exact fun h => ⟨(z, y), List.mem_filter.mpr ⟨h, by simp⟩, rfl⟩
theorem topoE_tail {E : Edges} : ∀ {a b : List Str} {g : Str}, TopoE E (a ++ g :: b) → ∀ y ∈ succs E g, y ∈ b
 | [], _, _, h => h.1
 | _ :: a, _, _, h => topoE_tail (a := a) h.2
theorem topo_full {E : Edges} {fin : List Str} {C : Str → Prop} (hn : fin.Nodup) (ht : TopoE E fin) (hcov : ∀ e ∈ E, e.2 ∈ fin) (hC : ∀ z ∈ fin, ¬ C z → ∃ e ∈ E, e.1 = z ∧ ¬ C e.2) : ∀ z ∈ fin, C z := by
 have key : ∀ (suf pre : List Str), fin = pre ++ suf → (∀ z ∈ pre, C z) → ∀ z ∈ suf, C z := by
  intro suf
  induction suf with
  | nil => exact fun _ _ _ _ h => (nomatch h)
  | cons v suf ih =>
   intro pre e hp
   have hv : C v := by
    refine Classical.byContradiction fun hv => ?_
    obtain ⟨e1, he, h1, h2⟩ := hC v (by rw [e]; simp) hv
    have hg := hcov e1 he
    have hs : v ∈ succs E e1.2 := mem_succs.mpr (by rw [← h1]; exact he)
    rw [e] at hg hn ht
    have hn2 := List.nodup_append.mp hn
    have hv2 : v ∉ suf := (List.nodup_cons.mp hn2.2.1).1
    rcases List.mem_append.mp hg with hg | hg
    ·exact h2 (hp _ hg)
    ·rcases List.mem_cons.mp hg with hg | hg
     ·rw [hg] at hs
      exact hv2 (topoE_tail ht v hs)
     ·obtain ⟨a, b, hab⟩ := List.append_of_mem hg
      rw [hab] at ht
      have := topoE_tail (a := pre ++ v :: a) (b := b) (g := e1.2) (by simpa using ht) v hs
      exact hv2 (by rw [hab]; simp [this])
   intro z hz
   rcases List.mem_cons.mp hz with rfl | hz
   ·exact hv
   ·exact ih (pre ++ [v]) (by rw [e]; simp) (fun z hz => by
     rcases List.mem_append.mp hz with hz | hz
     ·exact hp z hz
     ·simp at hz; exact hz ▸ hv) z hz
 exact key fin [] rfl fun _ h => (nomatch h)
def KOrd (E : Edges) (come : List Str) : Prop := ∀ a z b, come = a ++ z :: b → ∀ e ∈ E, e.1 = z → e.2 ∈ a
theorem cyc_E {l : List NI} {ns : List Str} {E : Edges} (h : absN l = mkP ns E) {Cy : List Str} (hc : Cyc l Cy) : ∀ c ∈ Cy, ∃ y ∈ Cy, (y, c) ∈ E := fun c hcm => by
 obtain ⟨i, hi, hn, y, hy, hyC⟩ := hc.2 c hcm
 refine ⟨y, hyC, mem_succs.mp ?_⟩
 rw [← hn, ← su_of h hi]; exact hy
theorem cyc_no {E : Edges} {come Cy : List Str} (hn : come.Nodup) (hk : KOrd E come) (h0 : Cy ≠ []) (hs : ∀ c ∈ Cy, c ∈ come) (hc : ∀ c ∈ Cy, ∃ y ∈ Cy, (y, c) ∈ E) : False := by
 have key : ∀ (n : Nat) (a b : List Str), a.length = n → come = a ++ b → (∀ c ∈ Cy, c ∉ b) → False := by
  intro n
  induction n with
  | zero =>
   intro a b ha e hb
   have : a = [] := List.eq_nil_of_length_eq_zero ha
   subst this
   cases Cy with
   | nil => exact h0 rfl
   | cons c r => exact hb c (.head _) (by have := hs c (.head _); rw [e] at this; exact this)
  | succ n ih =>
   intro a b ha e hb
   rcases List.eq_nil_or_concat a with rfl | ⟨a', c, rfl⟩
   ·simp at ha
   ·rw [List.concat_eq_append] at e ha
    have e' : come = a' ++ c :: b := by rw [e]; simp
    by_cases hcC : c ∈ Cy
    ·obtain ⟨y, hy, hE⟩ := hc c hcC
     have hym := hs y hy
     rw [e'] at hym hn
     have hn2 := List.nodup_append.mp hn
     rcases List.mem_append.mp hym with hym | hym
     ·obtain ⟨a1, a2, h12⟩ := List.append_of_mem hym
      have := hk a1 y (a2 ++ c :: b) (by rw [e', h12]; simp) (y, c) hE rfl
      exact hn2.2.2 c (by rw [h12]; simp [this]) c (by simp) rfl
     ·rcases List.mem_cons.mp hym with hym | hym
      ·have := hk a' c b e' (y, c) hE hym
       exact hn2.2.2 c this c (by simp) rfl
      ·exact hb y hy hym
    ·exact ih a' (c :: b) (by simpa using ha) e' fun z hz hm => by
      rcases List.mem_cons.mp hm with rfl | hm
      ·exact hcC hz
      ·exact hb z hz hm
 exact key come.length come [] rfl (by simp) fun _ _ h => (nomatch h)
end Mine
namespace Mine
def grp (F : List Str) (E : Edges) (come : List Str) : List Str := F.filter fun z => decide (z ∉ come ∧ ∀ e ∈ E, e.1 = z → e.2 ∈ come)
def stp (F : List Str) (E : Edges) : Nat → List (List Str) × List Str
 | 0 => ([], [])
 | n + 1 => ((stp F E n).1 ++ [grp F E (stp F E n).2], (stp F E n).2 ++ grp F E (stp F E n).2)
def Ends (F : List Str) (E : Edges) (n : Nat) : Prop := (∀ k < n, grp F E (stp F E k).2 ≠ []) ∧ grp F E (stp F E n).2 = []
section
variable {F : List Str} {E : Edges}
theorem ends_uniq {n n' : Nat} (h : Ends F E n) (h' : Ends F E n') : n = n' := by
 rcases Nat.lt_trichotomy n n' with z | z | z
 ·exact absurd h.2 (h'.1 n z)
 ·exact z
 ·exact absurd h'.2 (h.1 n' z)
theorem mem_grp {come : List Str} {z : Str} : z ∈ grp F E come ↔ z ∈ F ∧ z ∉ come ∧ ∀ e ∈ E, e.1 = z → e.2 ∈ come := by
 unfold grp; rw [List.mem_filter]; simp
theorem stp_sub : ∀ n, ∀ z ∈ (stp F E n).2, z ∈ F
 | 0, _, h => (nomatch h)
 | n + 1, z, h => by
  rcases List.mem_append.mp h with h | h
  ·exact stp_sub n z h
  ·exact (mem_grp.mp h).1
theorem stp_nodup (hF : F.Nodup) : ∀ n, (stp F E n).2.Nodup
 | 0 => List.nodup_nil
 | n + 1 => List.nodup_append.mpr ⟨stp_nodup hF n, hF.filter _, fun a ha b hb e => (mem_grp.mp hb).2.1 (e ▸ ha)⟩
theorem stp_ord : ∀ n, KOrd E (stp F E n).2
 | 0 => fun a z b e => by
  have : (stp F E 0).2 = [] := rfl
  rw [this] at e
  simp at e
 | n + 1 => fun a z b e f hf hz => by
  have e : (stp F E n).2 ++ grp F E (stp F E n).2 = a ++ z :: b := e
  rcases List.append_eq_append_iff.mp e with ⟨a', h1, h2⟩ | ⟨c', h1, h2⟩
  ·have hg : z ∈ grp F E (stp F E n).2 := by rw [h2]; simp
   have := (mem_grp.mp hg).2.2 f hf hz
   rw [h1]; exact List.mem_append_left _ this
  ·cases c' with
   | nil =>
    have hg : z ∈ grp F E (stp F E n).2 := by
     have h2' : z :: b = grp F E (stp F E n).2 := h2
     rw [← h2']; simp
    have := (mem_grp.mp hg).2.2 f hf hz
    have h1' : (stp F E n).2 = a := by rw [h1]; simp
    rw [← h1']; exact this
   | cons y c' =>
    rw [List.cons_append] at h2
    injection h2 with h3 h4
    subst h3
    exact stp_ord n a z c' h1 f hf hz
theorem need_zero {Dn : List Str} {z : Str} : need E Dn z = 0 ↔ ∀ e ∈ E, e.1 = z → e.2 ∈ Dn := by
 unfold need
 rw [List.length_eq_zero_iff, List.filter_eq_nil_iff]
 constructor
 ·intro h e he hz
  have := h e he
  simpa [hz] using this
 ·intro h e he
  have := h e he
  by_cases hz : e.1 = z
  ·simpa [hz] using this hz
  ·simp [hz]
theorem len_lt {come : List Str} (hF : F.Nodup) (hn : come.Nodup) (hs : ∀ z ∈ come, z ∈ F) : decide (come.length < F.length) = false ↔ ∀ z ∈ F, z ∈ come := by
 have h1 := nodup_le hn hs
 rw [decide_eq_false_iff_not]
 constructor
 ·intro h z hz
  refine Classical.byContradiction fun hc => h ?_
  have := nodup_le (a := z :: come) (b := F) (List.nodup_cons.mpr ⟨hc, hn⟩) fun y hy => by
   rcases List.mem_cons.mp hy with rfl | hy
   ·exact hz
   ·exact hs y hy
  simp only [List.length_cons] at this
  omega
 ·intro h
  have := nodup_le hF h
  omega
theorem ring_no {n : Nat} {fin : List Str} (hF : F.Nodup) (hE : ∀ e ∈ E, e.1 ∈ F ∧ e.2 ∈ F) (h : Ends F E n) (hn : fin.Nodup) (ht : TopoE E fin) (hc : ∀ z ∈ F, z ∈ fin) : decide ((stp F E n).2.length < F.length) = false := by
 refine (len_lt hF (stp_nodup hF n) (stp_sub n)).mpr fun z hz => ?_
 have hz2 := topo_full (E := E) (fin := fin) (C := fun z => z ∈ F → z ∈ (stp F E n).2) hn ht (fun e he => hc _ (hE e he).2) (fun z hz hC => ?_) z (hc z hz) hz
 ·exact hz2
 ·have hC' : z ∈ F ∧ z ∉ (stp F E n).2 := Classical.byContradiction fun q => hC fun hf => Classical.byContradiction fun q' => q ⟨hf, q'⟩
  have hg : z ∉ grp F E (stp F E n).2 := by rw [h.2]; simp
  rw [mem_grp] at hg
  refine Classical.byContradiction fun q => hg ⟨hC'.1, hC'.2, fun e he hz => ?_⟩
  exact Classical.byContradiction fun q2 => q ⟨e, he, hz, fun q3 => q2 (q3 (hE e he).2)⟩
theorem ring_yes {n : Nat} {Cy : List Str} (hF : F.Nodup) (hE : ∀ e ∈ E, e.1 ∈ F ∧ e.2 ∈ F) (h0 : Cy ≠ []) (hc : ∀ c ∈ Cy, ∃ y ∈ Cy, (y, c) ∈ E) : decide ((stp F E n).2.length < F.length) = true := by
 refine Classical.byContradiction fun q => ?_
 have q' := (len_lt hF (stp_nodup (E := E) hF n) (stp_sub n)).mp (Bool.eq_false_iff.mpr q)
 refine cyc_no (stp_nodup hF n) (stp_ord n) h0 (fun c hcm => ?_) hc
 obtain ⟨y, _, hy⟩ := hc c hcm
 exact q' c (hE _ hy).2
end
def SLt (a b : Str) : Prop := ltCps a.cps.toList b.cps.toList = true
theorem sorted_pair : ∀ (l : List Str), sortedS l = true → l.Pairwise fun a b => ltCps b.cps.toList a.cps.toList = false := by
 have key : ∀ (l : List Str) (p : Str), risingS p l = true → (p :: l).Pairwise fun a b => ltCps b.cps.toList a.cps.toList = false := by
  intro l
  induction l with
  | nil => intro p _; simp
  | cons x r ih =>
   intro p h
   have h : (!ltCps x.cps.toList p.cps.toList && risingS x r) = true := h
   rw [Bool.and_eq_true] at h
   have h1 : ltCps x.cps.toList p.cps.toList = false := by simpa using h.1
   have h2 := ih x h.2
   refine List.pairwise_cons.mpr ⟨fun y hy => ?_, h2⟩
   rcases List.mem_cons.mp hy with rfl | hy
   ·exact h1
   ·have h3 := (List.pairwise_cons.mp h2).1 y hy
    rw [ltCps_eq, decide_eq_false_iff_not] at h1 h3 ⊢
    exact fun q => h1 (List.lt_of_le_of_lt (List.not_lt.mp h3) q)
 intro l h
 cases l with
 | nil => exact List.Pairwise.nil
 | cons x r => exact key r x h
theorem sort_uniq : ∀ {a b : List Str}, a.Perm b → (a.Pairwise fun a b => ltCps b.cps.toList a.cps.toList = false) → b.Pairwise SLt → a = b
 | [], _, p, _, _ => p.nil_eq
 | x :: r, b, p, ha, hb => by
  cases b with
  | nil => exact absurd p.length_eq (by simp)
  | cons y t =>
   have hx : x ∈ y :: t := p.mem_iff.mp (.head _)
   have hy : y ∈ x :: r := p.mem_iff.mpr (.head _)
   have e : x = y := by
    rcases List.mem_cons.mp hx with h | h
    ·exact h
    ·rcases List.mem_cons.mp hy with h' | h'
     ·exact h'.symm
     ·have a1 := (List.pairwise_cons.mp ha).1 y h'
      have a2 := (List.pairwise_cons.mp hb).1 x h
      unfold SLt at a2
      rw [a1] at a2
      cases a2
   subst e
   rw [sort_uniq (List.Perm.cons_inv p) (List.pairwise_cons.mp ha).2 (List.pairwise_cons.mp hb).2]
theorem nodup_perm {α : Type} : ∀ {a b : List α}, a.Nodup → b.Nodup → (∀ x, x ∈ a ↔ x ∈ b) → a.Perm b
 | [], b, _, _, h => by
  have : b = [] := List.eq_nil_iff_forall_not_mem.mpr fun x hx => nomatch (h x).mpr hx
  rw [this]
 | x :: a, b, ha, hb, h => by
  obtain ⟨l1, l2, rfl⟩ := List.append_of_mem ((h x).mp (.head _))
  refine List.Perm.trans (List.Perm.cons x (nodup_perm (b := l1 ++ l2) (List.nodup_cons.mp ha).2 ?_ fun y => ?_)) List.perm_middle.symm
  ·exact (List.nodup_cons.mp ((List.perm_middle.nodup_iff).mp hb)).2
  ·have hx := (List.nodup_cons.mp ha).1
   have hx2 := (List.nodup_cons.mp ((List.perm_middle.nodup_iff).mp hb)).1
   have hy := h y
   simp only [List.mem_cons, List.mem_append] at hy hx2 ⊢
   constructor
   ·intro q
    rcases hy.mp (.inr q) with z | z | z
    ·exact .inl z
    ·exact absurd (z ▸ q) hx
    ·exact .inr z
   ·intro q
    rcases hy.mpr (q.elim .inl fun z => .inr (.inr z)) with z | z
    ·exact absurd (z ▸ q) hx2
    ·exact z
theorem sort_grp {F : List Str} {E : Edges} {come R S : List Str} (hF : F.Pairwise SLt) (hn : F.Nodup) (hR : R.Nodup) (hm : ∀ z, z ∈ R ↔ z ∈ grp F E come) (hp : S.Perm R) (hs : sortedS S = true) : S = grp F E come :=
 sort_uniq (hp.trans (nodup_perm hR (hn.filter _) hm)) (sorted_pair S hs) (hF.filter _)
end Mine
namespace Mine
section
variable {prog : Program} {w : World} {A : Around} {E : Value → Shared → Prop} {s : Shared}
theorem collect_tup {l : Addr} {vs : List Value} {Q : List Value → Shared → Prop} (hl : IsTup s.heap l vs.toArray)
  (h : Q vs { s with heap := (s.heap.push (seqObj "list" #[] 0)).update s.heap.objs.size (Obj.mapSeq (· ++ vs.toArray)) }) (hsz : vs.length ≤ sizeLine := by size_fits) :
  wpAny (model prog w) A (collect (.ref l)) Q E s := by
 obtain ⟨o, ho, hc, n, hd⟩ := id hl
 unfold collect
 refine wpAny_bind (wpAny_runValue (codeAny_builtin entry_proto_collect' ?_))
 show wpAny _ _ (do again (.builtin "list.__iadd__" ⟨[← newList [], .ref l], []⟩)) _ _ s
 refine wpAny_bind (wpAny_newList (wpAny_pure ⟨Code.quiet_builtin _ (by decide +kernel), codeAny_builtin entry_list_iadd' ?_⟩))
 show wpAny _ _ (Builtin.List.listExtendWith (.ref s.heap.objs.size) (.ref l) (.ref s.heap.objs.size)) _ _ { s with heap := s.heap.push (seqObj "list" #[] 0) }
 unfold Builtin.List.listExtendWith
 have ho' : (s.heap.push (seqObj "list" #[] 0)).get? l = some o := Heap.get?_push_of_some _ ho
 refine wpAny_bind (wpAny_typeOf (T := "tuple") ⟨o, ho', hc⟩ ?_)
 have ht : (Value.type "tuple" == Value.type "tuple") = true := by rfl
 rw [if_pos (by rw [ht]; simp)]
 refine wpAny_bind (listItems_at ho' hd ?_)
 refine wpAny_bind (listItems_at (xs := #[]) (n := 0) (Heap.get?_push_size _ rfl) rfl ?_)
 rw [if_neg (by simp)]
 refine wpAny_bind (listUpdate_at (xs := #[]) (n := 0) (Heap.get?_push_size _ rfl) rfl ?_ (Nat.zero_le _) (by show (#[] ++ vs.toArray).size ≤ sizeLine + 1; simp only [Array.size_append, List.size_toArray, List.length_nil]; omega))
 refine wpAny_pure ?_
 show wpAny (model prog w) A (do
   let o ← load s.heap.objs.size
   match o.data with
   | .seq xs _ => pure xs.toList
   | _ => unsupported "internal:collect") Q E { s with heap := (s.heap.push (seqObj "list" #[] 0)).update s.heap.objs.size (Obj.mapSeq (· ++ vs.toArray)) }
 refine wpAny_bind (wpAny_load (get?_update_seq (Heap.get?_push_size _ rfl) _) ?_)
 show wpAny _ _ (pure ((#[] : Array Value) ++ vs.toArray).toList) Q E _
 rw [show ((#[] : Array Value) ++ vs.toArray).toList = vs by simp]
 exact wpAny_pure h
theorem sortedT {κ : KeyKind} (hO : κ.OneLt) {l : Addr} {vs : List Value} {Q : Value → Shared → Prop} (hl : IsTup s.heap l vs.toArray) (h0 : KeysOf κ (pairsOf vs)) (hkk : ∀ v₁ v₂ rest, vs = v₁ :: v₂ :: rest → keyKind' (v₁ :: v₂ :: rest).toArray = pure oneType') (h64 : vs.length < 64)
  (h : ∀ st' : SortSt, (arrOf st').Perm (pairsOf vs) → SortedToK κ (arrOf st') (pairsOf vs).size → Q (.ref (s.heap.objs.size + 1)) { s with heap := sortedAll s.heap vs ((arrOf st').map (·.2)) }) :
  wpAny (model prog w) A (call (.builtin "sorted") [.ref l]) Q E s := by
 refine Calls.call_function_entry kind_sorted plain_sorted entry_sorted (args_sorted1 _) ?_
 unfold Builtin.«sorted»
 refine wpAny_bind (m := checkCount "sorted" 1 1 _) (wpAny_pure ?_)
 refine wpAny_bind (collect_tup hl ?_)
 refine wpAny_bind (wpAny_newList ?_)
 have hsz : ((s.heap.push (seqObj "list" #[] 0)).update s.heap.objs.size (Obj.mapSeq (· ++ vs.toArray))).objs.size = s.heap.objs.size + 1 := by
  rw [Heap.size_update, size_push']
 have hoL : (((s.heap.push (seqObj "list" #[] 0)).update s.heap.objs.size (Obj.mapSeq (· ++ vs.toArray))).push (seqObj "list" vs.toArray 0)).get? (s.heap.objs.size + 1) = some (seqObj "list" vs.toArray 0) := by
  rw [← hsz]; exact Heap.get?_push_size _ rfl
 show wpAny _ _ _ _ _ { s with heap := ((s.heap.push (seqObj "list" #[] 0)).update s.heap.objs.size (Obj.mapSeq (· ++ vs.toArray))).push (seqObj "list" vs.toArray 0) }
 rw [hsz]
 refine wpAny_bind (wpAny_holding (wpAny_call_entry slot_list_sort ⟨_, hoL, rfl⟩ entry_list_sort (list_sort_treeK hO hoL h0 hkk h64 fun st' a1 a2 => ⟨_, rfl, ?_⟩) (args_list_sort _)))
 exact wpAny_pure ⟨_, rfl, h st' a1 a2⟩
theorem sorted_tup {h₀ : Heap} {L : Addr} {m : Str → Option Value} {news : List (Addr × Obj)} {l : Addr} {vs : List Value} {ss : List Str} {Q : Value → Shared → Prop}
  (F : Fr h₀ L s.heap m) (N : News h₀ L s.heap news) (hl : IsTup s.heap l vs.toArray) (hS : StrsAre vs ss) (h64 : vs.length < 64)
  (h : ∀ (D : Addr) (h' : Heap) (vs' : List Value) (ss' : List Str) (e : Nat), Fr h₀ L h' m → News h₀ L h' ((D, listOf vs'.toArray e) :: news) → (∀ q ∈ news, q.1 < D) →
   StrsAre vs' ss' → ss'.Perm ss → sortedS ss' = true → Q (.ref D) { s with heap := h' }) :
  wpAny (model prog w) A (call (.builtin "sorted") [.ref l]) Q E s := by
 refine sortedT strKind_oneLt hl hS.keysOf (fun v₁ v₂ rest e => keyKind_strs (by rw [← e]; exact hS)) h64 fun st' hp hs => ?_
 obtain ⟨ss', a1, a2, a3⟩ := sorted_out_str hS hp hs
 obtain ⟨e, he⟩ := sortedAll_at s.heap vs ((arrOf st').map (·.2))
 exact h _ _ ((arrOf st').map (·.2)).toList ss' e (F.kept fun _ _ => sortedAll_old) (N.kept_cons F (fun _ _ => sortedAll_old) (Nat.le_succ _) (by rw [Array.toArray_toList]; exact he)) (fun q hq => Nat.lt_succ_of_lt (Heap.lt_size (N q hq).1)) a1 a2 a3
def isF : Value → Bool
 | .bool b => !b
 | _ => false
theorem notin_true {l : Addr} {k : Nat} {Q : Value → Shared → Prop} (hl : s.heap.IsList l (List.replicate k (Value.bool true)).toArray) (hu : A.units + 64 < cLine) (h : Q (.bool true) s) : wpAny (model prog w) A (compareOp .NotIn (.bool false) (.ref l)) Q E s :=
 PySem.SeqAt.notIn_listAt isF hl (fun y hy => by
  have hy : y ∈ List.replicate k (Value.bool true) := by simpa using hy
  rw [(List.mem_replicate.mp hy).2]
  refine PySem.SeqAt.eqAt_reads (.bool true) (.bool false) A.in1 s _ _ _ _ (Reads.bool true) (Reads.bool false) rfl rfl ?_
  show A.units + 1 + min 0 0 < cLine
  omega) (by
  have : (List.replicate k (Value.bool true)).toArray.any isF = false := by
   rw [← Array.any_toList, Bool.eq_false_iff]
   intro h
   obtain ⟨x, hx, e⟩ := List.any_eq_true.mp h
   have hx : x ∈ List.replicate k (Value.bool true) := by simpa using hx
   rw [(List.mem_replicate.mp hx).2] at e
   cases e
  rw [this]; exact h)
end
end Mine
namespace Mine
structure RdI (F ns : List Str) (E : Edges) (n : Nat) (R : List Str) (P : List (Str × Int × List Str)) : Prop where
 dn : ∃ Dn, P = mkQ ns (stat E Dn []) (succs E) ∧ ∀ z, z ∈ Dn ↔ z ∈ (stp F E n).2
 nd : R.Nodup
 mem : ∀ z, z ∈ R ↔ z ∈ grp F E (stp F E n).2
 prev : ∀ k < n, grp F E (stp F E k).2 ≠ []
structure RdJ (F ns : List Str) (E : Edges) (n : Nat) (R pre rq Rn : List Str) (P : List (Str × Int × List Str)) : Prop where
 split : R = pre ++ rq
 nd : Rn.Nodup
 ex : ∃ Dn, P = mkQ ns (stat E Dn R) (succs E) ∧ (∀ z, z ∈ Dn ↔ z ∈ (stp F E n).2 ∨ z ∈ pre) ∧ ∀ z, z ∈ Rn ↔ z ∈ ns ∧ z ∉ Dn ∧ z ∉ R ∧ need E Dn z = 0
section
variable {F ns : List Str} {E : Edges} {n : Nat} {R : List Str} {P : List (Str × Int × List Str)}
theorem RdI.zero {l : List NI} (hns : ∀ z, z ∈ ns ↔ z ∈ F) (hn : (l.map (·.nm)).Nodup) (h : absN l = mkP ns E) : RdI F ns E 0 ((rdyL l).map (·.nm)) (absN l) := by
 refine ⟨⟨[], by rw [h, mkP_mkQ], fun z => Iff.rfl⟩, ?_, fun z => ?_, fun k hk => absurd hk (Nat.not_lt_zero _)⟩
 ·unfold rdyL
  exact List.Nodup.sublist (List.Sublist.map _ List.filter_sublist) hn
 ·rw [mem_grp, ← hns]
  show z ∈ (rdyL l).map (·.nm) ↔ z ∈ ns ∧ z ∉ [] ∧ ∀ e ∈ E, e.1 = z → e.2 ∈ []
  have hl : ∀ i ∈ l, i.np = (need E [] i.nm : Nat) ∧ i.nm ∈ ns := fun i hi => by
   have : (i.nm, i.np, i.su) ∈ absN l := List.mem_map.mpr ⟨i, hi, rfl⟩
   rw [h, mkP_mkQ] at this
   obtain ⟨y, hy, e⟩ := List.mem_map.mp this
   injection e with e1 e2
   injection e2 with e3 _
   rw [← e3, ← e1]
   exact ⟨by simp [stat], hy⟩
  have hz : ∀ z ∈ ns, ∃ i ∈ l, i.nm = z := fun z hz => by
   have : z ∈ (absN l).map (·.1) := by rw [h, mkP_names]; exact hz
   rw [absN_names] at this
   exact List.mem_map.mp this
  rw [List.mem_map]
  constructor
  ·rintro ⟨i, hi, rfl⟩
   obtain ⟨h1, h2⟩ := List.mem_filter.mp hi
   have h2 : i.np = 0 := by simpa using h2
   obtain ⟨h3, h4⟩ := hl i h1
   rw [h2] at h3
   exact ⟨h4, by simp, need_zero.mp (by omega)⟩
  ·rintro ⟨h1, _, h2⟩
   obtain ⟨i, hi, rfl⟩ := hz z h1
   refine ⟨i, List.mem_filter.mpr ⟨hi, ?_⟩, rfl⟩
   have := (hl i hi).1
   rw [need_zero.mpr h2] at this
   simpa using this
theorem RdI.notin (h : RdI F ns E n R P) : ∀ y ∈ R, y ∉ (stp F E n).2 := fun y hy => (mem_grp.mp ((h.mem y).mp hy)).2.1
theorem RdI.out (h : RdI F ns E n R P) (hns : ∀ z, z ∈ ns ↔ z ∈ F) : RdJ F ns E n R [] R [] (pOut P R) := by
 obtain ⟨Dn, h1, h2⟩ := h.dn
 refine ⟨rfl, List.nodup_nil, ⟨Dn, ?_, fun z => by rw [h2]; simp, fun z => ?_⟩⟩
 ·rw [h1, out_mk fun y hy hd => h.notin y hy ((h2 y).mp hd)]
 ·simp only [List.not_mem_nil, false_iff]
  rintro ⟨a, b, c, d⟩
  refine c ((h.mem z).mpr (mem_grp.mpr ⟨(hns z).mp a, fun q => b ((h2 z).mpr q), fun e he hz => (h2 _).mp (need_zero.mp d e he hz)⟩))
theorem RdJ.step {pre rq Rn Rn' : List Str} {P' : List (Str × Int × List Str)} {y : Str} (hR : R.Nodup) (hm : ∀ z, z ∈ R ↔ z ∈ grp F E (stp F E n).2) (hns : ∀ z, z ∈ ns ↔ z ∈ F) (hE : ∀ e ∈ E, e.1 ∈ F ∧ e.2 ∈ F) (h : RdJ F ns E n R pre (y :: rq) Rn P)
  (he : (P', Rn') = pDec (pUpd P y fun q => (-2, q.2)) Rn (succs E y)) : RdJ F ns E n R (pre ++ [y]) rq Rn' P' := by
 obtain ⟨Dn, h1, h2, h3⟩ := h.ex
 have hs := h.split
 have hyR : y ∈ R := by rw [hs]; simp
 have hy := mem_grp.mp ((hm y).mp hyR)
 have hyp : y ∉ pre := fun q => by
  rw [hs] at hR
  exact (List.nodup_append.mp hR).2.2 y q y (by simp) rfl
 have hyD : y ∉ Dn := fun q => ((h2 y).mp q).elim hy.2.1 hyp
 have noS : ∀ e ∈ E, e.2 = y → e.1 ∉ Dn ∧ e.1 ∉ R := fun e he hz => by
  have hR' : e.1 ∉ R := fun q => hy.2.1 (hz ▸ (mem_grp.mp ((hm _).mp q)).2.2 e he rfl)
  refine ⟨fun q => ?_, hR'⟩
  rcases (h2 _).mp q with q | q
  ·obtain ⟨a, b, hab⟩ := List.append_of_mem q
   have := stp_ord (F := F) (E := E) n a e.1 b hab e he rfl
   exact hy.2.1 (by rw [hab, ← hz]; exact List.mem_append_left _ this)
  ·exact hR' (by rw [hs]; exact List.mem_append_left _ q)
 rw [h1, done_mk (fun e he => (hns _).mpr (hE e he).1) hyD hyR noS] at he
 injection he with e1 e2
 subst e1 e2
 refine ⟨by rw [hs]; simp, ?_, ⟨y :: Dn, rfl, fun z => ?_, fun z => ?_⟩⟩
 ·refine List.nodup_append.mpr ⟨h.nd, hits_nodup, fun a ha b hb e => ?_⟩
  subst e
  have q1 := (h3 a).mp ha
  have q2 := (mem_hits_done hyD).mp hb
  omega
 ·rw [List.mem_cons, h2, List.mem_append, List.mem_singleton]
  constructor
  ·rintro (z | z | z) <;> simp [z]
  ·rintro (z | z | z) <;> simp [z]
 ·rw [List.mem_append, h3, mem_hits_done hyD, List.mem_cons]
  have mono : need E Dn z = 0 → need E (y :: Dn) z = 0 := fun q => need_zero.mpr fun e he hz => List.mem_cons_of_mem _ (need_zero.mp q e he hz)
  constructor
  ·rintro (⟨a, b, c, d⟩ | ⟨a, b, c, d, f⟩)
   ·exact ⟨a, fun q => q.elim (fun e => c (e ▸ hyR)) b, c, mono d⟩
   ·refine ⟨?_, fun q => q.elim a b, c, f⟩
    refine Classical.byContradiction fun q => ?_
    have : need E Dn z = 0 := need_zero.mpr fun e he hz => absurd ((hns z).mpr (hz ▸ (hE e he).1)) q
    omega
  ·rintro ⟨a, b, c, d⟩
   by_cases q : need E Dn z = 0
   ·exact .inl ⟨a, fun r => b (.inr r), c, q⟩
   ·exact .inr ⟨fun r => b (.inl r), fun r => b (.inr r), c, by omega, d⟩
theorem RdJ.at {l : List NI} {pre rq Rn : List Str} {i : NI} (hR : R.Nodup) (hm : ∀ z, z ∈ R ↔ z ∈ grp F E (stp F E n).2) (h : RdJ F ns E n R pre (i.nm :: rq) Rn (absN l)) (hi : i ∈ l) : i.np = -1 ∧ i.su = succs E i.nm := by
 obtain ⟨Dn, h1, h2, h3⟩ := h.ex
 have hs := h.split
 have hyR : i.nm ∈ R := by rw [hs]; simp
 have hy := mem_grp.mp ((hm _).mp hyR)
 have hyp : i.nm ∉ pre := fun q => by
  rw [hs] at hR
  exact (List.nodup_append.mp hR).2.2 _ q _ (by simp) rfl
 have hyD : i.nm ∉ Dn := fun q => ((h2 _).mp q).elim hy.2.1 hyp
 have : (i.nm, i.np, i.su) ∈ absN l := List.mem_map.mpr ⟨i, hi, rfl⟩
 rw [h1] at this
 obtain ⟨y, _, e⟩ := List.mem_map.mp this
 injection e with e1 e2
 injection e2 with e3 e4
 subst e1
 exact ⟨by rw [← e3]; simp [stat, hyD, hyR], e4.symm⟩
theorem RdJ.cl {l : List NI} {pre rq Rn : List Str} (hns : ∀ z, z ∈ ns ↔ z ∈ F) (hE : ∀ e ∈ E, e.1 ∈ F ∧ e.2 ∈ F) (h : RdJ F ns E n R pre rq Rn (absN l)) (hn : l.map (·.nm) = ns) : ∀ i ∈ l, ∀ y ∈ i.su, y ∈ l.map (·.nm) := fun i hi y hy => by
 obtain ⟨Dn, h1, _⟩ := h.ex
 have : (i.nm, i.np, i.su) ∈ absN l := List.mem_map.mpr ⟨i, hi, rfl⟩
 rw [h1] at this
 obtain ⟨z, _, e⟩ := List.mem_map.mp this
 injection e with e1 e2
 injection e2 with e3 e4
 rw [← e4, mem_succs] at hy
 rw [hn, hns]; exact (hE _ hy).1
theorem RdJ.len {pre rq Rn : List Str} (h : RdJ F ns E n R pre rq Rn P) : Rn.length ≤ ns.length := by
 obtain ⟨Dn, _, _, h3⟩ := h.ex
 exact nodup_le h.nd fun z hz => ((h3 z).mp hz).1
theorem RdJ.fin {Rn : List Str} (I : RdI F ns E n R P) {P' : List (Str × Int × List Str)} (hns : ∀ z, z ∈ ns ↔ z ∈ F) (hR : R ≠ []) (h : RdJ F ns E n R R [] Rn P') : RdI F ns E (n + 1) Rn P' := by
 obtain ⟨Dn, h1, h2, h3⟩ := h.ex
 have hD : ∀ z, z ∈ Dn ↔ z ∈ (stp F E (n + 1)).2 := fun z => by
  rw [h2]
  show _ ↔ z ∈ (stp F E n).2 ++ grp F E (stp F E n).2
  rw [List.mem_append, I.mem]
 refine ⟨⟨Dn, ?_, hD⟩, h.nd, fun z => ?_, fun k hk => ?_⟩
 ·rw [h1]
  congr 1
  funext y
  unfold stat
  by_cases q : y ∈ Dn
  ·simp [q]
  ·have : y ∉ R := fun r => q ((h2 y).mpr (.inr r))
   simp [q, this]
 ·rw [h3, mem_grp, ← hD, hns]
  constructor
  ·rintro ⟨a, b, _, d⟩
   exact ⟨a, b, fun e he hz => (hD _).mp (need_zero.mp d e he hz)⟩
  ·rintro ⟨a, b, c⟩
   exact ⟨a, b, fun r => b ((h2 z).mpr (.inr r)), need_zero.mpr fun e he hz => (hD _).mpr (c e he hz)⟩
 ·rcases Nat.lt_succ_iff_lt_or_eq.mp hk with hk | rfl
  ·exact I.prev k hk
  ·intro e
   refine hR (List.eq_nil_iff_forall_not_mem.mpr fun z hz => ?_)
   have := (I.mem z).mp hz
   rw [e] at this
   exact (nomatch this)
theorem RdI.len (h : RdI F ns E n R P) (hF : F.Nodup) : (stp F E (n + 1)).2.length = (stp F E n).2.length + R.length := by
 show ((stp F E n).2 ++ grp F E (stp F E n).2).length = _
 rw [List.length_append, ← (show R.Perm (grp F E (stp F E n).2) from nodup_perm h.nd (hF.filter _) h.mem).length_eq]
theorem stp_ge : ∀ {n : Nat}, (∀ k < n, grp F E (stp F E k).2 ≠ []) → n ≤ (stp F E n).2.length
 | 0, _ => Nat.zero_le _
 | n + 1, h => by
  have h1 := stp_ge (n := n) fun k hk => h k (Nat.lt_succ_of_lt hk)
  have h2 := List.length_pos_iff.mpr (h n (Nat.lt_succ_self n))
  show n + 1 ≤ ((stp F E n).2 ++ grp F E (stp F E n).2).length
  rw [List.length_append]; omega
theorem RdI.ends (h : RdI F ns E n [] P) : Ends F E n := ⟨h.prev, List.eq_nil_iff_forall_not_mem.mpr fun z hz => nomatch (h.mem z).mpr hz⟩
end
end Mine
namespace Mine
section
variable {prog : Program} {w : World} {A₀ A : Around} {s : Shared} {base h₀ : Heap} {outer : List Env} {L : Addr} {m : Str → Option Value} {env : Env} {news : List (Addr × Obj)} {K : Frag} {p : Program} {loose : List Str} {mean : ExcName → Option Value} {mg mb : Str → Option Value}
 {R : Result → Shared → Prop} {name qual : Str} {params : Arguments} {body : List Stmt} {scope : Scope} {dV kV doc pm cdv ct oc : Value} {an od : Option Addr} {osl : Array (Option Value)} {f : Addr} {args : Args} {binds : List (Str × Value)}
theorem enterS (B : Below A₀ base outer h₀) (F : Fr h₀ L s.heap m) (X₀ : K.In h₀) (N : News h₀ L s.heap news) (T : Top p loose mean mg mb h₀) (XB : K.In base) (TB : Top p loose mean mg mb base) (D : KtsDicts (outer.filterMap (·.frame)) h₀)
  (hA : A.frames = some (env :: outer)) (hf : env.frame = some L) (hke : env.scope.kind = .function)
  (ho : K.lookup f = some ⟨oc, od, .func (fnOf name qual params body scope dV kV doc pm an cdv ct), osl⟩) (hcd : codeIn K cdv qual = true) (hroom : A.depth < recursionLimit)
  (hbind : BindsTo s (fnOf name qual params body scope dV kV doc pm an cdv ct) args binds) (hloc : ∀ y ∈ binds, scope.names.lookup y.1 = some .local)
  (h : ∀ g L' h₁, Fr h₀ L g m → Fr g L' h₁ (fun y => binds.reverse.lookup y) → News g L' h₁ news → Below A base (env :: outer) g → K.In g → Top p loose mean mg mb g → KtsDicts ((env :: outer).filterMap (·.frame)) g →
   wpAny (model prog w) (A.deeper (envOf qual scope L' f cdv)) (execs body (envOf qual scope L' f cdv))
    (fun fl s' => LeaveS ((env :: outer).filterMap (·.frame)) A₀ base outer K p loose mean mg mb h₀ h₀ L m g R (match fl with | .ret v => v | _ => .none) s')
    (fun e s' => wpAny (model prog w) (A.deeper (envOf qual scope L' f cdv)) (leaving (envOf qual scope L' f cdv) e) (fun _ s'' => R (.error e) s'') (fun e' s'' => R (.error e') s'') s')
    { s with heap := h₁, toks := s.toks + binds.length })
  (hco : scope.isCoroutine = false) (hgen : scope.isGenerator = false) (hk : scope.kind = .function)
  (hcell : ∀ x ∈ scope.names, x.2 ≠ .cell) : codeAny (model prog w) A (.call (.ref f) args) R s := by
 have X := X₀.keeps F.keep
 obtain ⟨FG, BG, st, lv⟩ := groundX (R := R) B F N hA hf hke
 have hfs : (env :: outer).filterMap (·.frame) = L :: outer.filterMap (·.frame) := by rw [List.filterMap_cons, hf]
 refine codeAny_call_def (fd := fnOf name qual params body scope dV kV doc pm an cdv ct) (body := body) (binds := binds) hroom (X _ _ ho) rfl (T.nolimit.keeps F.keep) (codeRec_of X hcd) rfl hbind hcell hloc (fun h₁ hns hk₁ => ?_) hco hgen hk
 refine wpAny_mono (h _ s.heap.objs.size h₁ FG ⟨hns, fun b o e => hk₁ b o (of_hideAll _ e), Nat.le_of_eq (hideAll_size _ _)⟩
  (fun q hq => ⟨hk₁ _ _ (N q hq).1, Nat.ne_of_lt (Heap.lt_size (N q hq).1), hideAll_none _ (List.mem_map_of_mem hq)⟩) BG (X₀.keeps st) (T.keeps st) (fun b hb => ?_)) (fun fl s' hl => ?_) fun _ _ y => y
 ·rw [hfs] at hb
  rcases List.mem_cons.mp hb with rfl | hb
  ·obtain ⟨oL, es, ep, h1, h2, _⟩ := FG.ns
   exact ⟨oL, es, ep, h1, h2⟩
  ·obtain ⟨o, es, ep, h1, h2⟩ := D b hb
   exact ⟨o, es, ep, st b o h1, h2⟩
 ·rcases hl with hl | ⟨g', L', m', news', T', F', N', k⟩
  ·exact lv _ _ hl
  ·rw [hfs] at T'
   obtain ⟨g₁, T₁, F₁, B₁⟩ := turn_up B FG T'
   refine k g₁ T₁ ⟨F₁.ns.at' fun o e => F'.keep L o e, fun b o e => F'.keep b o (F₁.keep b o e), F₁.above⟩ (fun q hq => ⟨(N' q hq).1, fun e => ?_, ?_⟩) B₁ (XB.keeps B₁.stays) (TB.keeps B₁.stays) (D.turn T₁)
   ·obtain ⟨oL, es, ep, h1, _⟩ := F₁.ns
    have := (N' q hq).2.2
    rw [e, h1] at this
    cases this
   ·cases e : g₁.get? q.1 with
    | none => rfl
    | some o =>
     have := F₁.keep _ _ e
     rw [(N' q hq).2.2] at this
     cases this
theorem back_fr {g g' h : Heap} (T : KtsTurn [] g g') (F : Fr g' L h m) : Fr g L h m := ⟨F.ns, fun b o e => F.keep b o (T.other b o e (fun q => nomatch q)), by rw [← T.size]; exact F.above⟩
theorem back_news {g g' h : Heap} (T : KtsTurn [] g g') (N : News g' L h news) : News g L h news := fun q hq => ⟨(N q hq).1, (N q hq).2.1, by
 cases e : g.get? q.1 with
 | none => rfl
 | some o =>
  have := T.other _ _ e (fun q => nomatch q)
  rw [(N q hq).2.2] at this
  cases this⟩
end
end Mine
namespace Mine
open TI
structure LD where
 fl : Str
 ad : Addr
 gs : List (Str × Tok)
 c : Nat
instance : Nonempty LD := ⟨⟨default, 0, [], 0⟩⟩
abbrev LD.ob (i : LD) : Obj := listOf (i.gs.map sV).toArray i.c
def ldsOf (l : List LD) : List (Addr × Obj) := l.map fun i => (i.ad, i.ob)
def ldKvs (l : List LD) : List (Str × Value) := l.map fun i => (i.fl, .ref i.ad)
abbrev lsM (ld fl x rr : Addr) (ring : Bool) (mf mg : Option Value) : Str → Option Value := fun y =>
 if y = Str.ofString "goal" then mg else if y = Str.ofString "file" then mf else if y = Str.ofString "sorter" then some (.ref x) else if y = Str.ofString "ring" then some (.bool ring) else if y = Str.ofString "rounds" then some (.ref rr) else List.lookup y [("leads", .ref ld), ("files", .ref fl)]
theorem lsM_goal {ld fl x rr : Addr} {ring : Bool} {mf mg : Option Value} {v : Value} : (fun y => if y = Str.ofString "goal" then some v else lsM ld fl x rr ring mf mg y) = lsM ld fl x rr ring mf (some v) := by
 funext y
 by_cases e : y = Str.ofString "goal"
 ·subst e; rfl
 ·simp only [lsM, e, if_false]
def gEdges (F : List Str) (f : Str) (gs : List Str) : Edges := (gs.filter fun g => decide (g ∈ F)).map fun g => (f, g)
def edgesOf (F : List Str) (G : Str → List Str) (pre : List Str) : Edges := pre.flatMap fun f => gEdges F f (G f)
theorem edges_snoc {F : List Str} {G : Str → List Str} {pre : List Str} {f : Str} : edgesOf F G (pre ++ [f]) = edgesOf F G pre ++ gEdges F f (G f) := by simp [edgesOf]
theorem gEdges_snoc {F : List Str} {f g : Str} {gs : List Str} : gEdges F f (gs ++ [g]) = gEdges F f gs ++ if g ∈ F then [(f, g)] else [] := by
 unfold gEdges
 rw [List.filter_append, List.map_append]
 by_cases h : g ∈ F <;> simp [h]
structure AddI (F : List Str) (pre ns : List Str) (E E0 : Edges) : Prop where
 sub : ∀ z ∈ ns, z ∈ F
 all : ∀ f ∈ pre, f ∈ ns
 eq : E = E0
 ed : ∀ e ∈ E, e.1 ∈ ns ∧ e.2 ∈ ns
theorem AddI.file {F pre ns : List Str} {E E0 : Edges} {f : Str} (h : AddI F pre ns E E0) (hf : f ∈ F) : AddI F (pre ++ [f]) (ens ns f) E E0 :=
 ⟨fun z hz => (mem_ens.mp hz).elim (h.sub z) fun e => e ▸ hf, fun z hz => by
  rcases List.mem_append.mp hz with hz | hz
  ·exact mem_ens_of (h.all z hz)
  ·rw [List.mem_singleton.mp hz]; exact mem_ens_self _ _, h.eq, fun e he => ⟨mem_ens_of (h.ed e he).1, mem_ens_of (h.ed e he).2⟩⟩
theorem AddI.goal {F pre ns gs : List Str} {E E0 : Edges} {f g : Str} (h : AddI F pre ns E (E0 ++ gEdges F f gs)) (hf : f ∈ F) (hg : g ∈ F) : AddI F pre (ens (ens ns f) g) (E ++ [(f, g)]) (E0 ++ gEdges F f (gs ++ [g])) :=
 ⟨fun z hz => (mem_ens.mp hz).elim (fun hz => (mem_ens.mp hz).elim (h.sub z) fun e => e ▸ hf) fun e => e ▸ hg, fun z hz => mem_ens_of (mem_ens_of (h.all z hz)), by rw [h.eq, gEdges_snoc, if_pos hg, List.append_assoc], fun e he => by
  rcases List.mem_append.mp he with he | he
  ·exact ⟨mem_ens_of (mem_ens_of (h.ed e he).1), mem_ens_of (mem_ens_of (h.ed e he).2)⟩
  ·rw [List.mem_singleton.mp he]; exact ⟨mem_ens_of (mem_ens_self _ _), mem_ens_self _ _⟩⟩
theorem AddI.skip {F pre ns gs : List Str} {E E0 : Edges} {f g : Str} (h : AddI F pre ns E (E0 ++ gEdges F f gs)) (hg : g ∉ F) : AddI F pre ns E (E0 ++ gEdges F f (gs ++ [g])) :=
 ⟨h.sub, h.all, by rw [h.eq, gEdges_snoc, if_neg hg, List.append_nil], h.ed⟩
abbrev lsT (rr fl : Addr) (fp : List (Str × Tok)) (fc : Nat) (ld : Addr) (lo : Obj) (lds : List LD) (rest : List (Addr × Obj)) : List (Addr × Obj) :=
 (rr, listOf #[] 0) :: (fl, listOf (fp.map sV).toArray fc) :: (ld, lo) :: (ldsOf lds ++ rest)
inductive AdP (prog : Program) (w : World) (fl ld x dx d rr : Addr) (τ : SdT) (fp : List (Str × Tok)) (R : List (Addr × Obj)) (G : Str → List Str) (rq : List (Str × Tok)) : (Str → Option Value) → List (Addr × Obj) → Prop
 | mk (mf mg : Option Value) (od : Obj) (l : List NI) (ns : List Str) (E : Edges) (k : Nat) (pre : List Str) (e0 : Sor prog w x dx d od l) (e1 : SApart x dx d l R) (e2 : Small l k) (e3 : absN l = mkP ns E)
  (e4 : AddI (fp.map (·.1)) pre ns E (edgesOf (fp.map (·.1)) G pre)) (e5 : fp.map (·.1) = pre ++ rq.map (·.1)) (e6 : k + 18 * rq.length ≤ 150) :
  AdP prog w fl ld x dx d rr τ fp R G rq (lsM ld fl x rr false mf mg) (head3 x dx d (sD d .none 0 0 τ) 4 od ++ (infosOf l ++ R))
theorem AdP.of {prog : Program} {w : World} {fl ld x dx d rr : Addr} {τ : SdT} {fp : List (Str × Tok)} {R : List (Addr × Obj)} {G : Str → List Str} {rq : List (Str × Tok)} {m m' : Str → Option Value} {news : List (Addr × Obj)} (e : ∀ y, m y = m' y) (h : AdP prog w fl ld x dx d rr τ fp R G rq m' news) : AdP prog w fl ld x dx d rr τ fp R G rq m news := (funext e : m = m') ▸ h
inductive AdQ (prog : Program) (w : World) (fl ld x dx d rr : Addr) (τ : SdT) (F : List Str) (R : List (Addr × Obj)) (pre : List Str) (f : Str) (ft : Tok) (E0 : Edges) (gs : List Str) (kk : Nat) (gq : List (Str × Tok)) : (Str → Option Value) → List (Addr × Obj) → Prop
 | mk (mg : Option Value) (od : Obj) (l : List NI) (ns : List Str) (E : Edges) (k : Nat) (gpre : List Str) (e0 : Sor prog w x dx d od l) (e1 : SApart x dx d l R) (e2 : Small l k) (e3 : absN l = mkP ns E)
  (e4 : AddI F pre ns E (E0 ++ gEdges F f gpre)) (e5 : gs = gpre ++ gq.map (·.1)) (e6 : k + 2 * gq.length ≤ kk) :
  AdQ prog w fl ld x dx d rr τ F R pre f ft E0 gs kk gq (lsM ld fl x rr false (some (.str f ft)) mg) (head3 x dx d (sD d .none 0 0 τ) 4 od ++ (infosOf l ++ R))
theorem AdQ.of {prog : Program} {w : World} {fl ld x dx d rr : Addr} {τ : SdT} {F : List Str} {R : List (Addr × Obj)} {pre : List Str} {f : Str} {ft : Tok} {E0 : Edges} {gs : List Str} {kk : Nat} {gq : List (Str × Tok)} {m m' : Str → Option Value} {news : List (Addr × Obj)} (e : ∀ y, m y = m' y) (h : AdQ prog w fl ld x dx d rr τ F R pre f ft E0 gs kk gq m' news) : AdQ prog w fl ld x dx d rr τ F R pre f ft E0 gs kk gq m news := (funext e : m = m') ▸ h
theorem infos_cls {l : List NI} {q : Addr × Obj} (h : q ∈ infosOf l) : q.2.cls ≠ .type "list_iterator" := by
 obtain ⟨i, _, hq⟩ := List.mem_flatMap.mp h
 simp only [NI.ents, List.mem_cons, List.not_mem_nil, or_false] at hq
 rcases hq with rfl | rfl | rfl <;> simp
theorem off_it {g h : Heap} {L I : Addr} {l : List NI} {io : Obj} {news : List (Addr × Obj)} (N : News g L h news) (hi : (I, io) ∈ news) (hc : io.cls = .type "list_iterator") (hs : ∀ q ∈ infosOf l, q ∈ news) : ∀ q ∈ infosOf l, q.1 ≠ I := fun q hq e => by
 have h1 := (N q (hs q hq)).1
 have h2 := (N _ hi).1
 rw [e, h2] at h1
 exact infos_cls hq (by rw [← Option.some.inj h1]; exact hc)
theorem mid2 {H P I R : List (Addr × Obj)} {q : Addr × Obj} : q ∈ H ++ (P ++ (I ++ R)) ↔ q ∈ H ++ (I ++ (P ++ R)) := by
 simp only [List.mem_append]
 constructor
 ·rintro (h | h | h | h) <;> simp [h]
 ·rintro (h | h | h | h) <;> simp [h]
structure Pk (P Q R S T U : Prop) : Prop where
 a : P
 b : Q
 c : R
 d : S
 e : T
 f : U
structure GL where
 ad : Addr
 gs : List (Str × Tok)
 c : Nat
instance : Nonempty GL := ⟨⟨0, [], 0⟩⟩
abbrev GL.ob (i : GL) : Obj := listOf (i.gs.map sV).toArray i.c
def glsOf (l : List GL) : List (Addr × Obj) := l.map fun i => (i.ad, i.ob)
def glVs (l : List GL) : List Value := l.map fun i => .ref i.ad
def glNs (l : List GL) : List (List Str) := l.map fun i => i.gs.map (·.1)
abbrev lwM (ld fl x rr : Addr) (ring : Bool) (mf mg mG mB mA : Option Value) : Str → Option Value := fun y =>
 if y = Str.ofString "active" then mA else if y = Str.ofString "behind" then mB else if y = Str.ofString "group" then mG else lsM ld fl x rr ring mf mg y
theorem lwM_of {ld fl x rr : Addr} {ring : Bool} {mf mg : Option Value} : lsM ld fl x rr ring mf mg = lwM ld fl x rr ring mf mg none none none := by
 funext y
 by_cases e : y = Str.ofString "active"
 ·subst e; rfl
 ·by_cases e2 : y = Str.ofString "behind"
  ·subst e2; rfl
  ·by_cases e3 : y = Str.ofString "group"
   ·subst e3; rfl
   ·simp only [lwM, e, e2, e3, if_false]
inductive TnP (prog : Program) (w : World) (ld fl x dx d rl rr D Db I : Addr) (ring : Bool) (mgv : Option Value) (rp : List (Str × Tok)) (ro od : Obj) (R : List (Addr × Obj)) (c : Nat) (F ns : List Str) (E : Edges) (n k : Nat) (rq : List (Str × Tok)) : (Str → Option Value) → List (Addr × Obj) → Prop
 | mk (A : Addr) (cA : Nat) (mf : Option Value) (τ : SdT) (l : List NI) (nc : Nat) (rn pre : List (Str × Tok)) (kA : Nat) (e0 : kA = pre.length) (e1 : Sor prog w x dx d od l)
  (e2 : SApart x dx d l ((rl, listOf (rn.map sV).toArray nc) :: (A, listOf (List.replicate kA (.bool true)).toArray cA) :: (D, tupOf (rp.map sV)) :: (rr, ro) :: (Db, tupOf []) :: R)) (e3 : I ∉ x :: dx :: d :: adrsOf l) (e4 : @Ne Nat A I) (e5 : @Ne Nat A rl) (e6 : Small l k) (e7 : l.map (·.nm) = ns)
  (e8 : RdJ F ns E n (rp.map (·.1)) (pre.map (·.1)) (rq.map (·.1)) (rn.map (·.1)) (absN l)) :
  TnP prog w ld fl x dx d rl rr D Db I ring mgv rp ro od R c F ns E n k rq (lwM ld fl x rr ring mf mgv (some (.ref D)) (some (.ref Db)) (some (.ref A)))
   ((A, listOf (List.replicate kA (.bool true)).toArray cA) :: (D, tupOf (rp.map sV)) :: (rr, ro) :: (Db, tupOf []) :: (head3 x dx d (sD d (.ref rl) ((c : Int) + (rp.length : Nat)) ((c : Int) + (kA : Nat)) τ) 4 od ++ (infosOf l ++ ((rl, listOf (rn.map sV).toArray nc) :: R))))
theorem TnP.of {prog : Program} {w : World} {ld fl x dx d rl rr D Db I : Addr} {ring : Bool} {mgv : Option Value} {rp : List (Str × Tok)} {ro od : Obj} {R : List (Addr × Obj)} {c : Nat} {F ns : List Str} {E : Edges} {n k : Nat} {rq : List (Str × Tok)} {m m' : Str → Option Value} {news news' : List (Addr × Obj)} (e : ∀ y, m y = m' y) (h : TnP prog w ld fl x dx d rl rr D Db I ring mgv rp ro od R c F ns E n k rq m' news') (e2 : news = news') : TnP prog w ld fl x dx d rl rr D Db I ring mgv rp ro od R c F ns E n k rq m news := by
 rw [e2, (funext e : m = m')]; exact h
inductive WhP (prog : Program) (w : World) (p : Program) (loose : List Str) (mean : ExcName → Option Value) (mg mb : Str → Option Value) (A₁ : Around) (base : Heap) (ov : List Env) (g1 : Heap) (L1 fl ld x dx d : Addr) (fo : Obj) (lo : Obj) (lds : List LD) (rest : List (Addr × Obj)) (F ns : List Str) (E : Edges) (k : Nat) (s0 : Shared) : Nat → Shared → Prop
 | mk (h : Heap) (tk : Nat) (g2 : Heap) (ring : Bool) (rr rl : Addr) (τ : SdT) (od : Obj) (l : List NI) (n nc rc : Nat) (rp : List (Str × Tok)) (gl : List GL) (mf mgv mG mB mA : Option Value) (c : Nat) (R : List (Addr × Obj)) (ec : c = (stp F E n).2.length) (eR : R = glsOf gl ++ (fl, fo) :: (ld, lo) :: (ldsOf lds ++ rest)) (e0 : KtsTurn (ov.filterMap (·.frame)) g1 g2) (e1 : Fr g2 L1 h (lwM ld fl x rr ring mf mgv mG mB mA))
  (e2 : News g2 L1 h (head3 x dx d (sD d (.ref rl) (c : Nat) (c : Nat) τ) 4 od ++ (infosOf l ++ ((rl, listOf (rp.map sV).toArray nc) :: (rr, listOf (glVs gl).toArray rc) :: R))))
  (e3 : Below A₁ base ov g2) (e4 : (KK w.params).In g2) (e5 : Top p loose mean mg mb g2) (e6 : KtsDicts (ov.filterMap (·.frame)) g2) (e7 : Sor prog w x dx d od l)
  (e8 : SApart x dx d l ((rl, listOf (rp.map sV).toArray nc) :: (rr, listOf (glVs gl).toArray rc) :: R)) (e9 : ∀ q ∈ (rr, listOf (glVs gl).toArray rc) :: R, q.1 ≠ rl)
  (f0 : Small l k) (f1 : l.map (·.nm) = ns) (f2 : RdI F ns E n (rp.map (·.1)) (absN l)) (f3 : glNs gl = (stp F E n).1) (f4 : gl.length = n) (f5 : ∀ n', Ends F E n' → ring = decide ((stp F E n').2.length < F.length)) :
  WhP prog w p loose mean mg mb A₁ base ov g1 L1 fl ld x dx d fo lo lds rest F ns E k s0 (F.length - c) { s0 with heap := h, toks := tk }
theorem lwM_ring {ld fl x rr : Addr} {ring r2 : Bool} {mf mgv mG mB mA : Option Value} : ∀ y, (if y = Str.ofString "ring" then some (.bool r2) else lwM ld fl x rr ring mf mgv mG mB mA y) = lwM ld fl x rr r2 mf mgv mG mB mA y := fun y => by
 by_cases e : y = Str.ofString "ring"
 ·subst e; rfl
 ·simp only [lwM, lsM, e, if_false]
theorem perm_a {H P I R : List (Addr × Obj)} {r q : Addr × Obj} : q ∈ H ++ (I ++ (r :: (P ++ R))) ↔ q ∈ P ++ (H ++ (I ++ (r :: R))) := by
 simp only [List.mem_append, List.mem_cons]
 constructor
 ·rintro (h | h | h | h | h) <;> simp [h]
 ·rintro (h | h | h | h | h) <;> simp [h]
theorem SApart.sub {x dx d : Addr} {l : List NI} {R R' : List (Addr × Obj)} (h : SApart x dx d l R) (hs : ∀ q ∈ R', q ∈ R) : SApart x dx d l R' := fun q hq => h q (hs q hq)
theorem sw2 {a b : Addr × Obj} {R : List (Addr × Obj)} : ∀ q ∈ a :: b :: R, q ∈ b :: a :: R := fun q hq => by
 refine sub_of ?_ hq
 (try dsimp only [List.cons_append, List.nil_append])
 walk_at "sub"
theorem SApart.sw {x dx d : Addr} {l : List NI} {a b : Addr × Obj} {R : List (Addr × Obj)} (h : SApart x dx d l (a :: b :: R)) : SApart x dx d l (b :: a :: R) := fun q hq => h q (sw2 q hq)
theorem SApart.cons_ad {x dx d D : Addr} {o : Obj} {l : List NI} {R : List (Addr × Obj)} (h : SApart x dx d l R) (hD : D ∉ x :: dx :: d :: adrsOf l) : SApart x dx d l ((D, o) :: R) := fun q hq => by
 rcases List.mem_cons.mp hq with rfl | hq
 ·exact hD
 ·exact h q hq
theorem SApart.ins {x dx d D : Addr} {o : Obj} {l : List NI} {r : Addr × Obj} {R : List (Addr × Obj)} (h : SApart x dx d l (r :: R)) (hD : D ∉ x :: dx :: d :: adrsOf l) : SApart x dx d l (r :: (D, o) :: R) := SApart.sw (SApart.cons_ad h hD)
theorem SApart.drop2 {x dx d : Addr} {l : List NI} {a b : Addr × Obj} {R : List (Addr × Obj)} (h : SApart x dx d l (a :: b :: R)) : SApart x dx d l (a :: R) := fun q hq => by
 rcases List.mem_cons.mp hq with rfl | hq
 ·exact h _ (.head _)
 ·exact h q (tl2 hq)
theorem lt_notin {x dx d D : Addr} {l : List NI} (h1 : @LT.lt Nat _ x D) (h2 : @LT.lt Nat _ dx D) (h3 : @LT.lt Nat _ d D) (h : ∀ q ∈ infosOf l, @LT.lt Nat _ q.1 D) : D ∉ x :: dx :: d :: adrsOf l := by
 intro hm
 simp only [List.mem_cons] at hm
 rcases hm with e | e | e | e
 ·rw [e] at h1; exact Nat.lt_irrefl _ h1
 ·rw [e] at h2; exact Nat.lt_irrefl _ h2
 ·rw [e] at h3; exact Nat.lt_irrefl _ h3
 ·rw [← infosOf_keys] at e
  obtain ⟨q, hq, e⟩ := List.mem_map.mp e
  have := h q hq
  rw [e] at this; exact Nat.lt_irrefl _ this
theorem strs_of (rp : List (Str × Tok)) : StrsAre (rp.map sV) (rp.map (·.1)) := by
 induction rp with
 | nil => exact .nil
 | cons p r ih => exact .cons p.1 p.2 ih
theorem off_all {x dx d : Addr} {es : List DictEntry} {n : Nat} {od : Obj} {l : List NI} {R : List (Addr × Obj)} {I : Addr} {io : Obj} (ap : SApart x dx d l ((I, io) :: R)) (hR : ∀ q ∈ R, q.1 ≠ I) :
  ∀ p ∈ head3 x dx d es n od ++ (infosOf l ++ R), p.1 ≠ I := by
 have h := ap (I, io) (.head _)
 simp only [List.mem_cons, not_or] at h
 dsimp only [head3, List.cons_append, List.nil_append]
 exact List.forall_mem_cons.mpr ⟨fun e => h.1 e.symm, List.forall_mem_cons.mpr ⟨fun e => h.2.1 e.symm, List.forall_mem_cons.mpr ⟨fun e => h.2.2.1 e.symm, fun p hp => (List.mem_append.mp hp).elim (fun hp (e : p.1 = I) => h.2.2.2 (e ▸ mem_adrs hp)) (hR p)⟩⟩⟩
theorem any_mem {ys : List Str} {g : Str} : ys.any (· == g) = decide (g ∈ ys) := by
 rw [Bool.eq_iff_iff, List.any_eq_true, decide_eq_true_eq]
 constructor
 ·rintro ⟨y, hy, e⟩
  rw [← eq_of_beq e]; exact hy
 ·exact fun h => ⟨g, h, by simp⟩
abbrev wT (x dx d : Addr) (es : List DictEntry) (od : Obj) (l : List NI) (P : List (Addr × Obj)) (rr fl : Addr) (fp : List (Str × Tok)) (fc : Nat) (ld : Addr) (lo : Obj) (lds : List LD) (rest : List (Addr × Obj)) : List (Addr × Obj) :=
 (x, instObj 137 dx) :: (dx, dictOf es 4) :: (d, od) :: (rr, listOf #[] 0) :: (fl, listOf (fp.map sV).toArray fc) :: (ld, lo) :: (infosOf l ++ (P ++ (ldsOf lds ++ rest)))
theorem to_w {g h : Heap} {L x dx d : Addr} {es : List DictEntry} {od : Obj} {l : List NI} {P : List (Addr × Obj)} {rr fl : Addr} {fp : List (Str × Tok)} {fc : Nat} {ld : Addr} {lo : Obj} {lds : List LD} {rest : List (Addr × Obj)}
  (N : News g L h (head3 x dx d es 4 od ++ (infosOf l ++ (P ++ lsT rr fl fp fc ld lo lds rest)))) : News g L h (wT x dx d es od l P rr fl fp fc ld lo lds rest) := News.perm N fun q hq => by
 refine sub_of ?_ hq
 (try dsimp only [wT, lsT, head3, List.cons_append, List.nil_append])
 walk_at "sub"
theorem of_w {g h : Heap} {L x dx d : Addr} {es : List DictEntry} {od : Obj} {l : List NI} {P : List (Addr × Obj)} {rr fl : Addr} {fp : List (Str × Tok)} {fc : Nat} {ld : Addr} {lo : Obj} {lds : List LD} {rest : List (Addr × Obj)}
  (N : News g L h (wT x dx d es od l P rr fl fp fc ld lo lds rest)) : News g L h (head3 x dx d es 4 od ++ (infosOf l ++ (P ++ lsT rr fl fp fc ld lo lds rest))) := News.perm N fun q hq => by
 refine sub_of ?_ hq
 (try dsimp only [wT, lsT, head3, List.cons_append, List.nil_append])
 walk_at "sub"
theorem cons_mid {H I R : List (Addr × Obj)} {p q : Addr × Obj} : q ∈ H ++ (I ++ (p :: R)) ↔ q ∈ p :: (H ++ (I ++ R)) := by
 simp only [List.mem_append, List.mem_cons]
 constructor
 ·rintro (h | h | h | h) <;> simp [h]
 ·rintro (h | h | h | h) <;> simp [h]
end Mine
namespace Mine
open TI
namespace SM14
def h9s_stops := sT
def h9s_pyIter_ref := sT
def h9s_exec_For_Name_Attribute_cons_nil := sT
def h9s_exec_While := sT
def h9s_exec_While_Call := sT
def h9s_subscriptTail_Name_Name_ref_str := sT
def h9s_compareOp_In_str_ref := sT
def h9s_WhlRest := sT
def h9s_binaryOp_Add_ref_ref := sT
def h9s_compareOp_NotIn_bool_ref := sT
def h9s_call_builtin_sorted := sT
theorem h9r0 : StopRef 87 := trivial
theorem h9r1 : StopRef 92 := trivial
theorem h9r2 : StopRef 99 := trivial
theorem h9r3 : StopRef 106 := trivial
theorem h9r4 : StopRef 120 := trivial
end SM14
open SM14
section
local macro_rules | `(tactic| walk_at "getMethod ref") => `(tactic| (k_here; k_dflt (refine' method_inst ?k1 ?k2 ?k3 ?k4 ?k5 ?k6 ?k7 ?_; (case k1 => k_asm); (case k2 => k_asm); (case k3 => k_inst); (case k4 => k_is); (case k5 => k_is); (case k6 => k_is); (case k7 => k_get); k_whole)))
local macro_rules | `(tactic| walk_at "callWith ref") => `(tactic| (k_here; (with_reducible show wpAny _ _ (callWith _ (Value.ref _) _ (backTo _ (starEach [] _)) []) _ _ _); k_dflt (refine' callWith_K0 ?k1 ?k2 ?_; (case k1 => with_reducible exact Frag.In.keeps (by k_asm) (Fr.keep (by k_asm))); (case k2 => k_is); k_whole)))
section
variable {prog : Program} {w : World} {p : Program} {loose : List Str} {mean : ExcName → Option Value} {mg mb : Str → Option Value}
 {dp un : Nat} {gd : Option (List Code)} {cn : Str} {cs : Scope} {a : Addr} {ccd : Value} {cl : List (Str × Addr)} {outer : List Env} {A₀ : Around} {base h₀ : Heap} {L : Addr} {m : Str → Option Value} {s : Shared} {Q E : Value → Shared → Prop}
def lsort_S {fl ld : Addr} {fp : List (Str × Tok)} {fcp : Nat} {lo : Obj} {lds : List LD} {rest : List (Addr × Obj)} {G : Str → List Str} : Prop := ∀ (B : Below A₀ base outer h₀) (F : Fr h₀ L s.heap m) (X : (KK w.params).In h₀) (N : News h₀ L s.heap ((fl, listOf (fp.map sV).toArray fcp) :: (ld, lo) :: (ldsOf lds ++ rest))) (hlo : lo.IsDictOf (PySem.strKind prog w) (ldKvs lds)) (hll : (ld == sysModules) = false) (hG : ∀ p ∈ fp, ∃ i ∈ lds, valueAt (ldKvs lds) p.1 = some (.ref i.ad) ∧ i.gs.map (·.1) = G p.1) (hG8 : ∀ i ∈ lds, i.gs.length ≤ 8) (hF8 : fp.length ≤ 8) (hFn : (fp.map (·.1)).Nodup) (hFs : (fp.map (·.1)).Pairwise SLt) (T : Top p loose mean mg mb h₀) (hk : cs.kind = .function) (hdp : dp < 346) (hun : un < 270) (XB : (KK w.params).In base) (TB : Top p loose mean mg mb base) (D : KtsDicts (outer.filterMap (·.frame)) h₀) (ret : ∀ (h' : Heap) (tk' : Nat) (h₀' : Heap) (r rr : Addr) (ring : Bool) (rc : Nat) (gl : List GL) (n : Nat), KtsTurn (outer.filterMap (·.frame)) h₀ h₀' → Fr h₀' L h' m → News h₀' L h' ((r, listOf #[.bool ring, .ref rr] 0) :: (rr, listOf (glVs gl).toArray rc) :: (glsOf gl ++ (fl, listOf (fp.map sV).toArray fcp) :: (ld, lo) :: (ldsOf lds ++ rest))) →
     Below A₀ base outer h₀' → (KK w.params).In h₀' → Top p loose mean mg mb h₀' → KtsDicts (outer.filterMap (·.frame)) h₀' → Ends (fp.map (·.1)) (edgesOf (fp.map (·.1)) G (fp.map (·.1))) n → glNs gl = (stp (fp.map (·.1)) (edgesOf (fp.map (·.1)) G (fp.map (·.1))) n).1 →
     ring = decide ((stp (fp.map (·.1)) (edgesOf (fp.map (·.1)) G (fp.map (·.1))) n).2.length < (fp.map (·.1)).length) → Q (.ref r) { s with heap := h', toks := tk' }),
    wpAny (model prog w) (ktrTop dp un gd cn cs L a ccd cl outer) (call (.ref 332) [.ref fl, .ref ld]) Q E s
end
abbrev lsort_u (z9 : St1 × St2 × St3 × St4 × (Addr × Addr × (List (Str × Tok)) × Nat × Obj × (List LD)) × ((List (Addr × Obj)) × (Str → List Str))) : Prop := u2 (u6 (u6 (u6 (u6 (u6 @lsort_S z9.1) z9.2.1) z9.2.2.1) z9.2.2.2.1) z9.2.2.2.2.1) z9.2.2.2.2.2
def lsort_c := eps (by walk_at "ne") lsort_u
namespace Klsort
@[irreducible] def prog := lsort_c.1.1
@[irreducible] def w := lsort_c.1.2.1
@[irreducible] def p := lsort_c.1.2.2.1
@[irreducible] def loose := lsort_c.1.2.2.2.1
@[irreducible] def mean := lsort_c.1.2.2.2.2.1
@[irreducible] def mg := lsort_c.1.2.2.2.2.2
@[irreducible] def mb := lsort_c.2.1.1
@[irreducible] def dp := lsort_c.2.1.2.1
@[irreducible] def un := lsort_c.2.1.2.2.1
@[irreducible] def gd := lsort_c.2.1.2.2.2.1
@[irreducible] def cn := lsort_c.2.1.2.2.2.2.1
@[irreducible] def cs := lsort_c.2.1.2.2.2.2.2
@[irreducible] def a := lsort_c.2.2.1.1
@[irreducible] def ccd := lsort_c.2.2.1.2.1
@[irreducible] def cl := lsort_c.2.2.1.2.2.1
@[irreducible] def outer := lsort_c.2.2.1.2.2.2.1
@[irreducible] def A₀ := lsort_c.2.2.1.2.2.2.2.1
@[irreducible] def base := lsort_c.2.2.1.2.2.2.2.2
@[irreducible] def h₀ := lsort_c.2.2.2.1.1
@[irreducible] def L := lsort_c.2.2.2.1.2.1
@[irreducible] def m := lsort_c.2.2.2.1.2.2.1
@[irreducible] def s := lsort_c.2.2.2.1.2.2.2.1
@[irreducible] def Q := lsort_c.2.2.2.1.2.2.2.2.1
@[irreducible] def E := lsort_c.2.2.2.1.2.2.2.2.2
@[irreducible] def fl := lsort_c.2.2.2.2.1.1
@[irreducible] def ld := lsort_c.2.2.2.2.1.2.1
@[irreducible] def fp := lsort_c.2.2.2.2.1.2.2.1
@[irreducible] def fcp := lsort_c.2.2.2.2.1.2.2.2.1
@[irreducible] def lo := lsort_c.2.2.2.2.1.2.2.2.2.1
@[irreducible] def lds := lsort_c.2.2.2.2.1.2.2.2.2.2
@[irreducible] def rest := lsort_c.2.2.2.2.2.1
@[irreducible] def G := lsort_c.2.2.2.2.2.2
end Klsort
section
open Klsort
def lsw_st : Stg (Heap → Addr → (Flow → Shared → Prop) → (Value → Shared → Prop) → Addr → Addr → Heap → Addr → (Flow → Shared → Prop) → (Value → Shared → Prop) → Addr → Obj → Addr → Addr → Addr → (List NI) → (List Str) → Edges → Nat → Heap → Nat → Heap → Nat → Heap → Bool → Addr → Addr → SdT → Obj → (List NI) → Nat → Nat → Nat → (List GL) → (Option Value) → (Option Value) → (Option Value) → (Option Value) → (Option Value) → Nat → Prop) (fun p9 => ∀ g1 L1 v1lsw v2lsw x dx gz Lz qk ek d od rr Tup I l ns E' k h tk hB tkB g2 ring rr2 rl τ2 od2 l2 n2 nc2 rc2 gl mf2 mg2 mG mB mA c, p9 g1 L1 v1lsw v2lsw x dx gz Lz qk ek d od rr Tup I l ns E' k h tk hB tkB g2 ring rr2 rl τ2 od2 l2 n2 nc2 rc2 gl mf2 mg2 mG mB mA c) (@lsort_S prog w p loose mean mg mb dp un gd cn cs a ccd cl outer A₀ base h₀ L m s Q E fl ld fp fcp lo lds rest G) := by
  refine' Stg.mk _ fun h9lsw => ?hk9
  case hk9 =>
    have e9 : EpsOn := trivial
    unfold lsort_S
    intro B F X N hlo hll hG hG8 hF8 hFn hFs T hk hdp hun XB TB D ret
    refine wpAny_call ?_
    k_dflt (refine' enterS ?k1 ?k2 ?k3 ?k4 ?k5 ?XB ?TB ?D ?kA ?kF ?kK ?k6 ?k7 ?k8 ?k9 ?kB ?_ ?c2 ?c3 ?c4 ?c5; (case kA => exact rfl); (case kF => exact rfl); (case kK => first | assumption | exact rfl); (case k2 => k_asm); (case k1 => k_asm); (case XB => assumption); (case TB => assumption); (case D => assumption); (case k3 => k_asm); (case k4 => k_asm); (case k5 => k_asm); (case k6 => k_is); (case k7 => k_is); (case k8 => ktr_room); (case k9 => exact BindsTo.of_eq rfl); (case kB => exact locs rfl); (case c2 => exact rfl); (case c3 => exact rfl); (case c4 => exact rfl); (case c5 => decide); k_whole)
    intro g1 L1 hh1 FG1 F1 N1 B1 X1 T1 D1
    replace F1 : Fr g1 L1 hh1 (fun y => List.lookup y [("leads", .ref ld), ("files", .ref fl)]) := F1
    (try dsimp only); (try k_fold)
    k_steps
    show wpAny _ _ (pyIter _) _ _ _
    with_reducible rename Obj.IsDictOf (PySem.strKind prog w) _ [] => hod
    with_reducible rename Fr g1 L1 _ _ => FA
    with_reducible rename News g1 L1 _ _ => NA
    with_reducible rename (_ == sysModules) = false => odl
    rename_i x dx h12 lt3 lt2 gz Lz h11 Bz Xz Tz tk1 d h10 od fsz hiz fiz lt4 h9 h8 h7 h6 Fz Nz tkz Tcz kXz rr h5 lt5 Tup h4z lt6 h3z h2z h1z hA
    have lt7 : @LT.lt Nat _ rr Tup ∧ @LT.lt Nat _ d rr ∧ @LT.lt Nat _ x d ∧ @LT.lt Nat _ dx x ∧ @LT.lt Nat _ fl dx ∧ @LT.lt Nat _ ld dx := ⟨lt6.1, lt5.1, lt4.1, lt2, lt3.1, lt3.2.1⟩
    have lt8 : ∀ q ∈ ldsOf lds ++ rest, @LT.lt Nat _ q.1 dx := allLt_all lt3.2.2
    clear fsz hiz fiz lt4 Fz Nz lt5 lt6 lt3
    obtain ⟨τ, kdx⟩ : ∃ τ : SdT, (hA.get? dx = some (dictOf (sD d .none 0 0 τ) 4) ∧ dx ≠ L1 ∧ g1.get? dx = none) :=
      ⟨⟨_, _, _, _, _, _, _, _, _, _⟩, NA _ (tl4 (.head _))⟩
    revert τ
    intro τ kdx
    clear lt2 Bz Xz Tz Tcz kXz
    replace NA : News g1 L1 hA (head3 x dx d (sD d .none 0 0 τ) 4 od ++ ((rr, listOf #[] 0) :: (fl, listOf (fp.map sV).toArray fcp) :: (ld, lo) :: (ldsOf lds ++ rest))) := fun q hq => by
      rcases List.mem_cons.mp hq with rfl | hq
      · exact NA _ (memD 3 (.head _))
      rcases List.mem_cons.mp hq with rfl | hq
      · exact kdx
      exact NA q (sub_of (by walk_at "sub") hq)
    clear kdx
    refine iter_listTurns (lo := listOf (fp.map sV).toArray fcp) (vs := fp.map sV) rfl FA NA (by dsimp only [head3, List.cons_append, List.nil_append]; k_mem) rfl rfl ?_
    intro I lI
    have lII : @LT.lt Nat _ rr I := lI (rr, listOf #[] 0) (by dsimp only [head3, List.cons_append, List.nil_append]; k_mem)
    have lR0 : ∀ q ∈ lsT rr fl fp fcp ld lo lds rest, q.1 ≠ I := fun q hq => Nat.ne_of_lt (lI q (List.mem_append_right _ hq))
    clear lI
    have SS : Sor prog w x dx d od [] := ⟨odl, hod, by
      refine List.nodup_cons.mpr ⟨?_, List.nodup_cons.mpr ⟨?_, List.nodup_cons.mpr ⟨?_, List.nodup_nil⟩⟩⟩ <;> simp only [List.mem_cons, adrsOf_nil, List.not_mem_nil, or_false, not_false_eq_true, not_or]
      · exact ⟨by k_ne, by k_ne⟩
      · k_ne, List.nodup_nil, fun _ h => (nomatch h)⟩
    have ap0 : SApart x dx d [] (lsT rr fl fp fcp ld lo lds rest) := by
      refine SApart.cons (SApart.cons (SApart.cons (fun q hq hm => ?_) (by k_ne) (by k_ne) (by k_ne) (fun _ h => (nomatch h))) (by k_ne) (by k_ne) (by k_ne) (fun _ h => (nomatch h))) (by k_ne) (by k_ne) (by k_ne) (fun _ h => (nomatch h))
      have := lt8 q hq
      simp only [List.mem_cons, adrsOf_nil, List.not_mem_nil, or_false] at hm
      rcases hm with e | e | e <;> rw [e] at this <;> omega
    rw [List.map_map]
    refine items_ind (f := Itm.val ∘ sV) (P := AdP prog w fl ld x dx d rr τ fp (lsT rr fl fp fcp ld lo lds rest) G) ?_ ?_ _ _ _ (AdP.of (m' := lsM ld fl x rr false none none) ?i1 ⟨none, none, od, [], [], [], 0, [], SS, ap0, ⟨Nat.le_refl _, fun _ h => (nomatch h)⟩, rfl, ⟨fun _ h => (nomatch h), fun _ h => (nomatch h), rfl, fun _ h => (nomatch h)⟩, rfl, by omega⟩)
    case i1 =>
      intro y
      by_cases e : y = Str.ofString "goal"
      · subst e; rfl
      · by_cases e2 : y = Str.ofString "file"
        · subst e2; rfl
        · simp only [lsM, e, e2, if_false]
    · clear FA NA SS ap0
      intro m1 news1 W9
      refine AdP.casesOn W9 ?_
      clear W9 m1 news1
      intro mf mgv od' l ns E' k pre S ap sm ab AI hpre hk8
      rw [List.map_nil, List.append_nil] at hpre
      subst hpre
      have hns : l.map (·.nm) = ns := by rw [← absN_names, ab, mkP_names]
      have hcl : ∀ i ∈ l, ∀ y ∈ i.su, y ∈ l.map (·.nm) := fun i hi y hy => by
        rw [su_of ab hi, mem_succs] at hy
        rw [hns]; exact (AI.ed _ hy).1
      (refine ItemsRest.zero ?_; intro h tk FK NK)
      replace NK := to_w (P := []) NK
      dsimp only [wT, List.cons_append, List.nil_append] at NK
      k_steps
      show wpAny _ _ (call (.ref 92) [.ref x]) _ _ _
      have hnsF : ∀ z, z ∈ ns ↔ z ∈ fp.map (·.1) := fun z => ⟨AI.sub z, AI.all z⟩
      have hEF : ∀ e ∈ E', e.1 ∈ fp.map (·.1) ∧ e.2 ∈ fp.map (·.1) := fun e he => ⟨AI.sub _ (AI.ed e he).1, AI.sub _ (AI.ed e he).2⟩
      have hEq := AI.eq
      have hz := RdI.zero hnsF S.names ab
      have hr0 : (rdyL l).map (fun i => Value.str i.nm i.tn) = ((rdyL l).map fun i => (i.nm, i.tn)).map sV := by rw [List.map_map]; rfl
      have hr1 : (rdyL l).map (·.nm) = ((rdyL l).map fun i => (i.nm, i.tn)).map (·.1) := by rw [List.map_map]; rfl
      rw [hr1] at hz
      have Sn := S.names
      have kp : Pk _ _ _ _ _ _ := ⟨B1, FK, X1, NK, S, T1⟩
      clear B1 FK X1 NK S T1
      refine' use3 (I := fun ss => ∃ Nm, WhP prog w p loose mean mg mb (ktrTop dp un gd cn cs L a ccd cl outer) base (envX cn cs L a ccd cl :: outer) g1 L1 fl ld x dx d (listOf (fp.map sV).toArray fcp) lo lds rest (fp.map (·.1)) ns E' k { s with heap := h, toks := tk } Nm ss) ?main ?iw
      case main =>
       intro hw
       refine prep (n := 4) (rest := lsT rr fl fp fcp ld lo lds rest) kp.a kp.b kp.c (of_w (P := []) kp.d) kp.e ap sm (by omega) hcl kp.f rfl (Nat.lt_trans (Nat.succ_lt_succ hdp) (by decide)) (unlt hun (by decide)) XB TB D1 ?retN ?retX
       case retN =>
        intro h' tk' h₀' D2 nc kT kF kN kB kX kP kD ap2 ap3 ⟨fin, hf1, hf2, hf3⟩
        k_steps
        show wpAny _ _ (exec (Stmt.While _ _ _ _) _) _ _ _
        refine whl_start 0 ?_
        refine hw _ ⟨_, .mk _ _ h₀' false rr D2 τ od' l 0 nc 0 ((rdyL l).map fun i => (i.nm, i.tn)) [] mf mgv none none none 0 _ rfl rfl kT (lwM_of ▸ kF) (hr0 ▸ kN) kB kX kP kD kp.e (hr0 ▸ ap2) ap3 sm hns hz rfl rfl fun n' hn' => ?r1⟩
        case r1 =>
          exact (ring_no hFn hEF hn' hf1 (topo_E ab hf2) fun z hz => by
            rw [← hnsF, ← hns] at hz
            obtain ⟨i, hi, rfl⟩ := List.mem_map.mp hz
            exact hf3 i hi).symm
       case retX =>
        intro h' tk' h₀' G e t vs D2 nc kT kF R hU kB kX kP kD ap2 ap3 ⟨Cy, hC⟩
        k_steps
        show wpAny _ _ (exec (Stmt.While _ _ _ _) _) _ _ _
        rename_i h9 g3 n3 T3 G3 K3 X3 P3 D3 h3 F3 N3
        refine whl_start 0 ?_
        refine hw _ ⟨_, .mk _ _ g3 true rr D2 τ od' l 0 nc 0 ((rdyL l).map fun i => (i.nm, i.tn)) [] mf mgv none none none 0 _ rfl rfl T3 (fr_map F3 ?f1) (hr0 ▸ N3) K3 X3 P3 D3 kp.e (hr0 ▸ ap2) ap3 sm hns hz rfl rfl fun n' hn' => ?r1⟩
        case f1 => exact fun y => by rw [lwM_of]; exact lwM_ring y
        case r1 => exact (ring_yes hFn hEF hC.1 (cyc_E ab hC)).symm
      case iw =>
        intro ss W0
        obtain ⟨Nm, W0⟩ := W0
        revert Nm
        intro Nm W0
        refine whl_ind (I := WhP prog w p loose mean mg mb (ktrTop dp un gd cn cs L a ccd cl outer) base (envX cn cs L a ccd cl :: outer) g1 L1 fl ld x dx d (listOf (fp.map sV).toArray fcp) lo lds rest (fp.map (·.1)) ns E' k { s with heap := h, toks := tk }) ?hE ?step Nm W0
        case hE => first | passes_own | with_unfolding_all passes_own
        case step =>
          clear kp W0 ap ab hcl AI hz hr0 hr1 Sn hns
          intro Nm ss W9
          refine WhP.casesOn W9 ?_
          clear W9 Nm ss
          intro hB tkB g2 ring rr2 rl τ2 od2 l2 n2 nc2 rc2 rp gl mf2 mg2 mG mB mA c R ec hR kT FK NK B2 X2 T2 D2 S2 ap2 hrl sm2 hn2 RI hgl hgn hring ih
          rename_i v1lsw v2lsw v3lsw v4lsw v5lsw v6lsw
          revert B F X N hlo hll hG hG8 hF8 hFn hFs T hk hdp hun XB TB D ret FG1 D1 v3lsw v4lsw hq9 he9 odl hod lt7 lt8 lII lR0 sm hk8 hnsF hEF hEq rp R ec hR kT FK NK B2 X2 T2 D2 S2 ap2 hrl sm2 hn2 RI hgl hgn hring ih
          exact h9lsw g1 L1 v1lsw v2lsw x dx gz Lz qk ek d od rr Tup I l ns E' k h tk hB tkB g2 ring rr2 rl τ2 od2 l2 n2 nc2 rc2 gl mf2 mg2 mG mB mA c
    ·
      clear FA NA SS ap0
      intro p0 rq m1 news1 W9 ih
      refine AdP.casesOn W9 ?_
      clear W9 m1 news1
      intro mf mgv od' l ns E' k pre S ap sm ab AI hpre hk8
      obtain ⟨f0, ft⟩ := p0
      revert f0 ft
      intro f0 ft
      walk_at "hi"
      have hf1 : f0 ∈ fp.map (·.1) := by rw [hpre]; simp
      obtain ⟨i, hi, hz, hgi⟩ : ∃ i ∈ lds, valueAt (ldKvs lds) f0 = some (.ref i.ad) ∧ i.gs.map (·.1) = G f0 := by
        obtain ⟨p, hp, e⟩ := List.mem_map.mp hf1
        walk_at "hide"
        obtain ⟨i, q1, q2, q3⟩ := hG p hp
        walk_at "unhide"
        rw [e] at q2 q3
        exact ⟨i, q1, q2, q3⟩
      revert i
      intro i
      walk_at "hi"
      have hgl := hG8 i hi
      (refine ItemsRest.val1 ?_; intro h tk io hio FK NK)
      have oI := off_it (l := l) NK (.head _) hio (fun q hq => .tail _ (List.mem_append_right _ (List.mem_append_left _ hq)))
      have apI : SApart x dx d l ((I, io) :: lsT rr fl fp fcp ld lo lds rest) := ap.cons (by k_ne) (by k_ne) (by k_ne) oI
      replace NK := to_w (P := [(I, io)]) (News.perm NK fun q hq => cons_mid.mp hq)
      dsimp only [wT, List.cons_append, List.nil_append] at NK
      k_steps
      show wpAny _ _ (call (.ref 87) [.ref x, .str f0 ft]) _ _ _
      with_reducible rename Fr g1 L1 _ _ => FB
      with_reducible rename News g1 L1 _ _ => NB
      refine add1 (n := 4) (rest := [(I, io)] ++ lsT rr fl fp fcp ld lo lds rest) B1 FB X1 (of_w NB) S apI sm (by omega) T1 rfl (Nat.lt_trans (Nat.succ_lt_succ hdp) (by decide)) (unlt hun (by decide)) ?_
      intro h3' tk3 l3 od3 F3 N3 S3 ap3 sm3 ab3
      rw [ab, pEns_mk AI.ed] at ab3
      have AI3 := AI.file hf1
      clear FB NB S sm ab AI oI apI
      replace N3 := to_w (P := [(I, io)]) N3
      dsimp only [wT, List.cons_append, List.nil_append] at N3
      k_steps
      show wpAny _ _ (subscriptTail _ _ (.ref ld) (.str f0 ft)) _ _ _
      refine kda_item (knd := PySem.strKind _ _) (by k_asm) (by k_mem) hlo (strKind_is _ _ _ _) hz ?_
      k_steps
      show wpAny _ _ (pyIter _) _ _ _
      with_reducible rename Fr g1 L1 _ _ => FB
      with_reducible rename News g1 L1 _ _ => NB
      have NB2 := of_w (P := [(I, io)]) NB
      clear NB
      have hiL : (i.ad, i.ob) ∈ ldsOf lds := List.mem_map.mpr ⟨i, hi, rfl⟩
      refine iter_listTurns (lo := i.ob) (vs := i.gs.map sV) rfl FB NB2 (List.mem_append_right _ (List.mem_append_right _ (memD 4 (List.mem_append_left _ hiL)))) rfl rfl ?_
      intro I2 lI2
      have lR : ∀ q ∈ [(I, io)] ++ lsT rr fl fp fcp ld lo lds rest, q.1 ≠ I2 := fun q hq => Nat.ne_of_lt (lI2 q (List.mem_append_right _ (List.mem_append_right _ hq)))
      have lx : @LT.lt Nat _ x I2 := lI2 (x, instObj 137 dx) (.head _)
      have ldx : @LT.lt Nat _ dx I2 := lI2 _ (.tail _ (.head _))
      have ld' : @LT.lt Nat _ d I2 := lI2 _ (tl2 (.head _))
      clear lI2
      have mKeep : ∀ {od5 : Obj} (l5 : List NI), (i.ad, i.ob) ∈ head3 x dx d (sD d .none 0 0 τ) 4 od5 ++ (infosOf l5 ++ ([(I, io)] ++ lsT rr fl fp fcp ld lo lds rest)) := fun _ => List.mem_append_right _ (List.mem_append_right _ (memD 4 (List.mem_append_left _ hiL)))
      rw [List.map_map]
      refine items_ind (f := Itm.val ∘ sV) (P := AdQ prog w fl ld x dx d rr τ (fp.map (·.1)) ([(I, io)] ++ lsT rr fl fp fcp ld lo lds rest) (pre ++ [f0]) f0 ft (edgesOf (fp.map (·.1)) G pre) (i.gs.map (·.1)) (k + 2 + 2 * i.gs.length)) ?_ ?_ _ _ _ (AdQ.of (m' := lsM ld fl x rr false (some (.str f0 ft)) mgv) ?j1 ⟨mgv, od3, l3, _, E', k + 2, [], S3, ap3, sm3, ab3, ?j2, rfl, by omega⟩)
      case j1 =>
        intro y
        by_cases e : y = Str.ofString "goal"
        · subst e; rfl
        · by_cases e2 : y = Str.ofString "file"
          · subst e2; rfl
          · simp only [lsM, e, e2, if_false]
      case j2 => rw [show gEdges (fp.map (·.1)) f0 [] = [] from rfl, List.append_nil]; exact AI3
      · clear FB NB2 S3 ap3 sm3 ab3 AI3
        intro m2 news2 W9
        refine AdQ.casesOn W9 ?_
        clear W9 m2 news2
        intro mg2 od4 l4 ns4 E4 k4 gpre S4 ap4 sm4 ab4 AI4 hgp hk4
        (refine ItemsRest.zero ?_; intro h tk FK NK)
        k_steps
        show UnrEndW _ _ _ _ _ _
        refine unrEnd1 (news' := head3 x dx d (sD d .none 0 0 τ) 4 od4 ++ (infosOf l4 ++ lsT rr fl fp fcp ld lo lds rest)) FK (News.perm NK (fun q hq => cons_mid.mpr hq)) (off_all ap4 lR0) ⟨⟨List.mem_append_right _ (List.mem_append_right _ (.tail _ (.head _))), trivial⟩, ih _ _ ⟨_, _, od4, l4, _, _, k4, pre ++ [f0], S4, fun q hq => ap4 q (.tail _ hq), sm4, ab4, ?k3, ?k4, ?k5⟩⟩
        case k3 =>
          have e : gpre = G f0 := by rw [← hgi, hgp]; simp
          rw [edges_snoc, ← e]; exact AI4
        case k4 => rw [hpre]; simp
        case k5 =>
          simp only [List.length_cons, List.length_nil] at hk4 hk8
          omega
      · clear FB NB2 S3 ap3 sm3 ab3 AI3
        intro p0 gq m2 news2 W9 ih2
        refine AdQ.casesOn W9 ?_
        clear W9 m2 news2
        intro mg2 od4 l4 ns4 E4 k4 gpre S4 ap4 sm4 ab4 AI4 hgp hk4
        obtain ⟨g0, gt⟩ := p0
        revert g0 gt
        intro g0 gt
        walk_at "hi"
        (refine ItemsRest.val1 ?_; intro h tk io2 hio2 FK NK)
        have oI2 := off_it (l := l4) NK (.head _) hio2 (fun q hq => .tail _ (List.mem_append_right _ (List.mem_append_left _ hq)))
        have apI2 : SApart x dx d l4 ((I2, io2) :: ([(I, io)] ++ lsT rr fl fp fcp ld lo lds rest)) := ap4.cons (by k_ne) (by k_ne) (by k_ne) oI2
        replace NK := to_w (P := [(I2, io2), (I, io)]) (News.perm NK fun q hq => cons_mid.mp hq)
        dsimp only [wT, List.cons_append, List.nil_append] at NK
        k_steps
        show wpAny _ _ (compareOp .In (.str g0 gt) (.ref fl)) _ _ _
        refine in_list_strs (vs := fp.map sV) (ys := fp.map (·.1)) (by kmk_list) (strs_of fp) ?_
        rw [any_mem]
        by_cases hin : g0 ∈ fp.map (·.1)
        · rw [decide_eq_true hin]
          k_steps
          show wpAny _ _ (call (.ref 87) [.ref x, .str f0 ft, .str g0 gt]) _ _ _
          with_reducible rename Fr g1 L1 _ _ => FB
          with_reducible rename News g1 L1 _ _ => NB
          simp only [List.length_cons] at hk4 hk8
          refine add2 (n := 4) (rest := [(I2, io2), (I, io)] ++ lsT rr fl fp fcp ld lo lds rest) B1 FB X1 (of_w (P := [(I2, io2), (I, io)]) NB) S4 apI2 sm4 (by omega) T1 rfl (Nat.lt_trans (Nat.succ_lt_succ hdp) (by decide)) (unlt hun (by decide)) ?_
          intro h5 tk5 l5 od5 F5 N5 S5 ap5 sm5 ab5
          rw [ab4, pAdd2_mk AI4.ed] at ab5
          clear FB NB S4 sm4 ab4 oI2 apI2
          replace N5 := to_w (P := [(I2, io2), (I, io)]) N5
          dsimp only [wT, List.cons_append, List.nil_append] at N5
          k_steps
          show UnrEndW _ _ _ _ _ _
          with_reducible rename Fr g1 L1 _ _ => FC
          with_reducible rename News g1 L1 _ _ => NC
          refine unrEnd1 (news' := head3 x dx d (sD d .none 0 0 τ) 4 od5 ++ (infosOf l5 ++ ([(I, io)] ++ lsT rr fl fp fcp ld lo lds rest))) FC (News.perm (of_w (P := [(I2, io2), (I, io)]) NC) (fun q hq => cons_mid.mpr hq)) (off_all ap5 lR) ⟨⟨mKeep _, trivial⟩, ih2 _ _ (AdQ.of (m' := lsM ld fl x rr false (some (.str f0 ft)) (some (.str g0 gt))) (fun y => congrFun lsM_goal y) ⟨some (.str g0 gt), od5, l5, _, _, k4 + 2, gpre ++ [g0], S5, fun q hq => ap5 q (.tail _ hq), sm5, ab5, AI4.goal hf1 hin, ?k2, by omega⟩)⟩
          case k2 => rw [hgp]; simp
        · rw [decide_eq_false hin]
          k_steps
          show UnrEndW _ _ _ _ _ _
          with_reducible rename Fr g1 L1 _ _ => FC
          with_reducible rename News g1 L1 _ _ => NC
          simp only [List.length_cons] at hk4 hk8
          refine unrEnd1 (news' := head3 x dx d (sD d .none 0 0 τ) 4 od4 ++ (infosOf l4 ++ ([(I, io)] ++ lsT rr fl fp fcp ld lo lds rest))) FC (News.perm (of_w (P := [(I2, io2), (I, io)]) NC) (fun q hq => cons_mid.mpr hq)) (off_all apI2 lR) ⟨⟨mKeep _, trivial⟩, ih2 _ _ (AdQ.of (m' := lsM ld fl x rr false (some (.str f0 ft)) (some (.str g0 gt))) (fun y => congrFun lsM_goal y) ⟨some (.str g0 gt), od4, l4, _, _, k4, gpre ++ [g0], S4, ap4, sm4, ab4, AI4.skip hin, ?k2, by omega⟩)⟩
          case k2 => rw [hgp]; simp
@[irreducible] def lsw_S := lsw_st.p
theorem lsw_eq : lsw_S = lsw_st.p := by unfold lsw_S; rfl
abbrev lsw_u (z9 : (Heap × Addr × (Flow → Shared → Prop) × (Value → Shared → Prop) × Addr × Addr) × (Heap × Addr × (Flow → Shared → Prop) × (Value → Shared → Prop) × Addr × Obj) × (Addr × Addr × Addr × (List NI) × (List Str) × Edges) × (Nat × Heap × Nat × Heap × Nat × Heap) × (Bool × Addr × Addr × SdT × Obj × (List NI)) × (Nat × Nat × Nat × (List GL) × (Option Value) × (Option Value)) × ((Option Value) × (Option Value) × (Option Value) × Nat)) : Prop := u4 (u6 (u6 (u6 (u6 (u6 (u6 lsw_S z9.1) z9.2.1) z9.2.2.1) z9.2.2.2.1) z9.2.2.2.2.1) z9.2.2.2.2.2.1) z9.2.2.2.2.2.2
def lsw_c := eps (by walk_at "ne") lsw_u
namespace Klsw
@[irreducible] def g1 := lsw_c.1.1
@[irreducible] def L1 := lsw_c.1.2.1
@[irreducible] def v1lsw := lsw_c.1.2.2.1
@[irreducible] def v2lsw := lsw_c.1.2.2.2.1
@[irreducible] def x := lsw_c.1.2.2.2.2.1
@[irreducible] def dx := lsw_c.1.2.2.2.2.2
@[irreducible] def gz := lsw_c.2.1.1
@[irreducible] def Lz := lsw_c.2.1.2.1
@[irreducible] def qk := lsw_c.2.1.2.2.1
@[irreducible] def ek := lsw_c.2.1.2.2.2.1
@[irreducible] def d := lsw_c.2.1.2.2.2.2.1
@[irreducible] def od := lsw_c.2.1.2.2.2.2.2
@[irreducible] def rr := lsw_c.2.2.1.1
@[irreducible] def Tup := lsw_c.2.2.1.2.1
@[irreducible] def I := lsw_c.2.2.1.2.2.1
@[irreducible] def l := lsw_c.2.2.1.2.2.2.1
@[irreducible] def ns := lsw_c.2.2.1.2.2.2.2.1
@[irreducible] def E' := lsw_c.2.2.1.2.2.2.2.2
@[irreducible] def k := lsw_c.2.2.2.1.1
@[irreducible] def h := lsw_c.2.2.2.1.2.1
@[irreducible] def tk := lsw_c.2.2.2.1.2.2.1
@[irreducible] def hB := lsw_c.2.2.2.1.2.2.2.1
@[irreducible] def tkB := lsw_c.2.2.2.1.2.2.2.2.1
@[irreducible] def g2 := lsw_c.2.2.2.1.2.2.2.2.2
@[irreducible] def ring := lsw_c.2.2.2.2.1.1
@[irreducible] def rr2 := lsw_c.2.2.2.2.1.2.1
@[irreducible] def rl := lsw_c.2.2.2.2.1.2.2.1
@[irreducible] def τ2 := lsw_c.2.2.2.2.1.2.2.2.1
@[irreducible] def od2 := lsw_c.2.2.2.2.1.2.2.2.2.1
@[irreducible] def l2 := lsw_c.2.2.2.2.1.2.2.2.2.2
@[irreducible] def n2 := lsw_c.2.2.2.2.2.1.1
@[irreducible] def nc2 := lsw_c.2.2.2.2.2.1.2.1
@[irreducible] def rc2 := lsw_c.2.2.2.2.2.1.2.2.1
@[irreducible] def gl := lsw_c.2.2.2.2.2.1.2.2.2.1
@[irreducible] def mf2 := lsw_c.2.2.2.2.2.1.2.2.2.2.1
@[irreducible] def mg2 := lsw_c.2.2.2.2.2.1.2.2.2.2.2
@[irreducible] def mG := lsw_c.2.2.2.2.2.2.1
@[irreducible] def mB := lsw_c.2.2.2.2.2.2.2.1
@[irreducible] def mA := lsw_c.2.2.2.2.2.2.2.2.1
@[irreducible] def c := lsw_c.2.2.2.2.2.2.2.2.2
end Klsw
end
section
open Klsort
open Klsw
def lsn_st : Stg2 ((List (Addr × Obj)) → (Bool → Shared → Prop) → (Value → Shared → Prop) → (Str × Tok) → (List (Str × Tok)) → (List NI) → Addr → Nat → (List NI) → Addr → Nat → Addr → Heap → Nat → Addr → Prop) ((List (Addr × Obj)) → (Bool → Shared → Prop) → (Value → Shared → Prop) → (Str × Tok) → (List (Str × Tok)) → (List NI) → Addr → Nat → (List NI) → Addr → Nat → Addr → Heap → Nat → Addr → Prop) (fun p9 => ∀ R qk ek p0 rp l4 D nc4 l5 Db nc5 A0 hG tk I, p9 R qk ek p0 rp l4 D nc4 l5 Db nc5 A0 hG tk I) (fun p9 => ∀ R qk ek p0 rp l4 D nc4 l5 Db nc5 A0 hG tk I, p9 R qk ek p0 rp l4 D nc4 l5 Db nc5 A0 hG tk I) (lsw_S Klsw.g1 Klsw.L1 Klsw.v1lsw Klsw.v2lsw Klsw.x Klsw.dx Klsw.gz Klsw.Lz Klsw.qk Klsw.ek Klsw.d Klsw.od Klsw.rr Klsw.Tup Klsw.I Klsw.l Klsw.ns Klsw.E' Klsw.k Klsw.h Klsw.tk Klsw.hB Klsw.tkB Klsw.g2 Klsw.ring Klsw.rr2 Klsw.rl Klsw.τ2 Klsw.od2 Klsw.l2 Klsw.n2 Klsw.nc2 Klsw.rc2 Klsw.gl Klsw.mf2 Klsw.mg2 Klsw.mG Klsw.mB Klsw.mA Klsw.c) := by
 refine' Stg2.mk _ _ fun h9lsn h9lss => ?hk9
 case hk9 =>
  have e9 : EpsOn := trivial
  unfold lsw_S lsw_st
  dsimp only
  intro B F X N hlo hll hG hG8 hF8 hFn hFs T hk hdp hun XB TB D ret FG1 D1 v3lsw v4lsw hq9 he9 odl hod lt7 lt8 lII lR0 sm hk8 hnsF hEF hEq rp R ec hR kT FK NK B2 X2 T2 D2 S2 ap2 hrl sm2 hn2 RI hgl hgn hring ih
  (try k_fold)
  have lenR : c + rp.length ≤ 8 := by
   have q1 := RI.len hFn
   have q2 := nodup_le (stp_nodup (E := E') hFn (n2 + 1)) (stp_sub (n2 + 1))
   rw [List.length_map] at q1 q2
   omega
  dsimp only [head3, List.cons_append, List.nil_append] at NK
  k_steps
  show wpAny _ _ (call (.ref 106) [.ref x]) _ _ _
  refine isact (n := 4) (nc := nc2) (rvs := rp.map sV) (rest := (rr2, listOf (glVs gl).toArray rc2) :: R) B2 FK X2 NK S2 ap2 ?len T2 rfl (Nat.lt_trans (Nat.succ_lt_succ hdp) (by decide)) (unlt hun (by decide)) ?_
  case len => rw [List.length_map]; omega
  intro h3 tk3 F3 N3
  cases rp with
  | nil =>
   rw [show (decide ((c : Int) < (c : Nat)) || !(List.map sV []).isEmpty) = false from by rw [decide_eq_false (Int.lt_irrefl _)]; rfl]
   k_steps
   rename_i r hr Fr' Nr' l1 kg kT2 kF kN kB kX0 kP kD kX
   subst hR
   exact ret _ _ kg r rr2 ring rc2 gl n2 kT2 kF (fun q hq => kN q (by
    refine sub_of ?_ hq
    (try dsimp only [head3, List.cons_append, List.nil_append])
    walk_at "sub")) kB kX0 kP kD (hEq ▸ RI.ends) (hEq ▸ hgl) (hEq ▸ hring n2 RI.ends)
  | cons p0 rp =>
   revert p0 rp
   intro p0 rp
   walk_at "hi"
   rw [show (decide ((c : Int) < (c : Nat)) || !(List.map sV (p0 :: rp)).isEmpty) = true from by rw [decide_eq_false (Int.lt_irrefl _)]; rfl]
   clear NK FK
   dsimp only [head3, List.cons_append, List.nil_append] at N3
   k_steps
   show wpAny _ _ (call (.ref 99) [.ref x]) _ _ _
   refine getrdy (n := 4) (nc := nc2) (rp := p0 :: rp) (rest := (rr2, listOf (glVs gl).toArray rc2) :: R) B2 F3 X2 N3 S2 ap2 hrl (by omega) ?hrn sm2 (by omega) T2 rfl (Nat.lt_trans (Nat.succ_lt_succ hdp) (by decide)) (unlt hun (by decide)) ?_
   case hrn =>
    intro q hq
    rw [hn2, hnsF]
    exact (mem_grp.mp ((RI.mem q.1).mp (List.mem_map_of_mem hq))).1
   intro h4' tk4 τ4 l4 D nc4 F4 N4 S4 ap4 hD hDrl sm4 ab4 hn4
   dsimp only [head3, List.cons_append, List.nil_append] at N4
   clear N3 F3 S2
   k_steps
   show wpAny _ _ (call (.ref 99) [.ref x]) _ _ _
   have RJ := RI.out hnsF
   rw [← ab4] at RJ
   refine getrdy (n := 4) (nc := nc4) (rp := []) (rest := (D, tupOf ((p0 :: rp).map sV)) :: (rr2, listOf (glVs gl).toArray rc2) :: R) B2 F4 X2 (News.perm N4 fun q hq => (perm_a (P := [(D, tupOf ((p0 :: rp).map sV))])).mp hq) S4 (SApart.sw ap4) ?hrl2 (Nat.zero_le _) (fun _ h => (nomatch h)) sm4 (by omega) T2 rfl (Nat.lt_trans (Nat.succ_lt_succ hdp) (by decide)) (unlt hun (by decide)) ?_
   case hrl2 =>
    intro q hq
    rcases List.mem_cons.mp hq with rfl | hq
    ·exact hDrl
    ·exact hrl q hq
   intro h5 tk5 τ5 l5 Db nc5 F5 N5 S5 ap5 hDb hDbrl sm5 ab5 hn5
   rw [List.map_nil, pOut] at ab5
   rw [← ab5] at RJ
   rw [hn4] at hn5
   have lenD : @Ne Nat D Db := hDb (D, tupOf ((p0 :: rp).map sV)) (.head _)
   rw [show ((c : Int) + ((p0 :: rp).length : Nat) + (([] : List (Str × Tok)).length : Nat)) = (c : Int) + ((p0 :: rp).length : Nat) from Int.add_zero _] at N5
   replace N5 : News g2 L1 h5 ((D, tupOf ((p0 :: rp).map sV)) :: (rr2, listOf (glVs gl).toArray rc2) :: (Db, tupOf []) :: (x, instObj 137 dx) :: (dx, dictOf (sD d (.ref rl) ((c : Int) + ((p0 :: rp).length : Nat)) (c : Nat) τ5) 4) :: (d, od2) :: (infosOf l5 ++ ((rl, listOf #[] nc5) :: R))) := fun q hq => N5 q (sub_of (by dsimp only [head3, List.map_nil, List.cons_append, List.nil_append]; walk_at "sub") hq)
   clear N4 F4 S4
   k_steps
   show wpAny _ _ (pyIter (.ref D)) _ _ _
   rename_i A0 hz1 lA0 Tu hz2 lTu hz3 hz4 hz5 hG FG NG
   have lAx : ∀ q ∈ infosOf l5 ++ ((rl, listOf #[] nc5) :: R), @LT.lt Nat _ q.1 A0 := allLt_all lA0.2.2.2.2.2.2
   replace NG : News g2 L1 hG ((A0, listOf (List.replicate 0 (.bool true)).toArray 0) :: (D, tupOf ((p0 :: rp).map sV)) :: (rr2, listOf (glVs gl).toArray rc2) :: (Db, tupOf []) :: (head3 x dx d (sD d (.ref rl) ((c : Int) + ((p0 :: rp).length : Nat)) (c : Nat) τ5) 4 od2 ++ (infosOf l5 ++ ((rl, listOf (([] : List (Str × Tok)).map sV).toArray nc5) :: R)))) := fun q hq => NG q (.tail _ hq)
   refine iter_tupTurns (lo := tupOf ((p0 :: rp).map sV)) (vs := (p0 :: rp).map sV) rfl FG NG (.tail _ (.head _)) rfl rfl ?_
   intro I lI
   have lIA : @LT.lt Nat _ A0 I := lI _ (.head _)
   clear lI
   have lIx : ∀ q ∈ infosOf l5 ++ ((rl, listOf #[] nc5) :: R), @LT.lt Nat _ q.1 I := fun q hq => Nat.lt_trans (lAx q hq) lIA
   have lIR : ∀ q ∈ (D, tupOf ((p0 :: rp).map sV)) :: (rr2, listOf (glVs gl).toArray rc2) :: (Db, tupOf []) :: R, q.1 ≠ I := List.forall_mem_cons.mpr ⟨Nat.ne_of_lt (Nat.lt_trans lA0.1 lIA), List.forall_mem_cons.mpr ⟨Nat.ne_of_lt (Nat.lt_trans lA0.2.1 lIA), List.forall_mem_cons.mpr ⟨Nat.ne_of_lt (Nat.lt_trans lA0.2.2.1 lIA), fun q hq => Nat.ne_of_lt (lIx q (List.mem_append_right _ (.tail _ hq)))⟩⟩⟩
   have hrlR : ∀ q ∈ (D, tupOf ((p0 :: rp).map sV)) :: (rr2, listOf (glVs gl).toArray rc2) :: (Db, tupOf []) :: R, q.1 ≠ rl := List.forall_mem_cons.mpr ⟨hDrl, List.forall_mem_cons.mpr ⟨hrl _ (.head _), List.forall_mem_cons.mpr ⟨hDbrl, fun q hq => hrl q (.tail _ hq)⟩⟩⟩
   have lIx' : @LT.lt Nat _ x I ∧ @LT.lt Nat _ dx I ∧ @LT.lt Nat _ d I ∧ @LT.lt Nat _ rl I ∧ @LT.lt Nat _ rl A0 := ⟨Nat.lt_trans lA0.2.2.2.1 lIA, Nat.lt_trans lA0.2.2.2.2.1 lIA, Nat.lt_trans lA0.2.2.2.2.2.1 lIA, lIx _ (List.mem_append_right _ (.head _)), lAx _ (List.mem_append_right _ (.head _))⟩
   have RN := RI.nd
   have RM := RI.mem
   rw [List.map_map]
   refine items_ind (f := Itm.val ∘ sV) (P := TnP prog w ld fl x dx d rl rr2 D Db I ring mg2 (p0 :: rp) (listOf (glVs gl).toArray rc2) od2 R c (fp.map (·.1)) ns E' n2 k) ?_ ?_ _ _ _ (TnP.of (m' := lwM ld fl x rr2 ring mf2 mg2 (some (.ref D)) (some (.ref Db)) (some (.ref A0))) ?i1 (.mk A0 0 mf2 τ5 l5 nc5 [] [] 0 rfl S5 ?i3 ?i4 ?i5 ?i6 sm5 ?i7 RJ) ?i2)
   case i1 =>
    intro y
    by_cases e1 : y = Str.ofString "active"
    ·subst e1; rfl
    ·by_cases e2 : y = Str.ofString "behind"
     ·subst e2; rfl
     ·by_cases e3 : y = Str.ofString "group"
      ·subst e3; rfl
      ·simp only [lwM, e1, e2, e3, if_false]
   case i2 => rw [show ((c : Int) + ((0 : Nat) : Int)) = (c : Int) from Int.add_zero _]
   case i3 =>
    have apA : SApart x dx d l5 ((A0, listOf (List.replicate 0 (.bool true)).toArray 0) :: (Db, tupOf []) :: (rl, listOf #[] nc5) :: (D, tupOf ((p0 :: rp).map sV)) :: (rr2, listOf (glVs gl).toArray rc2) :: R) :=
     ap5.cons (by k_ne) (by k_ne) (by k_ne) fun q hq => Nat.ne_of_lt (lAx q (List.mem_append_left _ hq))
    exact apA.sub (by walk_at "sub")
   case i4 => exact lt_notin lIx'.1 lIx'.2.1 lIx'.2.2.1 fun q hq => lIx q (List.mem_append_left _ hq)
   case i5 => exact Nat.ne_of_lt lIA
   case i6 => exact Nat.ne_of_gt lIx'.2.2.2.2
   case i7 => rw [hn5, hn2]
   ·clear FG NG RJ lA0 lTu lAx lIA ap5 S5
    rename_i v1lsn v2lsn v3lsn v4lsn
    revert B F X N hlo hll v1lsn hG8 hF8 hFn hFs T hk hdp hun XB TB v2lsn ret FG1 D1 v3lsw v4lsw v3lsn v4lsn odl hod lt7 lt8 lII lR0 sm hk8 hnsF hEF hEq ec hR kT B2 X2 T2 D2 hrl sm2 hn2 hgl hgn hring ih hq9 he9 ap2 RI lenR ap4 hD hDrl sm4 ab4 hn4 hDb hDbrl sm5 ab5 hn5 lenD lIx lIR hrlR lIx' RN RM
    exact h9lsn R qk ek p0 rp l4 D nc4 l5 Db nc5 A0 hG tk I
   ·clear FG NG RJ lA0 lTu lAx lIA ap5 S5
    rename_i v1lss v2lss v3lss v4lss
    revert B F X N hlo hll v1lss hG8 hF8 hFn hFs T hk hdp hun XB TB v2lss ret FG1 D1 v3lsw v4lsw v3lss v4lss odl hod lt7 lt8 lII lR0 sm hk8 hnsF hEF hEq ec hR kT B2 X2 T2 D2 hrl sm2 hn2 hgl hgn hring ih hq9 he9 ap2 RI lenR ap4 hD hDrl sm4 ab4 hn4 hDb hDbrl sm5 ab5 hn5 lenD lIx lIR hrlR lIx' RN RM
    exact h9lss R qk ek p0 rp l4 D nc4 l5 Db nc5 A0 hG tk I
@[irreducible] def lsn_S := lsn_st.p
theorem lsn_eq : lsn_S = lsn_st.p := by unfold lsn_S; rfl
abbrev lsn_u (z9 : ((List (Addr × Obj)) × (Bool → Shared → Prop) × (Value → Shared → Prop) × (Str × Tok) × (List (Str × Tok)) × (List NI)) × (Addr × Nat × (List NI) × Addr × Nat × Addr) × (Heap × Nat × Addr)) : Prop := u3 (u6 (u6 lsn_S z9.1) z9.2.1) z9.2.2
def lsn_c := eps (by walk_at "ne") lsn_u
namespace Klsn
@[irreducible] def R := lsn_c.1.1
@[irreducible] def qk := lsn_c.1.2.1
@[irreducible] def ek := lsn_c.1.2.2.1
@[irreducible] def p0 := lsn_c.1.2.2.2.1
@[irreducible] def rp := lsn_c.1.2.2.2.2.1
@[irreducible] def l4 := lsn_c.1.2.2.2.2.2
@[irreducible] def D := lsn_c.2.1.1
@[irreducible] def nc4 := lsn_c.2.1.2.1
@[irreducible] def l5 := lsn_c.2.1.2.2.1
@[irreducible] def Db := lsn_c.2.1.2.2.2.1
@[irreducible] def nc5 := lsn_c.2.1.2.2.2.2.1
@[irreducible] def A0 := lsn_c.2.1.2.2.2.2.2
@[irreducible] def hG := lsn_c.2.2.1
@[irreducible] def tk := lsn_c.2.2.2.1
@[irreducible] def I := lsn_c.2.2.2.2
end Klsn
end
section
open Klsort
open Mine.Klsw hiding qk ek I tk
open Klsn
theorem lsn_1 : lsn_S Klsn.R Klsn.qk Klsn.ek Klsn.p0 Klsn.rp Klsn.l4 Klsn.D Klsn.nc4 Klsn.l5 Klsn.Db Klsn.nc5 Klsn.A0 Klsn.hG Klsn.tk Klsn.I := by
 have e9 : EpsOn := trivial
 unfold lsn_S lsn_st
 dsimp only
 intro B F X N hlo hll v1lsn hG8 hF8 hFn hFs T hk hdp hun XB TB v2lsn ret FG1 D1 v3lsw v4lsw v3lsn v4lsn odl hod lt7 lt8 lII lR0 sm hk8 hnsF hEF hEq ec hR kT B2 X2 T2 D2 hrl sm2 hn2 hgl hgn hring ih hq9 he9 ap2 RI lenR ap4 hD hDrl sm4 ab4 hn4 hDb hDbrl sm5 ab5 hn5 lenD lIx lIR hrlR lIx' RN RM
 intro m1 news1 W9
 refine TnP.casesOn W9 ?_
 clear W9 m1 news1
 intro A cA mf τ6 l nc rn pre kA hkA S ap apI nAI nAl sm hnm RJ
 (refine ItemsRest.zero ?_; intro h tk FK NK)
 have hkl : kA = rp.length + 1 := by
  have := congrArg List.length RJ.split
  rw [hkA]; simpa using this.symm
 k_steps
 show wpAny _ _ (compareOp .NotIn (.bool false) (.ref A)) _ _ _
 refine notin_true (k := kA) (by kmk_list) (by ke_room) ?_
 k_steps
 show wpAny _ _ (call (.builtin "sorted") [.ref D]) _ _ _
 refine sorted_tup (vs := (p0 :: rp).map sV) (ss := (p0 :: rp).map (·.1)) (by k_asm) (by k_asm) (News.isTup (by k_asm) (by k_mem)) (strs_of _) (by rw [List.length_map]; omega) ?_
 intro Sd hS vsS ssS eS FS NS lS hvs hperm hsort
 obtain ⟨sp, hsp1, hsp2⟩ := strs_pairs hvs
 revert sp
 intro sp
 walk_at "hi"
 subst hsp1
 have hgrp : ssS = grp (fp.map (·.1)) E' (stp (fp.map (·.1)) E' n2).2 := sort_grp hFs hFn RN RM hperm hsort
 have hge := stp_ge RI.prev
 have lSx : ∀ q ∈ head3 x dx d (sD d (.ref rl) ((c : Int) + ((p0 :: rp).length : Nat)) ((c : Int) + (kA : Nat)) τ6) 4 od2 ++ (infosOf l ++ ((rl, listOf (rn.map sV).toArray nc) :: R)), @LT.lt Nat _ q.1 Sd := fun q hq => lS q (tl4 (.tail _ hq))
 clear lS
 k_steps
 show wpAny _ _ (binaryOp .Add (.ref rr2) (.ref _)) _ _ _
 refine kmk_add_lit (its := (glVs gl).toArray) (its2 := #[.ref Sd]) (zs := glVs (gl ++ [⟨Sd, sp, eS⟩])) (by k_asm) (by k_asm) (by kmk_list) (by kmk_list) (by simp [glVs]) ?_ (by rw [sizeLine_eq]; simp [glVs]; omega)
 intro r3 h9 F9 N9 l9
 have l9S : @LT.lt Nat _ Sd r3 := l9 _ (.tail _ (.head _))
 have l9x : ∀ q ∈ head3 x dx d (sD d (.ref rl) ((c : Int) + ((p0 :: rp).length : Nat)) ((c : Int) + (kA : Nat)) τ6) 4 od2 ++ (infosOf l ++ ((rl, listOf (rn.map sV).toArray nc) :: R)), @LT.lt Nat _ q.1 r3 := fun q hq => l9 q (tl4 (tl3 hq))
 clear l9
 k_steps
 show WhlRest _ _ _ _ _ _ _ _ _ _ _
 with_reducible rename Fr g2 L1 _ _ => FR
 with_reducible rename News g2 L1 _ _ => NR
 have hfst : pre.map (·.1) = (p0 :: rp).map (·.1) := by
  have := RJ.split
  simpa using this.symm
 have RI9 := RdJ.fin (Rn := rn.map (·.1)) RI hnsF (by simp) (P' := absN l) (by rw [← hfst] at RJ ⊢; rw [hfst] at RJ ⊢; exact (hfst ▸ RJ))
 have eL : c + (rp.length + 1) = (stp (fp.map (·.1)) E' (n2 + 1)).2.length := by
  have := RI.len hFn
  rw [List.length_map] at this
  rw [ec, this]; rfl
 have apr : SApart x dx d l ((rl, listOf (rn.map sV).toArray nc) :: R) := SApart.drop2 (SApart.drop2 (SApart.drop2 (SApart.drop2 ap)))
 have ap9 : SApart x dx d l ((rl, listOf (rn.map sV).toArray nc) :: (r3, listOf (glVs (gl ++ [⟨Sd, sp, eS⟩])).toArray 0) :: (Sd, listOf (sp.map sV).toArray eS) :: R) :=
  SApart.ins (SApart.ins apr (lt_notin (lSx _ (.head _)) (lSx _ (.tail _ (.head _))) (lSx _ (tl2 (.head _))) fun q hq => lSx q (List.mem_append_right _ (List.mem_append_left _ hq))))
   (lt_notin (l9x _ (.head _)) (l9x _ (.tail _ (.head _))) (l9x _ (tl2 (.head _))) fun q hq => l9x q (List.mem_append_right _ (List.mem_append_left _ hq)))
 have hrl9 : ∀ q ∈ (r3, listOf (glVs (gl ++ [⟨Sd, sp, eS⟩])).toArray 0) :: (Sd, listOf (sp.map sV).toArray eS) :: R, q.1 ≠ rl := fun q hq => by
  rcases List.mem_cons.mp hq with rfl | hq
  ·exact Nat.ne_of_gt (l9x _ (List.mem_append_right _ (List.mem_append_right _ (.head _))))
  ·rcases List.mem_cons.mp hq with rfl | hq
   ·exact Nat.ne_of_gt (lSx _ (List.mem_append_right _ (List.mem_append_right _ (.head _))))
   ·exact hrl q (.tail _ hq)
 have e8 : (c : Int) + (kA : Nat) = ((c + (rp.length + 1) : Nat) : Int) := by rw [hkl]; rfl
 rw [e8, show (c : Int) + ((p0 :: rp).length : Nat) = ((c + (rp.length + 1) : Nat) : Int) from rfl] at NR
 replace NR : News g2 L1 _ ((r3, listOf (glVs (gl ++ [⟨Sd, sp, eS⟩])).toArray 0) :: (Sd, listOf (sp.map sV).toArray eS) :: (x, instObj 137 dx) :: (dx, dictOf (sD d (.ref rl) ((c + (rp.length + 1) : Nat) : Int) ((c + (rp.length + 1) : Nat) : Int) τ6) 4) :: (d, od2) :: (infosOf l ++ ((rl, listOf (rn.map sV).toArray nc) :: R))) := fun q hq => NR q (sub_of (by
  walk_at "sub") hq)
 have eG : ∀ q ∈ glsOf (gl ++ [⟨Sd, sp, eS⟩]) ++ (fl, listOf (fp.map sV).toArray fcp) :: (ld, lo) :: (ldsOf lds ++ rest), q ∈ (Sd, listOf (sp.map sV).toArray eS) :: R := fun q hq => by
  rw [hR]
  refine sub_of ?_ hq
  simp only [glsOf, List.map_append, List.map_cons, List.map_nil, List.append_assoc, List.cons_append, List.nil_append]
  walk_at "sub"
 refine ih _ _ ?lt (.mk _ _ g2 ring r3 rl τ6 od2 l (n2 + 1) nc 0 rn (gl ++ [⟨Sd, sp, eS⟩]) mf mg2 (some (.ref D)) (some (.ref Db)) (some (.ref A)) (c + (rp.length + 1)) _ eL rfl kT (fr_map FR ?m1) ?n1 B2 X2 T2 D2 S ?a1 ?a2 sm hnm RI9 ?g1 ?g2 hring)
 case lt =>
  have q2 := nodup_le (stp_nodup (E := E') hFn (n2 + 1)) (stp_sub (n2 + 1))
  rw [← eL] at q2
  omega
 case m1 =>
  intro y
  by_cases e1 : y = Str.ofString "rounds"
  ·subst e1; rfl
  ·by_cases e2 : y = Str.ofString "active"
   ·subst e2; rfl
   ·by_cases e3 : y = Str.ofString "behind"
    ·subst e3; rfl
    ·by_cases e4 : y = Str.ofString "group"
     ·subst e4; rfl
     ·simp only [lwM, lsM, e1, e2, e3, e4, if_false]
 case n1 =>
  have eG' : ∀ q ∈ glsOf (gl ++ [⟨Sd, sp, eS⟩]) ++ (fl, listOf (fp.map sV).toArray fcp) :: (ld, lo) :: (ldsOf lds ++ rest), q ∈ (r3, listOf (glVs (gl ++ [⟨Sd, sp, eS⟩])).toArray 0) :: (Sd, listOf (sp.map sV).toArray eS) :: (x, instObj 137 dx) :: (dx, dictOf (sD d (.ref rl) ((c + (rp.length + 1) : Nat) : Int) ((c + (rp.length + 1) : Nat) : Int) τ6) 4) :: (d, od2) :: (infosOf l ++ ((rl, listOf (rn.map sV).toArray nc) :: R)) := fun q hq =>
   (List.mem_cons.mp (eG q hq)).elim (fun e => e ▸ .tail _ (.head _)) fun h => memD 5 (List.mem_append_right _ (.tail _ h))
  exact fun q hq => NR q (sub_of (by dsimp only [head3, List.cons_append, List.nil_append]; walk_at "sub") hq)
 case a1 =>
  (refine ap9.sub ?_; intro q hq)
  rcases List.mem_cons.mp hq with rfl | hq
  ·exact .head _
  ·rcases List.mem_cons.mp hq with rfl | hq
   ·exact .tail _ (.head _)
   ·exact tl2 (eG q hq)
 case a2 =>
  intro q hq
  rcases List.mem_cons.mp hq with rfl | hq
  ·exact hrl9 _ (.head _)
  ·exact hrl9 q (.tail _ (eG q hq))
 case g1 =>
  unfold glNs at hgl ⊢
  rw [List.map_append, hgl]
  show _ ++ [sp.map (·.1)] = (stp (fp.map (·.1)) E' n2).1 ++ [grp (fp.map (·.1)) E' (stp (fp.map (·.1)) E' n2).2]
  rw [hsp2, hgrp]
 case g2 => rw [List.length_append, hgn]; rfl
end
section
open Klsort
open Klsw
@[irreducible] def lss_S := lsn_st.q
theorem lss_eq : lss_S = lsn_st.q := by unfold lss_S; rfl
abbrev lss_u (z9 : ((List (Addr × Obj)) × (Bool → Shared → Prop) × (Value → Shared → Prop) × (Str × Tok) × (List (Str × Tok)) × (List NI)) × (Addr × Nat × (List NI) × Addr × Nat × Addr) × (Heap × Nat × Addr)) : Prop := u3 (u6 (u6 lss_S z9.1) z9.2.1) z9.2.2
def lss_c := eps (by walk_at "ne") lss_u
namespace Klss
@[irreducible] def R := lss_c.1.1
@[irreducible] def qk := lss_c.1.2.1
@[irreducible] def ek := lss_c.1.2.2.1
@[irreducible] def p0 := lss_c.1.2.2.2.1
@[irreducible] def rp := lss_c.1.2.2.2.2.1
@[irreducible] def l4 := lss_c.1.2.2.2.2.2
@[irreducible] def D := lss_c.2.1.1
@[irreducible] def nc4 := lss_c.2.1.2.1
@[irreducible] def l5 := lss_c.2.1.2.2.1
@[irreducible] def Db := lss_c.2.1.2.2.2.1
@[irreducible] def nc5 := lss_c.2.1.2.2.2.2.1
@[irreducible] def A0 := lss_c.2.1.2.2.2.2.2
@[irreducible] def hG := lss_c.2.2.1
@[irreducible] def tk := lss_c.2.2.2.1
@[irreducible] def I := lss_c.2.2.2.2
end Klss
end
section
open Klsort
open Mine.Klsw hiding qk ek I tk
open Klss
theorem lss_1 : lss_S Klss.R Klss.qk Klss.ek Klss.p0 Klss.rp Klss.l4 Klss.D Klss.nc4 Klss.l5 Klss.Db Klss.nc5 Klss.A0 Klss.hG Klss.tk Klss.I := by
 have e9 : EpsOn := trivial
 unfold lss_S lsn_st
 dsimp only
 intro B F X N hlo hll v1lss hG8 hF8 hFn hFs T hk hdp hun XB TB v2lss ret FG1 D1 v3lsw v4lsw v3lss v4lss odl hod lt7 lt8 lII lR0 sm hk8 hnsF hEF hEq ec hR kT B2 X2 T2 D2 hrl sm2 hn2 hgl hgn hring ih hq9 he9 ap2 RI lenR ap4 hD hDrl sm4 ab4 hn4 hDb hDbrl sm5 ab5 hn5 lenD lIx lIR hrlR lIx' RN RM
 intro q0 rq m1 news1 W9 ih2
 refine TnP.casesOn W9 ?_
 clear W9 m1 news1
 intro A cA mf τ6 l nc rn pre kA hkA S ap apI nAI nAl sm hnm RJ
 obtain ⟨f0, ft⟩ := q0
 revert f0 ft
 intro f0 ft
 walk_at "hi"
 (refine ItemsRest.val1 ?_; intro h tk io hio FK NK)
 have hlen : kA + (rq.length + 1) = rp.length + 1 := by
  have := congrArg List.length RJ.split
  rw [hkA]; simpa using this.symm
 have hrnl : rn.length ≤ 1000 := by
  have q1 := RJ.len
  have q2 := sm.1
  rw [← hnm, List.length_map, List.length_map] at q1
  omega
 dsimp only [head3, List.cons_append, List.nil_append] at NK
 k_steps
 show wpAny _ _ (call (.ref 106) [.ref x]) _ _ _
 with_reducible rename Fr g2 L1 _ _ => FB
 with_reducible rename News g2 L1 _ _ => NB
 have ap6 : SApart x dx d l ((rl, listOf (rn.map sV).toArray nc) :: (I, io) :: (A, listOf (List.replicate kA (.bool true)).toArray cA) :: (D, tupOf ((p0 :: rp).map sV)) :: (rr2, listOf (glVs gl).toArray rc2) :: (Db, tupOf []) :: R) := SApart.ins ap apI
 refine isact (n := 4) (nc := nc) (rvs := rn.map sV) (rest := (I, io) :: (A, listOf (List.replicate kA (.bool true)).toArray cA) :: (D, tupOf ((p0 :: rp).map sV)) :: (rr2, listOf (glVs gl).toArray rc2) :: (Db, tupOf []) :: R) B2 FB X2 (fun q hq => NB q (sub_of (by dsimp only [head3, List.cons_append, List.nil_append]; walk_at "sub") hq)) S ap6 (by rw [List.length_map]; exact hrnl) T2 rfl (Nat.lt_trans (Nat.succ_lt_succ hdp) (by decide)) (unlt hun (by decide)) ?_
 intro h6 tk6 F6 N6
 rw [show (decide (((c : Int) + (kA : Nat)) < (c : Int) + ((p0 :: rp).length : Nat)) || !(rn.map sV).isEmpty) = true from by rw [decide_eq_true (by simp only [List.length_cons]; omega), Bool.true_or]]
 replace N6 : News g2 L1 h6 ((I, io) :: (A, listOf (List.replicate kA (.bool true)).toArray cA) :: (D, tupOf ((p0 :: rp).map sV)) :: (rr2, listOf (glVs gl).toArray rc2) :: (Db, tupOf []) :: (x, instObj 137 dx) :: (dx, dictOf (sD d (.ref rl) ((c : Int) + ((p0 :: rp).length : Nat)) ((c : Int) + (kA : Nat)) τ6) 4) :: (d, od2) :: (infosOf l ++ ((rl, listOf (rn.map sV).toArray nc) :: R))) := fun q hq => N6 q (sub_of (by dsimp only [head3, List.cons_append, List.nil_append]; walk_at "sub") hq)
 clear FB NB
 k_steps
 show wpAny _ _ (binaryOp .Add (.ref A) (.ref _)) _ _ _
 refine kmk_add_lit (its := (List.replicate kA (Value.bool true)).toArray) (its2 := #[.bool true]) (zs := List.replicate (kA + 1) (.bool true)) (by k_asm) (by k_asm) (by kmk_list) (by kmk_list) (by simp [List.replicate_succ']) ?_ (by rw [sizeLine_eq]; simp only [List.length_cons] at lenR; simp; omega)
 intro A2 h7 F7 N7 lA2
 have lA2i : @LT.lt Nat _ I A2 := lA2 _ (.tail _ (.head _))
 have lA2x : ∀ q ∈ infosOf l ++ ((rl, listOf (rn.map sV).toArray nc) :: R), @LT.lt Nat _ q.1 A2 := fun q hq => lA2 q (tl4 (tl4 (.tail _ hq)))
 have lA2h : @LT.lt Nat _ x A2 ∧ @LT.lt Nat _ dx A2 ∧ @LT.lt Nat _ d A2 := ⟨lA2 _ (tl4 (tl2 (.head _))), lA2 _ (tl4 (tl3 (.head _))), lA2 _ (tl4 (tl4 (.head _)))⟩
 clear lA2
 k_steps
 show wpAny _ _ (call (.ref 120) [.ref x, .str f0 ft]) _ _ _
 with_reducible rename Fr g2 L1 _ _ => FC
 with_reducible rename News g2 L1 _ _ => NC
 have hfn : f0 ∈ l.map (·.nm) := by
  rw [hnm, hnsF]
  exact (mem_grp.mp ((RM f0).mp (by rw [RJ.split]; simp))).1
 obtain ⟨i, hi, hif⟩ := List.mem_map.mp hfn
 revert i
 intro i
 walk_at "hi"
 have hif : i.nm = f0 := hif
 subst hif
 have RJi := RdJ.at (i := i) RN RM RJ hi
 obtain ⟨la, lb, hla⟩ := List.append_of_mem hi
 revert la lb
 intro la lb
 walk_at "hi"
 subst hla
 have ap7 : SApart x dx d (la ++ i :: lb) ((rl, listOf (rn.map sV).toArray nc) :: (I, io) :: (A2, listOf (List.replicate (kA + 1) (.bool true)).toArray 0) :: (D, tupOf ((p0 :: rp).map sV)) :: (rr2, listOf (glVs gl).toArray rc2) :: (Db, tupOf []) :: R) :=
  SApart.ins (SApart.ins (SApart.drop2 ap) (lt_notin lA2h.1 lA2h.2.1 lA2h.2.2 fun q hq => lA2x q (List.mem_append_left _ hq))) apI
 have hrl7 : ∀ q ∈ (I, io) :: (A2, listOf (List.replicate (kA + 1) (.bool true)).toArray 0) :: (D, tupOf ((p0 :: rp).map sV)) :: (rr2, listOf (glVs gl).toArray rc2) :: (Db, tupOf []) :: R, q.1 ≠ rl := fun q hq => by
  rcases List.mem_cons.mp hq with rfl | hq
  ·exact Nat.ne_of_gt lIx'.2.2.2.1
  ·rcases List.mem_cons.mp hq with rfl | hq
   ·exact Nat.ne_of_gt (lA2x _ (List.mem_append_right _ (.head _)))
   ·exact hrlR q hq
 refine done1 (l1 := la) (l2 := lb) (n := 4) (nc := nc) (rp := rn) (t := ft) (i := i) (rest := (I, io) :: (A2, listOf (List.replicate (kA + 1) (.bool true)).toArray 0) :: (D, tupOf ((p0 :: rp).map sV)) :: (rr2, listOf (glVs gl).toArray rc2) :: (Db, tupOf []) :: R) B2 FC X2 (fun q hq => NC q (sub_of (by dsimp only [head3, List.cons_append, List.nil_append]; walk_at "sub") hq)) S ap7 hrl7 hrnl sm (by omega) (RJ.cl hnsF hEF hnm) RJi.1 T2 rfl (Nat.lt_trans (Nat.succ_lt_succ hdp) (by decide)) (unlt hun (by decide)) ?_
 intro h8 tk8 τ8 l8 rn8 nc8 F8 N8 S8 ap8 sm8 hn8 ab8
 rw [RJi.2] at ab8
 have RJ8 := RJ.step RN RM hnsF hEF ab8
 have e8 : ((c : Int) + (kA : Nat) + 1) = (c : Int) + ((kA + 1 : Nat) : Int) := by omega
 rw [e8] at N8
 rw [hnm] at hn8
 clear FC NC
 k_steps
 show UnrEndW _ _ _ _ _ _
 with_reducible rename Fr g2 L1 _ _ => FD
 with_reducible rename News g2 L1 _ _ => ND
 refine unrEnd1 (m' := lwM ld fl x rr2 ring (some (.str i.nm ft)) mg2 (some (.ref D)) (some (.ref Db)) (some (.ref A2))) (news' := (A2, listOf (List.replicate (kA + 1) (.bool true)).toArray 0) :: (D, tupOf ((p0 :: rp).map sV)) :: (rr2, listOf (glVs gl).toArray rc2) :: (Db, tupOf []) :: (head3 x dx d (sD d (.ref rl) ((c : Int) + ((p0 :: rp).length : Nat)) ((c : Int) + ((kA + 1 : Nat) : Int)) τ8) 4 od2 ++ (infosOf l8 ++ ((rl, listOf (rn8.map sV).toArray nc8) :: R))))
  (fr_map FD ?m1) (fun q hq => ND q (sub_of (by dsimp only [head3, List.cons_append, List.nil_append]; walk_at "sub") hq)) ?off ⟨⟨.tail _ (.head _), trivial⟩, ih2 _ _ (.mk A2 0 (some (.str i.nm ft)) τ8 l8 nc8 rn8 (pre ++ [(i.nm, ft)]) (kA + 1) ?k1 S8 (SApart.drop2 ap8) (ap8 (I, io) (.tail _ (.head _))) (Nat.ne_of_gt lA2i) (Nat.ne_of_gt (lA2x _ (List.mem_append_right _ (.head _)))) sm8 hn8 ?rj)⟩
 case m1 =>
  intro y
  by_cases e1 : y = Str.ofString "active"
  ·subst e1; rfl
  ·by_cases e2 : y = Str.ofString "file"
   ·subst e2; rfl
   ·by_cases e3 : y = Str.ofString "behind"
    ·subst e3; rfl
    ·by_cases e4 : y = Str.ofString "group"
     ·subst e4; rfl
     ·simp only [lwM, lsM, e1, e2, e3, e4, if_false]
 case k1 => rw [List.length_append, hkA]; rfl
 case rj => rw [List.map_append]; exact RJ8
 case off =>
  have hI : ∀ p ∈ head3 x dx d (sD d (.ref rl) ((c : Int) + ((p0 :: rp).length : Nat)) ((c : Int) + ((kA + 1 : Nat) : Int)) τ8) 4 od2 ++ (infosOf l8 ++ ((rl, listOf (rn8.map sV).toArray nc8) :: R)), p.1 ≠ I := off_all (R := (rl, listOf (rn8.map sV).toArray nc8) :: R) (fun q hq => ap8 q (sub_of (by walk_at "sub") hq)) (List.forall_mem_cons.mpr ⟨Nat.ne_of_lt lIx'.2.2.2.1, fun q hq => lIR q (memD 3 hq)⟩)
  exact List.forall_mem_cons.mpr ⟨Nat.ne_of_gt lA2i, List.forall_mem_cons.mpr ⟨lIR _ (.head _), List.forall_mem_cons.mpr ⟨lIR _ (.tail _ (.head _)), List.forall_mem_cons.mpr ⟨lIR _ (tl2 (.head _)), hI⟩⟩⟩⟩
end
section
open Klsort
open Klsw
theorem lsn_all (R qk ek p0 rp l4 D nc4 l5 Db nc5 A0 hG tk I) : lsn_S R qk ek p0 rp l4 D nc4 l5 Db nc5 A0 hG tk I :=
 eps_all (S := lsn_u) lsn_c rfl (by have := lsn_1; with_unfolding_all assumption) ((R, qk, ek, p0, rp, l4), (D, nc4, l5, Db, nc5, A0), (hG, tk, I))
theorem lss_all (R qk ek p0 rp l4 D nc4 l5 Db nc5 A0 hG tk I) : lss_S R qk ek p0 rp l4 D nc4 l5 Db nc5 A0 hG tk I :=
 eps_all (S := lss_u) lss_c rfl (by have := lss_1; with_unfolding_all assumption) ((R, qk, ek, p0, rp, l4), (D, nc4, l5, Db, nc5, A0), (hG, tk, I))
theorem lsw_1 : lsw_S Klsw.g1 Klsw.L1 Klsw.v1lsw Klsw.v2lsw Klsw.x Klsw.dx Klsw.gz Klsw.Lz Klsw.qk Klsw.ek Klsw.d Klsw.od Klsw.rr Klsw.Tup Klsw.I Klsw.l Klsw.ns Klsw.E' Klsw.k Klsw.h Klsw.tk Klsw.hB Klsw.tkB Klsw.g2 Klsw.ring Klsw.rr2 Klsw.rl Klsw.τ2 Klsw.od2 Klsw.l2 Klsw.n2 Klsw.nc2 Klsw.rc2 Klsw.gl Klsw.mf2 Klsw.mg2 Klsw.mG Klsw.mB Klsw.mA Klsw.c :=
 stg_go2 lsn_st lsn_eq lss_eq lsn_all lss_all
end
section
open Klsort
theorem lsw_all (g1 L1 v1lsw v2lsw x dx gz Lz qk ek d od rr Tup I l ns E' k h tk hB tkB g2 ring rr2 rl τ2 od2 l2 n2 nc2 rc2 gl mf2 mg2 mG mB mA c) : lsw_S g1 L1 v1lsw v2lsw x dx gz Lz qk ek d od rr Tup I l ns E' k h tk hB tkB g2 ring rr2 rl τ2 od2 l2 n2 nc2 rc2 gl mf2 mg2 mG mB mA c :=
 eps_all (S := lsw_u) lsw_c rfl (by have := lsw_1; with_unfolding_all assumption) ((g1, L1, v1lsw, v2lsw, x, dx), (gz, Lz, qk, ek, d, od), (rr, Tup, I, l, ns, E'), (k, h, tk, hB, tkB, g2), (ring, rr2, rl, τ2, od2, l2), (n2, nc2, rc2, gl, mf2, mg2), (mG, mB, mA, c))
theorem lsort_0 : @lsort_S prog w p loose mean mg mb dp un gd cn cs a ccd cl outer A₀ base h₀ L m s Q E fl ld fp fcp lo lds rest G :=
 stg_go lsw_st lsw_eq lsw_all
end
theorem lsort {prog w p loose mean mg mb dp un gd cn cs a ccd cl outer A₀ base h₀ L m s Q E fl ld fp fcp lo lds rest G} : @lsort_S prog w p loose mean mg mb dp un gd cn cs a ccd cl outer A₀ base h₀ L m s Q E fl ld fp fcp lo lds rest G :=
 eps_all (S := lsort_u) lsort_c rfl (by have := lsort_0; with_unfolding_all assumption) ((prog, w, p, loose, mean, mg), (mb, dp, un, gd, cn, cs), (a, ccd, cl, outer, A₀, base), (h₀, L, m, s, Q, E), (fl, ld, fp, fcp, lo, lds), (rest, G))
end
end Mine
namespace Mine
open PyProof.Rows.LCg PyProof.Rows.LCt
section
variable {prog : Program} {w : World} {A : Around} {s : Shared} {h₀ : Heap} {L : Addr} {m : Str → Option Value} {env : Env} {ct elt : PySem.Expr} {x : Str} {scope : Scope} {cl : List (Str × Addr)} {S : List (Addr × Obj) → Prop} {Fin : List Value → List (Addr × Obj) → Prop} {its : Array Value} {J : Nat → List Value → List (Addr × Obj) → Prop}
theorem compT_ind (fin : ∀ ys news, J its.size ys news → Fin ys news)
  (step : ∀ k i ys news v, its[i]? = some v → J i ys news → (∀ ys' news', J (i + 1) ys' news' → CompRestT prog w A h₀ L m env ct elt x scope cl s S (fun i v => its[i]? = some v) Fin k (i + 1) ys' news') →
   ∀ I oI C oC D m₂ h tk (E' : Value → Shared → Prop), NsObj oC m₂ → m₂ x = some v → Fr h₀ L h m → News h₀ L h ((I, oI) :: (C, oC) :: (D, lst ys) :: news) → Off3 I C D news → ((@Ne Nat I C) ∧ (@Ne Nat I D) ∧ (@Ne Nat C D)) →
   wpAny (model prog w) A (isTrue ct (compEnvC scope cl C env) (eval ct (compEnvC scope cl C env))) (fun ok s' => if ok = true then
    wpAny (model prog w) A (eval elt (compEnvC scope cl C env)) (CompEnd h₀ L m { s with heap := h, toks := tk } I oI C oC D (lst ys) S (fun y news' => CompRestT prog w A h₀ L m env ct elt x scope cl s S (fun i v => its[i]? = some v) Fin k (i + 1) (ys ++ [y]) news')) E' s'
    else CompEnd h₀ L m { s with heap := h, toks := tk } I oI C oC D (lst ys) S (fun _ news' => CompRestT prog w A h₀ L m env ct elt x scope cl s S (fun i v => its[i]? = some v) Fin k (i + 1) ys news') Value.none s') E' { s with heap := h, toks := tk }) :
  ∀ k i ys news, i + k = its.size → J i ys news → CompRestT prog w A h₀ L m env ct elt x scope cl s S (fun i v => its[i]? = some v) Fin k i ys news
 | 0, i, ys, news, e, j => CompRestT.zero (fin ys news (by rw [← e]; exact j))
 | k + 1, i, ys, news, e, j => CompRestT.succ fun v I oI C oC D m₂ h tk E' hv hC hx F N off ne =>
   step k i ys news v hv j (fun ys' news' j' => compT_ind fin step k (i + 1) ys' news' (by omega) j') I oI C oC D m₂ h tk E' hC hx F N off ne
theorem comp_ind (fin : ∀ ys news, J its.size ys news → Fin ys news)
  (step : ∀ k i ys news v, its[i]? = some v → J i ys news → (∀ ys' news', J (i + 1) ys' news' → CompRest prog w A h₀ L m env elt x scope cl s S (fun i v => its[i]? = some v) Fin k (i + 1) ys' news') →
   ∀ I oI C oC D m₂ h tk (E' : Value → Shared → Prop), NsObj oC m₂ → m₂ x = some v → Fr h₀ L h m → News h₀ L h ((I, oI) :: (C, oC) :: (D, lst ys) :: news) → Off3 I C D news → ((@Ne Nat I C) ∧ (@Ne Nat I D) ∧ (@Ne Nat C D)) →
   wpAny (model prog w) A (eval elt (compEnvC scope cl C env)) (CompEnd h₀ L m { s with heap := h, toks := tk } I oI C oC D (lst ys) S (fun y news' => CompRest prog w A h₀ L m env elt x scope cl s S (fun i v => its[i]? = some v) Fin k (i + 1) (ys ++ [y]) news')) E' { s with heap := h, toks := tk }) :
  ∀ k i ys news, i + k = its.size → J i ys news → CompRest prog w A h₀ L m env elt x scope cl s S (fun i v => its[i]? = some v) Fin k i ys news
 | 0, i, ys, news, e, j => CompRest.zero (fin ys news (by rw [← e]; exact j))
 | k + 1, i, ys, news, e, j => CompRest.succ fun v I oI C oC D m₂ h tk E' hv hC hx F N off ne =>
   step k i ys news v hv j (fun ys' news' j' => comp_ind fin step k (i + 1) ys' news' (by omega) j') I oI C oC D m₂ h tk E' hC hx F N off ne
end
end Mine
namespace Mine
def grpI (F : List Int) (G : Int → List Int) (come : List Int) : List Int := F.filter fun k => !decide (k ∈ come) && ((G k).filter fun j => decide (j ∈ F) && !decide (j ∈ come)).isEmpty
def stpI (F : List Int) (G : Int → List Int) : Nat → List (List Int) × List Int
 | 0 => ([], [])
 | n + 1 => ((stpI F G n).1 ++ [grpI F G (stpI F G n).2], (stpI F G n).2 ++ grpI F G (stpI F G n).2)
def EndsI (F : List Int) (G : Int → List Int) (n : Nat) : Prop := (∀ k < n, grpI F G (stpI F G k).2 ≠ []) ∧ grpI F G (stpI F G n).2 = []
section
variable {F : List Int} {G : Int → List Int}
theorem mem_grpI {come : List Int} {k : Int} : k ∈ grpI F G come ↔ k ∈ F ∧ k ∉ come ∧ ∀ j ∈ G k, j ∈ F → j ∈ come := by
 unfold grpI
 rw [List.mem_filter]
 simp only [Bool.and_eq_true, Bool.not_eq_true', decide_eq_false_iff_not, List.isEmpty_iff, List.filter_eq_nil_iff, decide_eq_true_eq, not_and, Decidable.not_not]
theorem stpI_sub : ∀ n, ∀ z ∈ (stpI F G n).2, z ∈ F
 | 0, _, h => (nomatch h)
 | n + 1, z, h => by
  rcases List.mem_append.mp h with h | h
  ·exact stpI_sub n z h
  ·exact (mem_grpI.mp h).1
theorem stpI_nodup (hF : F.Nodup) : ∀ n, (stpI F G n).2.Nodup
 | 0 => List.nodup_nil
 | n + 1 => List.nodup_append.mpr ⟨stpI_nodup hF n, hF.filter _, fun a ha b hb e => (mem_grpI.mp hb).2.1 (e ▸ ha)⟩
theorem stpI_ge : ∀ {n : Nat}, (∀ k < n, grpI F G (stpI F G k).2 ≠ []) → n ≤ (stpI F G n).2.length
 | 0, _ => Nat.zero_le _
 | n + 1, h => by
  have h1 := stpI_ge (n := n) fun k hk => h k (Nat.lt_succ_of_lt hk)
  have h2 := List.length_pos_iff.mpr (h n (Nat.lt_succ_self n))
  show n + 1 ≤ ((stpI F G n).2 ++ grpI F G (stpI F G n).2).length
  rw [List.length_append]; omega
theorem stpI_le (hF : F.Nodup) (n : Nat) : (stpI F G n).2.length ≤ F.length := nodup_le (stpI_nodup hF n) (stpI_sub n)
theorem grp_map {nm : Int → Str} {E : Edges} {come : List Int} (inj : ∀ a ∈ F, ∀ b ∈ F, nm a = nm b → a = b) (hc : ∀ z ∈ come, z ∈ F)
  (hE : ∀ a ∈ F, ∀ y, (nm a, y) ∈ E ↔ ∃ b ∈ G a, b ∈ F ∧ nm b = y) : grp (F.map nm) E (come.map nm) = (grpI F G come).map nm := by
 unfold grp grpI
 rw [List.filter_map]
 congr 1
 refine List.filter_congr fun a ha => ?_
 rw [Bool.eq_iff_iff]
 simp only [Function.comp, decide_eq_true_eq, Bool.and_eq_true, Bool.not_eq_true', decide_eq_false_iff_not, List.isEmpty_iff, List.filter_eq_nil_iff, not_and, Decidable.not_not]
 have hm : ∀ b ∈ F, nm b ∈ come.map nm ↔ b ∈ come := fun b hb => by
  rw [List.mem_map]
  exact ⟨fun ⟨c, h1, h2⟩ => inj c (hc c h1) b hb h2 ▸ h1, fun h => ⟨b, h, rfl⟩⟩
 refine and_congr (not_congr (hm a ha)) ⟨fun h j hj hF => ?_, fun h e he h1 => ?_⟩
 ·exact (hm j hF).mp (h (nm a, nm j) ((hE a ha _).mpr ⟨j, hj, hF, rfl⟩) rfl)
 ·obtain ⟨e1, e2⟩ := e
  have h1 : e1 = nm a := h1
  subst h1
  obtain ⟨b, h2, h3, h4⟩ := (hE a ha e2).mp he
  have h4 : nm b = e2 := h4
  show e2 ∈ _
  rw [← h4]; exact (hm b h3).mpr (h b h2 h3)
theorem stp_map {nm : Int → Str} {E : Edges} (inj : ∀ a ∈ F, ∀ b ∈ F, nm a = nm b → a = b)
  (hE : ∀ a ∈ F, ∀ y, (nm a, y) ∈ E ↔ ∃ b ∈ G a, b ∈ F ∧ nm b = y) : ∀ n, (stp (F.map nm) E n).1 = (stpI F G n).1.map (·.map nm) ∧ (stp (F.map nm) E n).2 = (stpI F G n).2.map nm
 | 0 => ⟨rfl, rfl⟩
 | n + 1 => by
  obtain ⟨h1, h2⟩ := stp_map inj hE n
  have h3 := grp_map (come := (stpI F G n).2) inj (stpI_sub n) hE
  show (stp (F.map nm) E n).1 ++ [grp (F.map nm) E (stp (F.map nm) E n).2] = _ ∧ (stp (F.map nm) E n).2 ++ grp (F.map nm) E (stp (F.map nm) E n).2 = _
  rw [h1, h2, h3]
  show _ = ((stpI F G n).1 ++ [grpI F G (stpI F G n).2]).map _ ∧ _ = ((stpI F G n).2 ++ grpI F G (stpI F G n).2).map _
  rw [List.map_append, List.map_append]
  exact ⟨rfl, rfl⟩
theorem ends_map {nm : Int → Str} {E : Edges} (inj : ∀ a ∈ F, ∀ b ∈ F, nm a = nm b → a = b)
  (hE : ∀ a ∈ F, ∀ y, (nm a, y) ∈ E ↔ ∃ b ∈ G a, b ∈ F ∧ nm b = y) {n : Nat} (h : EndsI F G n) : Ends (F.map nm) E n := by
 have key : ∀ k, grp (F.map nm) E (stp (F.map nm) E k).2 = (grpI F G (stpI F G k).2).map nm := fun k => by
  rw [(stp_map inj hE k).2]
  exact grp_map inj (stpI_sub k) hE
 exact ⟨fun k hk e => h.1 k hk (by rw [key k] at e; exact List.map_eq_nil_iff.mp e), by rw [key n, h.2]; rfl⟩
theorem same_told {nm : Int → Str} {E : Edges} (inj : ∀ a ∈ F, ∀ b ∈ F, nm a = nm b → a = b)
  (hE : ∀ a ∈ F, ∀ y, (nm a, y) ∈ E ↔ ∃ b ∈ G a, b ∈ F ∧ nm b = y) {n n' : Nat} (h : EndsI F G n) (h' : Ends (F.map nm) E n') :
  (stp (F.map nm) E n').1 = (stpI F G n).1.map (·.map nm) ∧ (stp (F.map nm) E n').2.length = (stpI F G n).2.length := by
 have := ends_uniq h' (ends_map inj hE h)
 subst this
 obtain ⟨h1, h2⟩ := stp_map inj hE n'
 exact ⟨h1, by rw [h2, List.length_map]⟩
end
end Mine
namespace Mine
open TI PyProof.Rows.LCg PyProof.Rows.LCt
abbrev iV (p : Int × Tok) : Value := .int p.1 p.2
structure NL where
 ad : Addr
 js : List (Int × Tok)
 c : Nat
abbrev NL.ob (i : NL) : Obj := listOf (i.js.map iV).toArray i.c
def nlsOf (l : List NL) : List (Addr × Obj) := l.map fun i => (i.ad, i.ob)
def nlVs (l : List NL) : List Value := l.map fun i => .ref i.ad
def nlNs (l : List NL) : List (List Int) := l.map fun i => i.js.map (·.1)
theorem ints_of (rp : List (Int × Tok)) : IntsAre (rp.map iV) (rp.map (·.1)) := by
 induction rp with
 | nil => exact .nil
 | cons p r ih => exact .cons p.1 p.2 ih
theorem any_memI {ys : List Int} {g : Int} : ys.any (· == g) = decide (g ∈ ys) := by
 rw [Bool.eq_iff_iff, List.any_eq_true, decide_eq_true_eq]
 constructor
 ·rintro ⟨y, hy, e⟩
  rw [← eq_of_beq e]; exact hy
 ·exact fun h => ⟨g, h, by simp⟩
def pG (F : List Int) (G : Int → List Int) (come : List Int) (q : Int × Tok) : Bool := !decide (q.1 ∈ come) && ((G q.1).filter fun j => decide (j ∈ F) && !decide (j ∈ come)).isEmpty
theorem takeF {α : Type} {l : List α} {p : α → Bool} {i : Nat} {q : α} (h : l[i]? = some q) : (l.take (i + 1)).filter p = (l.take i).filter p ++ if p q = true then [q] else [] := by
 rw [List.take_add_one, h, List.filter_append]
 congr 1
 simp only [Option.toList_some, List.filter_cons, List.filter_nil]
abbrev rnM (rr : Addr) (mg : Option Value) : Str → Option Value := fun y => if y = Str.ofString "group" then mg else if y = Str.ofString "rounds" then some (.ref rr) else none
end Mine
namespace Mine
section
variable {prog : Program} {w : World} {A : Around} {E : Value → Shared → Prop} {s : Shared}
theorem str_meta : ((Value.type ((Manifest.find? "str").elim "type" fun y => y.metatype)) == Value.type "type") = true := by decide +kernel
theorem str_sub : isSubtype (.type "str") (.type "str") = pure true := by rw [isSubtype_type]; kernel_rfl
theorem issub_nested {dep : Int} {tk : Tok} {Q : Fin → Shared → Prop} (hq : Q (.done (.ret (.bool true))) s) :
  wpAny (model prog w) A (Builtin.«issubclass.nested» ⟨[.type "str", .type "str", .int dep tk], []⟩) Q E s := by
 have hm := str_meta
 have hs := str_sub
 repeat (any_goals (first | assumption | (rw [if_pos hm]) | (rw [hs]) | wp_step))
theorem kind_isn : builtinKind "issubclass.nested" = none := by decide +kernel
theorem plain_isn : plainId "issubclass.nested" = true := by decide +kernel
theorem args_isn (a b c : Value) : argsOk "issubclass.nested" ⟨[a, b, c], []⟩ := by unfold argsOk; kernel_rfl
theorem issub_tup0 {D : Addr} {n : Nat} {cs cs' : List Value} {Q : Value → Shared → Prop} (hcs : cs = .type "str" :: cs') (hD : s.heap.get? D = some { cls := .type "tuple", data := .seq cs.toArray n }) (h : ∀ tk, Q (.bool true) { s with toks := tk }) :
  wpAny (model prog w) A (call (.builtin "issubclass") [.type "str", .ref D]) Q E s := by
 refine call_issubclass (S := fun _ R s => s.heap.get? D = some { cls := .type "tuple", data := .seq cs.toArray n } ∧ ∀ tk, R (.ok (.ret (.bool true))) { s with toks := tk }) (fun prog w A R s hs => issubclass_outer ?_) ⟨hD, h⟩
 obtain ⟨hD, hs⟩ := hs
 obtain ⟨h, g, d, t, os⟩ := s
 have hT2 : (⟨h, g, d, t, os⟩ : Shared).TypeIs (.ref D) "tuple" := ⟨_, hD, rfl⟩
 have f1 := F.isi_sub_tuple
 repeat (any_goals (first | assumption | wp_step))
 refine wpAny_arrayLoop ?_
 simp only [Option.getD_some, List.toList_toArray]
 rw [hcs, List.forIn_cons]
 refine wpAny_bind (wpAny_bind (call_function_meets (S := fun _ R s => ∀ tk', R (.ok (.ret (.bool true))) { s with toks := tk' }) kind_isn plain_isn F.entry_issubclass_nested (args_isn _ _ _) (fun prog w A R s hs => issub_nested (hs s.toks)) fun tk' => ?_))
 show wpAny _ _ (truthy (.bool true) >>= _) _ _ _
 refine wpAny_bind (m := truthy (.bool true)) (wpAny_pure ?_)
 refine wpAny_bind (wpAny_pure (wpAny_pure (wpAny_pure ?_)))
 repeat (any_goals (first | assumption | wp_step))
 exact hs tk'
theorem issub_tup {D : Addr} {n : Nat} {Q : Value → Shared → Prop} (hD : s.heap.get? D = some { cls := .type "tuple", data := .seq #[Value.type "str", Value.type "bytes"] n }) (h : ∀ tk, Q (.bool true) { s with toks := tk }) :
  wpAny (model prog w) A (call (.builtin "issubclass") [.type "str", .ref D]) Q E s :=
 issub_tup0 (cs := [.type "str", .type "bytes"]) (n := n) rfl hD h
end
end Mine
local macro_rules | `(tactic| walk_at "subscriptTail Name Slice str ref") => `(tactic| ((walk_at "on str"); (with_reducible show wpAny _ _ (subscriptTail _ (Expr.Slice none (some _) none _) _ _) _ _ _); (with_reducible rename Fr _ _ _ _ => F'); (with_reducible rename News _ _ _ _ => N'); (refine slice_strN_ns (hsz := ?hsz) (s := ⟨_, _, _, _, _⟩) F' N' ?_); (case hsz => (rw [sizeLine_eq]; omega)); intro h' t' k' F' N'))
local macro_rules | `(tactic| walk_at "subscriptTail Name Slice str ref") => `(tactic| ((walk_at "on str"); (with_reducible show wpAny _ _ (subscriptTail _ (Expr.Slice (some _) none none _) _ _) _ _ _); (with_reducible rename Fr _ _ _ _ => F'); (with_reducible rename News _ _ _ _ => N'); (refine slice_strN_sn (hsz := ?hsz) (s := ⟨_, _, _, _, _⟩) F' N' ?_); (case hsz => (rw [sizeLine_eq]; omega)); intro h' t' k' F' N'))
local macro_rules | `(tactic| walk_at "subscriptTail Name Slice str ref") => `(tactic| ((walk_at "on str"); (with_reducible show wpAny _ _ (subscriptTail _ (Expr.Slice (some _) (some _) none _) _ _) _ _ _); (with_reducible rename Fr _ _ _ _ => F'); (with_reducible rename News _ _ _ _ => N'); (refine slice_strN_ss (hsz := ?hsz) (s := ⟨_, _, _, _, _⟩) F' N' ?_); (case hsz => (rw [sizeLine_eq]; omega)); intro h' t' k' F' N'))
local macro_rules | `(tactic| walk_at "call builtin:str.split") => `(tactic| ((walk_at "on str"); (with_reducible rename Fr _ _ _ _ => F'); (with_reducible rename News _ _ _ _ => N'); (refine splitN1 (hsz := ?hsz) F' N' (by first | rfl | decide | kernel_rfl) ?_); (case hsz => (rw [sizeLine_eq]; omega)); intro l' h' k' e' F' N'))
local macro_rules | `(tactic| walk_at "call builtin:issubclass") => `(tactic| ((walk_at "on str"); refine issub_tup (News.get (by k_asm) (by k_mem)) ?_; intro tk'))
namespace Mine
open TI PyProof.Rows.LCg PyProof.Rows.LCt
abbrev sl0 : Str := Str.ofString "/"
def stepG (g : List Str) (nm : Str) : List Str := if nm = Str.ofString ".." then g.dropLast else if nm = Str.ofString "" ∨ nm = Str.ofString "." then g else g ++ [nm]
def goalOf (way : List Str) (lk : Str) : List Str := (Txt.split lk sl0).foldl stepG (if Txt.slice lk none (some 1) = sl0 then [] else way.dropLast)
abbrev goM (lk : Str) (lt : Tok) (wa ga : Addr) (mn : Option Value) : Str → Option Value := fun y =>
 if y = Str.ofString "name" then mn else if y = Str.ofString "goal" then some (.ref ga) else List.lookup y [("link", .str lk lt), ("way", .ref wa)]
theorem any_memS {ys : List Str} {g : Str} : ys.any (· == g) = decide (g ∈ ys) := by
 rw [Bool.eq_iff_iff, List.any_eq_true, decide_eq_true_eq]
 constructor
 ·rintro ⟨y, hy, e⟩
  rw [← eq_of_beq e]; exact hy
 ·exact fun h => ⟨g, h, by simp⟩
theorem dropL (vs : List Value) : (slicePick vs.toArray none (some (-1)) none).toList = vs.dropLast := by
 have := slicePick_butLast vs.toArray 1 (Nat.le_refl 1)
 rw [show (-((1 : Nat) : Int)) = -1 by rfl] at this
 rw [this, List.size_toArray, List.dropLast_eq_take]
theorem dropM {α β : Type} (f : α → β) (l : List α) : (l.map f).dropLast = l.dropLast.map f := by rw [List.dropLast_eq_take, List.dropLast_eq_take, List.length_map, List.map_take]
inductive GoP (lk : Str) (lt : Tok) (wa : Addr) (wo : Obj) (fin : List Str) (sa I : Addr) (so : Obj) (rq : List (Str × Tok)) : (Str → Option Value) → List (Addr × Obj) → Prop
 | mk (mn : Option Value) (ga : Addr) (gc : Nat) (gs : List (Str × Tok)) (e1 : @Ne Nat ga I) (e2 : (rq.map (·.1)).foldl stepG (gs.map (·.1)) = fin) (e3 : gs.length + rq.length ≤ 40) :
  GoP lk lt wa wo fin sa I so rq (goM lk lt wa ga mn) [(sa, so), (ga, listOf (List.map sV gs).toArray gc), (wa, wo)]
theorem GoP.of {lk : Str} {lt : Tok} {wa : Addr} {wo : Obj} {fin : List Str} {sa I : Addr} {so : Obj} {rq : List (Str × Tok)} {m m' : Str → Option Value} {news : List (Addr × Obj)} (e : ∀ y, m y = m' y) (h : GoP lk lt wa wo fin sa I so rq m' news) : GoP lk lt wa wo fin sa I so rq m news := (funext e : m = m') ▸ h
inductive GoV (g1 : Heap) (L1 : Addr) (lk : Str) (lt : Tok) (wa : Addr) (wo : Obj) (st : List Str) (s : Shared) : Value → Shared → Prop
 | mk (ga : Addr) (h : Heap) (tk gc : Nat) (gs : List (Str × Tok)) (e1 : Fr g1 L1 h (fun y => List.lookup y [("link", .str lk lt), ("way", .ref wa)])) (e2 : News g1 L1 h [(ga, listOf (List.map sV gs).toArray gc), (wa, wo)]) (e3 : gs.map (·.1) = st) (e4 : gs.length ≤ 8) :
  GoV g1 L1 lk lt wa wo st s (.ref ga) { s with heap := h, toks := tk }
inductive GoW (g1 : Heap) (L1 : Addr) (lk : Str) (lt : Tok) (wa ga I sz : Addr) (wo so io : Obj) (nv : Value) (st : List Str) (n : Nat) (s : Shared) : Value → Shared → Prop
 | mk (g2 : Addr) (h : Heap) (tk gc : Nat) (gs : List (Str × Tok)) (e1 : Fr g1 L1 h (goM lk lt wa ga (some nv))) (e2 : News g1 L1 h [(I, io), (sz, so), (g2, listOf (List.map sV gs).toArray gc), (wa, wo)]) (e3 : gs.map (·.1) = st) (e4 : gs.length ≤ n) (e5 : @Ne Nat g2 I) :
  GoW g1 L1 lk lt wa ga I sz wo so io nv st n s (.ref g2) { s with heap := h, toks := tk }
theorem goM_nm {lk : Str} {lt : Tok} {wa ga : Addr} {mn : Option Value} {v : Value} (y : Str) : (if y = Str.ofString "name" then some v else goM lk lt wa ga mn y) = goM lk lt wa ga (some v) y := by
 by_cases e2 : y = Str.ofString "name"
 ·subst e2; rfl
 ·simp only [goM, e2, if_false]
theorem goM_g2 {lk : Str} {lt : Tok} {wa ga g : Addr} {mn : Option Value} (y : Str) : (if y = Str.ofString "goal" then some (.ref g) else goM lk lt wa ga mn y) = goM lk lt wa g mn y := by
 by_cases e : y = Str.ofString "goal"
 ·subst e; rfl
 ·by_cases e2 : y = Str.ofString "name"
  ·subst e2; rfl
  ·simp only [goM, e, e2, if_false]
theorem goM_0 {lk : Str} {lt : Tok} {wa ga : Addr} (y : Str) : (if y = Str.ofString "goal" then some (.ref ga) else List.lookup y [("link", .str lk lt), ("way", .ref wa)]) = goM lk lt wa ga none y := by
 by_cases e : y = Str.ofString "name"
 ·subst e; rfl
 ·simp only [goM, e, if_false]
theorem off3 {I a b c : Addr} {x y z : Obj} (h1 : @Ne Nat a I) (h2 : @Ne Nat b I) (h3 : @Ne Nat c I) : ∀ p ∈ [(a, x), (b, y), (c, z)], p.1 ≠ I := List.forall_mem_cons.mpr ⟨h1, List.forall_mem_cons.mpr ⟨h2, List.forall_mem_cons.mpr ⟨h3, List.forall_mem_nil _⟩⟩⟩
theorem drop_fst (l : List (Str × Tok)) : (l.map (·.1)).dropLast = l.dropLast.map (·.1) := dropM _ l
namespace SR02
def h9s_stops := sT
def h9s_exec_For_Name_Call_cons_nil := sT
def h9s_pyIter_ref := sT
def h9s_eval_IfExp := sT
def h9s_binaryOp_Add_ref_ref := sT
def h9s_compareOp_In_str_ref := sT
def h9s_subscriptTail_Name_Slice_ref_ref := sT
def h9s_str := sT
end SR02
open SR02
section
section
variable {prog : Program} {w : World} {p : Program} {loose : List Str} {mean : ExcName → Option Value} {mg mb : Str → Option Value}
 {dp un : Nat} {gd : Option (List Code)} {cn : Str} {cs : Scope} {a : Addr} {ccd : Value} {cl : List (Str × Addr)} {outer : List Env} {A₀ : Around} {base h₀ : Heap} {L : Addr} {m : Str → Option Value} {s : Shared} {Q E : Value → Shared → Prop}
def lgoal_S {wa : Addr} {ws : List (Str × Tok)} {wc : Nat} {lk : Str} {lt : Tok} {rest : List (Addr × Obj)} : Prop := ∀ (B : Below A₀ base outer h₀) (F : Fr h₀ L s.heap m) (X : (KK w.params).In h₀) (N : News h₀ L s.heap ((wa, listOf (ws.map sV).toArray wc) :: rest)) (apw : ∀ q ∈ rest, q.1 ≠ wa) (hlk : lk.length ≤ 20) (hsp : (Txt.split lk sl0).length ≤ 20) (hws : ws.length ≤ 8) (T : Top p loose mean mg mb h₀) (hk : cs.kind = .function) (hdp : dp < 346) (hun : un < 270) (ret : ∀ h' tk' g gs gc, Fr h₀ L h' m → News h₀ L h' ((g, listOf (List.map sV gs).toArray gc) :: (wa, listOf (ws.map sV).toArray wc) :: rest) → gs.map (·.1) = goalOf (ws.map (·.1)) lk → gs.length ≤ 40 → (∀ q ∈ rest, q.1 ≠ g) → Q (.ref g) { s with heap := h', toks := tk' }),
  wpAny (model prog w) (ktrTop dp un gd cn cs L a ccd cl outer) (call (.ref 344) [.ref wa, .str lk lt]) Q E s
end
abbrev lgoal_u (z9 : St1 × St2 × St3 × St4 × (Addr × (List (Str × Tok)) × Nat × Str × Tok × (List (Addr × Obj)))) : Prop := u6 (u6 (u6 (u6 (u6 @lgoal_S z9.1) z9.2.1) z9.2.2.1) z9.2.2.2.1) z9.2.2.2.2
def lgoal_c := eps (by walk_at "ne") lgoal_u
namespace Klgoal
@[irreducible] def prog := lgoal_c.1.1
@[irreducible] def w := lgoal_c.1.2.1
@[irreducible] def p := lgoal_c.1.2.2.1
@[irreducible] def loose := lgoal_c.1.2.2.2.1
@[irreducible] def mean := lgoal_c.1.2.2.2.2.1
@[irreducible] def mg := lgoal_c.1.2.2.2.2.2
@[irreducible] def mb := lgoal_c.2.1.1
@[irreducible] def dp := lgoal_c.2.1.2.1
@[irreducible] def un := lgoal_c.2.1.2.2.1
@[irreducible] def gd := lgoal_c.2.1.2.2.2.1
@[irreducible] def cn := lgoal_c.2.1.2.2.2.2.1
@[irreducible] def cs := lgoal_c.2.1.2.2.2.2.2
@[irreducible] def a := lgoal_c.2.2.1.1
@[irreducible] def ccd := lgoal_c.2.2.1.2.1
@[irreducible] def cl := lgoal_c.2.2.1.2.2.1
@[irreducible] def outer := lgoal_c.2.2.1.2.2.2.1
@[irreducible] def A₀ := lgoal_c.2.2.1.2.2.2.2.1
@[irreducible] def base := lgoal_c.2.2.1.2.2.2.2.2
@[irreducible] def h₀ := lgoal_c.2.2.2.1.1
@[irreducible] def L := lgoal_c.2.2.2.1.2.1
@[irreducible] def m := lgoal_c.2.2.2.1.2.2.1
@[irreducible] def s := lgoal_c.2.2.2.1.2.2.2.1
@[irreducible] def Q := lgoal_c.2.2.2.1.2.2.2.2.1
@[irreducible] def E := lgoal_c.2.2.2.1.2.2.2.2.2
@[irreducible] def wa := lgoal_c.2.2.2.2.1
@[irreducible] def ws := lgoal_c.2.2.2.2.2.1
@[irreducible] def wc := lgoal_c.2.2.2.2.2.2.1
@[irreducible] def lk := lgoal_c.2.2.2.2.2.2.2.1
@[irreducible] def lt := lgoal_c.2.2.2.2.2.2.2.2.1
@[irreducible] def rest := lgoal_c.2.2.2.2.2.2.2.2.2
end Klgoal
section
open Klgoal
theorem lgoal_0 : @lgoal_S prog w p loose mean mg mb dp un gd cn cs a ccd cl outer A₀ base h₀ L m s Q E wa ws wc lk lt rest := by
 have e9 : EpsOn := trivial
 unfold lgoal_S
 intro B F X N apw hlk hsp hws T hk hdp hun ret
 have N0 : News h₀ L s.heap ([(wa, listOf (ws.map sV).toArray wc)] ++ rest) := N
 have apz : Apart [(wa, listOf (ws.map sV).toArray wc)] rest := fun q hq q' hq' => by
  rw [List.mem_singleton.mp hq']; exact apw q hq
 clear N
 refine wpAny_call ?_
 k_dflt ktr_enter
 intro g1 L1 hh1 FG1 F1 N1 B1 X1 T1 l1 hr
 replace F1 : Fr g1 L1 hh1 (fun y => List.lookup y [("link", .str lk lt), ("way", .ref wa)]) := F1
 (try dsimp only); (try k_fold)
 k_steps
 show wpAny _ _ (eval (Expr.IfExp _ _ _ _) _) _ _ _
 refine wpAny_mono (Q := GoV g1 L1 lk lt wa (listOf (ws.map sV).toArray wc) (if Txt.slice lk none (some 1) = sl0 then [] else (ws.map (·.1)).dropLast) s) ?c1 ?c2 (fun _ _ h => h)
 case c1 =>
  clear ret
  refine IfExp_ ?_
  k_steps
  ·with_reducible rename Fr g1 L1 _ _ => FA
   with_reducible rename News g1 L1 _ _ => NA
   with_reducible rename (_ == _) = true => hsl0
   with_reducible rename Addr => ga
   refine .mk ga _ _ 0 [] FA NA ?_ (Nat.zero_le _)
   rw [if_pos (eq_of_beq hsl0)]; rfl
  ·show wpAny _ _ (subscriptTail _ _ (.ref wa) (.ref _)) _ _ _
   with_reducible rename Fr g1 L1 _ _ => FA
   with_reducible rename News g1 L1 _ _ => NA
   with_reducible rename (_ == _) = false => hsl0
   refine kmk_slice_lit (its := (ws.map sV).toArray) (lo := none) (hi := some (-1)) (zs := ws.dropLast.map sV) FA NA (News.isList NA (.head _)) (by kmk_part) (by kmk_part) (by rw [dropL, dropM]) ?_ (by with_unfolding_all rfl) (by kmk_pure) (by rw [List.size_toArray, List.length_map, sizeLine_eq]; omega)
   clear FA NA
   intro ga hG FA NA lga
   refine .mk ga _ _ 0 ws.dropLast FA NA ?_ (by rw [List.length_dropLast]; omega)
   rw [if_neg (by intro e; rw [e] at hsl0; exact absurd hsl0 (by decide)), drop_fst]
 clear F1 N1
 intro a9 s9 W9
 refine GoV.casesOn W9 ?_
 clear W9 a9 s9
 intro ga h2 tk2 gc gs0 FA NA e3 e4
 dsimp only
 k_steps
 show wpAny _ _ (exec (Stmt.For _ _ _ _ _) _) _ _ _
 refine For_turns (by k_asm) ?_
 k_steps
 show wpAny _ _ (pyIter _) _ _ _
 with_reducible rename Fr g1 L1 _ _ => FA
 with_reducible rename News g1 L1 _ _ => NA
 rename_i sp hA kz2 hsl
 generalize hsz : Array.size _ = sz at NA ⊢
 clear hsz
 revert sz
 intro sz NA
 have hspl : sp.length ≤ 20 := by rw [← hsl, List.length_map] at hsp; exact hsp
 refine iter_listTurns (lo := { cls := .type "list", data := .seq (strValues sp).toArray }) (vs := sp.map sV) (n := 0) rfl FA NA (.head _) rfl rfl ?_
 intro I lI
 have lI1 : @LT.lt Nat _ sz I := lI _ (.head _)
 have lI2 : @LT.lt Nat _ ga I := lI _ (.tail _ (.head _))
 have lI3 : @LT.lt Nat _ wa I := lI _ (tl2 (.head _))
 clear lI
 have aI1 : @Ne Nat sz I := Nat.ne_of_lt lI1
 have aI3 : @Ne Nat wa I := Nat.ne_of_lt lI3
 rw [List.map_map]
 refine items_ind (f := Itm.val ∘ sV) (P := GoP lk lt wa (listOf (ws.map sV).toArray wc) (goalOf (ws.map (·.1)) lk) sz I { cls := .type "list", data := .seq (strValues sp).toArray }) ?_ ?_ _ _ _ (GoP.of goM_0 (.mk none ga gc gs0 (Nat.ne_of_lt lI2) ?f0 (by omega)))
 case f0 => rw [hsl, e3]; rfl
 ·clear FA NA
  intro m1 news1 W9
  refine GoP.casesOn W9 ?_
  clear W9 m1 news1
  intro mn ga gc gs nga hf hl
  (refine ItemsRest.zero ?_; intro h tk FK NK)
  k_steps
  rename_i kF kN Tc kX nr
  have apn := apart_of NK hr
  exact ret _ _ ga gs gc kF (fun q hq => by
   rcases List.mem_cons.mp hq with rfl | hq
   ·exact kN _ (.tail _ (.head _))
   ·rcases List.mem_cons.mp hq with rfl | hq
    ·exact kN _ (tl2 (.head _))
    ·exact nr q hq) hf (Nat.le_trans (Nat.le_add_right _ _) hl) (fun q hq => apn q hq _ (.tail _ (.head _)))
 ·clear FA NA
  intro q0 rq m1 news1 W9 ih
  refine GoP.casesOn W9 ?_
  clear W9 m1 news1
  intro mn ga gc gs nga hf hl
  obtain ⟨nm, nt⟩ := q0
  revert nm nt
  intro nm nt
  walk_at "hi"
  simp only [List.length_cons] at hl
  (refine ItemsRest.val1 ?_; intro h tk io hio FK NK)
  k_steps
  show wpAny _ _ (eval (Expr.IfExp _ _ _ _) _) _ _ _
  refine wpAny_mono (Q := GoW g1 L1 lk lt wa ga I sz (listOf (ws.map sV).toArray wc) { cls := .type "list", data := .seq (strValues sp).toArray } io (.str nm nt) (stepG (gs.map (·.1)) nm) (gs.length + 1) s) ?d1 ?d2 (fun _ _ h => h)
  case d1 =>
   clear ret ih
   refine IfExp_ ?_
   k_steps
   ·show wpAny _ _ (subscriptTail _ _ (.ref ga) (.ref _)) _ _ _
    with_reducible rename (_ == _) = true => hdd
    with_reducible rename Fr g1 L1 _ _ => FB
    with_reducible rename News g1 L1 _ _ => NB
    refine kmk_slice_lit (its := (gs.map sV).toArray) (lo := none) (hi := some (-1)) (zs := gs.dropLast.map sV) FB NB (News.isList NB (tl2 (.head _))) (by kmk_part) (by kmk_part) (by rw [dropL, dropM]) ?_ (by with_unfolding_all rfl) (by kmk_pure) (by rw [List.size_toArray, List.length_map, sizeLine_eq]; omega)
    intro g2 hG2 FC NC l2
    refine .mk g2 _ _ 0 gs.dropLast (fr_map FC goM_nm) (fun q hq => NC q (sub_of (by walk_at "sub") hq)) ?_ (by rw [List.length_dropLast]; omega) (Nat.ne_of_gt (l2 _ (.head _)))
    have : nm = Str.ofString ".." := eq_of_beq hdd
    rw [← drop_fst]
    exact (if_pos this).symm
   ·with_reducible rename (_ == _) = false => hdd
    have hdd' : nm ≠ Str.ofString ".." := fun e => by
     have hdd : (nm == Str.ofString "..") = false := hdd
     rw [e] at hdd; exact absurd hdd (by decide)
    show wpAny _ _ (eval (Expr.IfExp _ _ _ _) _) _ _ _
    refine IfExp_ ?_
    k_steps
    show wpAny _ _ (compareOp .In (.str nm nt) (.ref _)) _ _ _
    refine in_list_strs (vs := [_, _]) (ys := [Str.ofString "", Str.ofString "."]) (News.isList (by k_asm) (by k_mem)) (.cons _ _ (.cons _ _ .nil)) ?_
    rw [any_memS]
    by_cases hin : nm ∈ [Str.ofString "", Str.ofString "."]
    ·rw [decide_eq_true hin]
     k_steps
     with_reducible rename Fr g1 L1 _ _ => FM
     with_reducible rename News g1 L1 _ _ => NM
     refine .mk ga _ _ gc gs (fr_map FM goM_nm) (fun q hq => NM q (sub_of (by walk_at "sub") hq)) ?_ (Nat.le_succ _) nga
     unfold stepG; rw [if_neg hdd', if_pos (by simpa using hin)]
    ·rw [decide_eq_false hin]
     k_steps
     show wpAny _ _ (binaryOp .Add (.ref ga) (.ref _)) _ _ _
     refine kmk_add_lit (its := (gs.map sV).toArray) (its2 := #[.str nm nt]) (zs := (gs ++ [(nm, nt)]).map sV) (by k_asm) (by k_asm) (by kmk_list) (by kmk_list) (by simp) ?_ (by rw [sizeLine_eq]; simp; omega)
     intro g2 hG2 FC NC l2
     refine .mk g2 _ _ 0 (gs ++ [(nm, nt)]) (fr_map FC goM_nm) (fun q hq => NC q (sub_of (by walk_at "sub") hq)) ?_ (by rw [List.length_append, List.length_singleton]; exact Nat.le_refl _) (Nat.ne_of_gt (l2 _ (tl2 (.head _))))
     unfold stepG; rw [if_neg hdd', if_neg (by simpa using hin), List.map_append]; rfl
  clear FK NK
  intro a9 s9 W9
  refine GoW.casesOn W9 ?_
  clear W9 a9 s9
  intro g2 h2 tk2 gc2 gs2 FA NA e3 e4 nI
  dsimp only
  k_steps
  show UnrEndW _ _ _ _ _ _
  with_reducible rename Fr g1 L1 _ _ => FM
  with_reducible rename News g1 L1 _ _ => NM
  refine unrEnd1 (m' := goM lk lt wa g2 (some (.str nm nt))) (news' := [(sz, { cls := .type "list", data := .seq (strValues sp).toArray }), (g2, listOf (gs2.map sV).toArray gc2), (wa, listOf (ws.map sV).toArray wc)]) (fr_map FM goM_g2)
   (fun q hq => NM q hq) (off3 aI1 nI aI3) ⟨⟨.head _, trivial⟩, ih _ _ (.mk _ g2 _ _ nI ?f1 (by omega))⟩
  case f1 =>
   rw [← hf, e3]; rfl
end
theorem lgoal {prog w p loose mean mg mb dp un gd cn cs a ccd cl outer A₀ base h₀ L m s Q E wa ws wc lk lt rest} : @lgoal_S prog w p loose mean mg mb dp un gd cn cs a ccd cl outer A₀ base h₀ L m s Q E wa ws wc lk lt rest :=
 eps_all (S := lgoal_u) lgoal_c rfl (by have := lgoal_0; with_unfolding_all assumption) ((prog, w, p, loose, mean, mg), (mb, dp, un, gd, cn, cs), (a, ccd, cl, outer, A₀, base), (h₀, L, m, s, Q, E), (wa, ws, wc, lk, lt, rest))
end
end Mine
namespace Mine
open TI PyProof.Rows.LCg PyProof.Rows.LCt
namespace SR03
def h9s_stops := sT
def h9s_exec_For_Name_Name_cons_nil := sT
def h9s_pyIter_ref := sT
def h9s_str := sT
end SR03
open SR03
section
section
variable {prog : Program} {w : World} {p : Program} {loose : List Str} {mean : ExcName → Option Value} {mg mb : Str → Option Value}
 {dp un : Nat} {gd : Option (List Code)} {cn : Str} {cs : Scope} {a : Addr} {ccd : Value} {cl : List (Str × Addr)} {outer : List Env} {A₀ : Around} {base h₀ : Heap} {L : Addr} {m : Str → Option Value} {s : Shared} {Q E : Value → Shared → Prop}
def fsp_S {P : Str} {pt : Tok} {news : List (Addr × Obj)} : Prop := ∀ (B : Below A₀ base outer h₀) (F : Fr h₀ L s.heap m) (X : (KK w.params).In h₀) (N : News h₀ L s.heap news) (T : Top p loose mean mg mb h₀) (hk : cs.kind = .function) (hdp : dp < 350) (hun : un < 290) (ret : ∀ h' tk', Fr h₀ L h' m → News h₀ L h' news → Q (.str P pt) { s with heap := h', toks := tk' }),
  wpAny (model prog w) (ktrTop dp un gd cn cs L a ccd cl outer) (call (.ref 214) [.str P pt]) Q E s
end
abbrev fsp_u (z9 : St1 × St2 × St3 × St4 × (Str × Tok × (List (Addr × Obj)))) : Prop := u3 (u6 (u6 (u6 (u6 @fsp_S z9.1) z9.2.1) z9.2.2.1) z9.2.2.2.1) z9.2.2.2.2
def fsp_c := eps (by walk_at "ne") fsp_u
namespace Kfsp
@[irreducible] def prog := fsp_c.1.1
@[irreducible] def w := fsp_c.1.2.1
@[irreducible] def p := fsp_c.1.2.2.1
@[irreducible] def loose := fsp_c.1.2.2.2.1
@[irreducible] def mean := fsp_c.1.2.2.2.2.1
@[irreducible] def mg := fsp_c.1.2.2.2.2.2
@[irreducible] def mb := fsp_c.2.1.1
@[irreducible] def dp := fsp_c.2.1.2.1
@[irreducible] def un := fsp_c.2.1.2.2.1
@[irreducible] def gd := fsp_c.2.1.2.2.2.1
@[irreducible] def cn := fsp_c.2.1.2.2.2.2.1
@[irreducible] def cs := fsp_c.2.1.2.2.2.2.2
@[irreducible] def a := fsp_c.2.2.1.1
@[irreducible] def ccd := fsp_c.2.2.1.2.1
@[irreducible] def cl := fsp_c.2.2.1.2.2.1
@[irreducible] def outer := fsp_c.2.2.1.2.2.2.1
@[irreducible] def A₀ := fsp_c.2.2.1.2.2.2.2.1
@[irreducible] def base := fsp_c.2.2.1.2.2.2.2.2
@[irreducible] def h₀ := fsp_c.2.2.2.1.1
@[irreducible] def L := fsp_c.2.2.2.1.2.1
@[irreducible] def m := fsp_c.2.2.2.1.2.2.1
@[irreducible] def s := fsp_c.2.2.2.1.2.2.2.1
@[irreducible] def Q := fsp_c.2.2.2.1.2.2.2.2.1
@[irreducible] def E := fsp_c.2.2.2.1.2.2.2.2.2
@[irreducible] def P := fsp_c.2.2.2.2.1
@[irreducible] def pt := fsp_c.2.2.2.2.2.1
@[irreducible] def news := fsp_c.2.2.2.2.2.2
end Kfsp
section
open Kfsp
theorem fsp_0 : @fsp_S prog w p loose mean mg mb dp un gd cn cs a ccd cl outer A₀ base h₀ L m s Q E P pt news := by
 have e9 : EpsOn := trivial
 unfold fsp_S
 intro B F X N T hk hdp hun ret
 have N0 : News h₀ L s.heap ([] ++ news) := N
 have apz : Apart [] news := fun q hq q' hq' => (nomatch hq')
 clear N
 refine wpAny_call ?_
 k_dflt ktr_enter
 intro g1 L1 hh1 FG1 F1 N1 B1 X1 T1 l1 hr
 replace F1 : Fr g1 L1 hh1 (fun y => List.lookup y [("path", .str P pt)]) := F1
 (try dsimp only); (try k_fold)
 k_steps
 rename_i kF kN Tc kX nr
 exact ret _ _ kF nr
end
theorem fsp {prog w p loose mean mg mb dp un gd cn cs a ccd cl outer A₀ base h₀ L m s Q E P pt news} : @fsp_S prog w p loose mean mg mb dp un gd cn cs a ccd cl outer A₀ base h₀ L m s Q E P pt news :=
 eps_all (S := fsp_u) fsp_c rfl (by have := fsp_0; with_unfolding_all assumption) ((prog, w, p, loose, mean, mg), (mb, dp, un, gd, cn, cs), (a, ccd, cl, outer, A₀, base), (h₀, L, m, s, Q, E), (P, pt, news))
end
end Mine
namespace Mine
open TI PyProof.Rows.LCg PyProof.Rows.LCt
abbrev npM (P1 : Str) (ta tb tc td te tf : Tok) (ca ga : Addr) (mc : Option Value) : Str → Option Value := fun y =>
 if y = Str.ofString "comp" then mc else if y = Str.ofString "new_comps" then some (.ref ga) else if y = Str.ofString "comps" then some (.ref ca) else if y = Str.ofString "path" then some (.str P1 ta) else if y = Str.ofString "initial_slashes" then some (.str (Str.ofString "/") tb)
 else if y = Str.ofString "_" then some (.str (Str.ofString "") tc) else if y = Str.ofString "dotdot" then some (.str (Str.ofString "..") td) else if y = Str.ofString "dot" then some (.str (Str.ofString ".") te) else if y = Str.ofString "sep" then some (.str (Str.ofString "/") tf) else none
inductive NpP (P1 : Str) (ta tb tc td te tf : Tok) (ca ga : Addr) (so : Obj) (fin : List Str) (rq : List (Str × Tok)) : (Str → Option Value) → List (Addr × Obj) → Prop
 | mk (mc : Option Value) (gs : List (Str × Tok)) (gc : Nat) (e1 : (rq.map (·.1)).foldl stepG (gs.map (·.1)) = fin) (e2 : gs.length + rq.length ≤ 60) (e3 : ∀ q ∈ rq, q.1.length ≤ 100) (e4 : Str.ofString ".." ∉ gs.map (·.1)) :
  NpP P1 ta tb tc td te tf ca ga so fin rq (npM P1 ta tb tc td te tf ca ga mc) [(ga, listOf (List.map sV gs).toArray gc), (ca, so)]
theorem npM_c {P1 : Str} {ta tb tc td te tf : Tok} {ca ga : Addr} {mc : Option Value} {v : Value} (y : Str) : (if y = Str.ofString "comp" then some v else npM P1 ta tb tc td te tf ca ga mc y) = npM P1 ta tb tc td te tf ca ga (some v) y := by
 by_cases e : y = Str.ofString "comp"
 ·subst e; rfl
 ·simp only [npM, e, if_false]
theorem npM_0 {P P1 : Str} {pt ta tb tc td te tf : Tok} {ca ga : Addr} (y : Str) : (if y = Str.ofString "new_comps" then some (.ref ga) else if y = Str.ofString "comps" then some (.ref ca) else if y = Str.ofString "path" then some (.str P1 ta) else if y = Str.ofString "initial_slashes" then some (.str (Str.ofString "/") tb)
 else if y = Str.ofString "_" then some (.str (Str.ofString "") tc) else if y = Str.ofString "dotdot" then some (.str (Str.ofString "..") td) else if y = Str.ofString "dot" then some (.str (Str.ofString ".") te) else if y = Str.ofString "sep" then some (.str (Str.ofString "/") tf) else List.lookup y [(Str.ofString "path", .str P pt)]) = npM P1 ta tb tc td te tf ca ga none y := by
 by_cases e1 : y = Str.ofString "comp"
 ·subst e1; rfl
 ·by_cases e2 : y = Str.ofString "path"
  ·subst e2; rfl
  ·have e3 : List.lookup y [(Str.ofString "path", Value.str P pt)] = none := by simp only [List.lookup, beq_false_of_ne e2]
   simp only [npM, e1, e2, e3, if_false]
theorem off2 {I a b : Addr} {x y : Obj} (h1 : @LT.lt Nat _ a I) (h2 : @LT.lt Nat _ b I) : ∀ p ∈ [(a, x), (b, y)], p.1 ≠ I := List.forall_mem_cons.mpr ⟨Nat.ne_of_lt h1, List.forall_mem_cons.mpr ⟨Nat.ne_of_lt h2, List.forall_mem_nil _⟩⟩
theorem str_nil {x : Str} (h : x.length = 0) : x = Str.ofString "" := by
 obtain ⟨c⟩ := x
 have : c.size = 0 := h
 have : c = #[] := Array.eq_empty_of_size_eq_zero this
 subst this; rfl
theorem snoc_of {α : Type} {l : List α} (h : l ≠ []) : ∃ r x, l = r ++ [x] := ⟨l.dropLast, l.getLast h, (List.dropLast_concat_getLast h).symm⟩
theorem strs_ofR (rp : List (Str × Tok)) : StrsAre (rp.map sV) (rp.map (·.1)) := by
 induction rp with
 | nil => exact .nil
 | cons p r ih => exact .cons p.1 p.2 ih
def normG (P : Str) : List Str := (Txt.split (Txt.slice P (some 1) none) sl0).foldl stepG []
namespace SR04
def h9s_stops := sT
def h9s_exec_For_Name_Name_cons_nil := sT
def h9s_pyIter_ref := sT
def h9s_str := sT
def h9s_binaryOp_Add_str_str := sT
def h9s_call_builtin_str_join := sT
def h9s_truthy_ref := sT
def h9s_call_builtin_list_pop := sT
def h9s_subscriptTail_Name_UnaryOp_ref_int := sT
def h9s_call_ref := sT
def h9s_truthy_str := sT
def h9s_compareOp_NotEq_str_str := sT
def h9s_compareOp_Eq_str_str := sT
end SR04
open SR04
section
section
variable {prog : Program} {w : World} {p : Program} {loose : List Str} {mean : ExcName → Option Value} {mg mb : Str → Option Value}
 {dp un : Nat} {gd : Option (List Code)} {cn : Str} {cs : Scope} {a : Addr} {ccd : Value} {cl : List (Str × Addr)} {outer : List Env} {A₀ : Around} {base h₀ : Heap} {L : Addr} {m : Str → Option Value} {s : Shared} {Q E : Value → Shared → Prop}
def sroot_S {P : Str} {pt : Tok} {rest : List (Addr × Obj)} : Prop := ∀ (B : Below A₀ base outer h₀) (F : Fr h₀ L s.heap m) (X : (KK w.params).In h₀) (N : News h₀ L s.heap rest) (hP : P.length ≤ 40) (hA : (Txt.slice P none (some 1) != Str.ofString "/") = false) (hB : (Txt.slice P (some 1) (some 2) != Str.ofString "/") = true) (T : Top p loose mean mg mb h₀) (hk : cs.kind = .function) (hdp : dp < 348) (hun : un < 280) (ret : ∀ h' tk' D t1 t2 t3, Fr h₀ L h' m → News h₀ L h' ((D, tupOf [.str (Str.ofString "") t1, .str (Str.ofString "/") t2, .str (Txt.slice P (some 1) none) t3]) :: rest) → (∀ q ∈ rest, q.1 ≠ D) → Q (.ref D) { s with heap := h', toks := tk' }),
  wpAny (model prog w) (ktrTop dp un gd cn cs L a ccd cl outer) (call (.ref 242) [.str P pt]) Q E s
end
abbrev sroot_u (z9 : St1 × St2 × St3 × St4 × (Str × Tok × (List (Addr × Obj)))) : Prop := u3 (u6 (u6 (u6 (u6 @sroot_S z9.1) z9.2.1) z9.2.2.1) z9.2.2.2.1) z9.2.2.2.2
def sroot_c := eps (by walk_at "ne") sroot_u
namespace Ksroot
@[irreducible] def prog := sroot_c.1.1
@[irreducible] def w := sroot_c.1.2.1
@[irreducible] def p := sroot_c.1.2.2.1
@[irreducible] def loose := sroot_c.1.2.2.2.1
@[irreducible] def mean := sroot_c.1.2.2.2.2.1
@[irreducible] def mg := sroot_c.1.2.2.2.2.2
@[irreducible] def mb := sroot_c.2.1.1
@[irreducible] def dp := sroot_c.2.1.2.1
@[irreducible] def un := sroot_c.2.1.2.2.1
@[irreducible] def gd := sroot_c.2.1.2.2.2.1
@[irreducible] def cn := sroot_c.2.1.2.2.2.2.1
@[irreducible] def cs := sroot_c.2.1.2.2.2.2.2
@[irreducible] def a := sroot_c.2.2.1.1
@[irreducible] def ccd := sroot_c.2.2.1.2.1
@[irreducible] def cl := sroot_c.2.2.1.2.2.1
@[irreducible] def outer := sroot_c.2.2.1.2.2.2.1
@[irreducible] def A₀ := sroot_c.2.2.1.2.2.2.2.1
@[irreducible] def base := sroot_c.2.2.1.2.2.2.2.2
@[irreducible] def h₀ := sroot_c.2.2.2.1.1
@[irreducible] def L := sroot_c.2.2.2.1.2.1
@[irreducible] def m := sroot_c.2.2.2.1.2.2.1
@[irreducible] def s := sroot_c.2.2.2.1.2.2.2.1
@[irreducible] def Q := sroot_c.2.2.2.1.2.2.2.2.1
@[irreducible] def E := sroot_c.2.2.2.1.2.2.2.2.2
@[irreducible] def P := sroot_c.2.2.2.2.1
@[irreducible] def pt := sroot_c.2.2.2.2.2.1
@[irreducible] def rest := sroot_c.2.2.2.2.2.2
end Ksroot
section
open Ksroot
theorem sroot_0 : @sroot_S prog w p loose mean mg mb dp un gd cn cs a ccd cl outer A₀ base h₀ L m s Q E P pt rest := by
 have e9 : EpsOn := trivial
 unfold sroot_S
 intro B F X N hP hA hB T hk hdp hun ret
 have N0 : News h₀ L s.heap ([] ++ rest) := N
 have apz : Apart [] rest := fun q hq q' hq' => (nomatch hq')
 clear N
 refine wpAny_call ?_
 k_dflt ktr_enter
 intro g1 L1 hh1 FG1 F1 N1 B1 X1 T1 l1 hr
 replace F1 : Fr g1 L1 hh1 (fun y => List.lookup y [("p", .str P pt)]) := F1
 (try dsimp only); (try k_fold)
 k_steps
 show wpAny _ _ (call (.ref 214) [.str P pt]) _ _ _
 refine fsp B1 F1 X1 N1 T1 rfl (by show dp + 1 < 350; omega) (by show un + 3 < 290; omega) ?_
 clear F1 N1
 intro h2 tk2 F2 N2
 k_steps
 show wpAny _ _ (compareOp .NotEq (.str _ _) (.str _ _)) _ _ _
 refine PyProof.Rows.ne_str ?_
 rw [hA]
 k_steps
 show wpAny _ _ (compareOp .NotEq (.str _ _) (.str _ _)) _ _ _
 refine PyProof.Rows.ne_str ?_
 rw [hB]
 k_steps
 rename_i D hD Fz Nz lz kF kN Tc kX nr
 exact ret _ _ D _ _ _ kF (fun q hq => (List.mem_cons.mp hq).elim (fun e => e ▸ kN _ (.head _)) (nr q)) fun q hq => apart_of Nz hr q hq _ (.head _)
end
theorem sroot {prog w p loose mean mg mb dp un gd cn cs a ccd cl outer A₀ base h₀ L m s Q E P pt rest} : @sroot_S prog w p loose mean mg mb dp un gd cn cs a ccd cl outer A₀ base h₀ L m s Q E P pt rest :=
 eps_all (S := sroot_u) sroot_c rfl (by have := sroot_0; with_unfolding_all assumption) ((prog, w, p, loose, mean, mg), (mb, dp, un, gd, cn, cs), (a, ccd, cl, outer, A₀, base), (h₀, L, m, s, Q, E), (P, pt, rest))
section
variable {prog : Program} {w : World} {p : Program} {loose : List Str} {mean : ExcName → Option Value} {mg mb : Str → Option Value}
 {dp un : Nat} {gd : Option (List Code)} {cn : Str} {cs : Scope} {a : Addr} {ccd : Value} {cl : List (Str × Addr)} {outer : List Env} {A₀ : Around} {base h₀ : Heap} {L : Addr} {m : Str → Option Value} {s : Shared} {Q E : Value → Shared → Prop}
def norm_S {P : Str} {pt : Tok} {rest : List (Addr × Obj)} : Prop := ∀ (B : Below A₀ base outer h₀) (F : Fr h₀ L s.heap m) (X : (KK w.params).In h₀) (N : News h₀ L s.heap rest) (hP : P.length ≤ 40) (hsum : ((normG P).map (·.length)).sum + (normG P).length * 64 ≤ 16777216) (hjl : (Txt.join sl0 (normG P)).length ≤ 100) (h0 : ((P.length : Int) != 0) = true) (hspw : ∀ y ∈ Txt.split (Txt.slice P (some 1) none) sl0, y.length ≤ 100) (hsp : (Txt.split (Txt.slice P (some 1) none) sl0).length ≤ 20) (hA : (Txt.slice P none (some 1) != Str.ofString "/") = false) (hB : (Txt.slice P (some 1) (some 2) != Str.ofString "/") = true) (T : Top p loose mean mg mb h₀) (hk : cs.kind = .function) (hdp : dp < 344) (hun : un < 250) (ret : ∀ h' tk' t', Fr h₀ L h' m → News h₀ L h' rest → Q (.str (Str.ofString "/" ++ Txt.join sl0 (normG P)) t') { s with heap := h', toks := tk' }),
  wpAny (model prog w) (ktrTop dp un gd cn cs L a ccd cl outer) (call (.ref 256) [.str P pt]) Q E s
end
abbrev norm_u (z9 : St1 × St2 × St3 × St4 × (Str × Tok × (List (Addr × Obj)))) : Prop := u3 (u6 (u6 (u6 (u6 @norm_S z9.1) z9.2.1) z9.2.2.1) z9.2.2.2.1) z9.2.2.2.2
def norm_c := eps (by walk_at "ne") norm_u
namespace Knorm
@[irreducible] def prog := norm_c.1.1
@[irreducible] def w := norm_c.1.2.1
@[irreducible] def p := norm_c.1.2.2.1
@[irreducible] def loose := norm_c.1.2.2.2.1
@[irreducible] def mean := norm_c.1.2.2.2.2.1
@[irreducible] def mg := norm_c.1.2.2.2.2.2
@[irreducible] def mb := norm_c.2.1.1
@[irreducible] def dp := norm_c.2.1.2.1
@[irreducible] def un := norm_c.2.1.2.2.1
@[irreducible] def gd := norm_c.2.1.2.2.2.1
@[irreducible] def cn := norm_c.2.1.2.2.2.2.1
@[irreducible] def cs := norm_c.2.1.2.2.2.2.2
@[irreducible] def a := norm_c.2.2.1.1
@[irreducible] def ccd := norm_c.2.2.1.2.1
@[irreducible] def cl := norm_c.2.2.1.2.2.1
@[irreducible] def outer := norm_c.2.2.1.2.2.2.1
@[irreducible] def A₀ := norm_c.2.2.1.2.2.2.2.1
@[irreducible] def base := norm_c.2.2.1.2.2.2.2.2
@[irreducible] def h₀ := norm_c.2.2.2.1.1
@[irreducible] def L := norm_c.2.2.2.1.2.1
@[irreducible] def m := norm_c.2.2.2.1.2.2.1
@[irreducible] def s := norm_c.2.2.2.1.2.2.2.1
@[irreducible] def Q := norm_c.2.2.2.1.2.2.2.2.1
@[irreducible] def E := norm_c.2.2.2.1.2.2.2.2.2
@[irreducible] def P := norm_c.2.2.2.2.1
@[irreducible] def pt := norm_c.2.2.2.2.2.1
@[irreducible] def rest := norm_c.2.2.2.2.2.2
end Knorm
section
open Knorm
theorem norm_0 : @norm_S prog w p loose mean mg mb dp un gd cn cs a ccd cl outer A₀ base h₀ L m s Q E P pt rest := by
 have e9 : EpsOn := trivial
 unfold norm_S
 intro B F X N hP hsum hjl h0 hspw hsp hA hB T hk hdp hun ret
 have N0 : News h₀ L s.heap ([] ++ rest) := N
 have apz : Apart [] rest := fun q hq q' hq' => (nomatch hq')
 clear N
 refine wpAny_call ?_
 k_dflt ktr_enter
 intro g1 L1 hh1 FG1 F1 N1 B1 X1 T1 l1 hr
 replace F1 : Fr g1 L1 hh1 (fun y => List.lookup y [("path", .str P pt)]) := F1
 (try dsimp only); (try k_fold)
 k_steps
 show wpAny _ _ (call (.ref 214) [.str P pt]) _ _ _
 refine fsp B1 F1 X1 N1 T1 rfl (by show dp + 1 < 350; omega) (by show un + 3 < 290; omega) ?_
 clear F1 N1
 intro h2 tk2 F2 N2
 k_steps
 show wpAny _ _ (truthy (.str P pt)) _ _ _
 refine _root_.PySem.P.truthy_str (by omega) ?_
 rw [show ((P.length : Int) != 0) = true from h0]
 k_steps
 show wpAny _ _ (call (.ref 242) [.str P pt]) _ _ _
 with_reducible rename Fr g1 L1 _ _ => FB
 with_reducible rename News g1 L1 _ _ => NB
 refine sroot B1 FB X1 NB hP hA hB T1 rfl (by show dp + 1 < 348; omega) (by show un + 3 < 280; omega) ?_
 clear FB NB
 intro h3 tk3 D t1 t2 t3 F3 N3 _
 have hsl : (Txt.slice P (some 1) none).length ≤ P.length := PyProof.Txt.length_slice_le P (some 1) none
 k_steps
 show wpAny _ _ (exec (Stmt.For _ _ _ _ _) _) _ _ _
 refine For_turns (by k_asm) ?_
 k_steps
 show wpAny _ _ (pyIter _) _ _ _
 rename_i sp hz1 kz1 hspl hz2 ga hz3 lga hA FA NA
 generalize Heap.objs _ = hobj at FA NA lga ⊢
 revert hobj
 intro hobj
 walk_at "hi"
 generalize Array.size hobj = ca at FA NA lga ⊢
 revert ca
 intro ca
 walk_at "hi"
 replace FA : Fr g1 L1 hA (npM (Txt.slice P (some 1) none) _ _ _ _ _ _ ca ga none) := fr_map FA (fun y => by
  by_cases e1 : y = Str.ofString "comp"
  ·subst e1; rfl
  ·by_cases e2 : y = Str.ofString "path"
   ·subst e2; rfl
   ·have e3 : List.lookup y [(Str.ofString "path", Value.str P pt)] = none := by simp only [List.lookup, beq_false_of_ne e2]
    simp only [npM, e1, e2, e3, if_false]
    rfl)
 replace NA : News g1 L1 hA [(ga, listOf (([] : List (Str × Tok)).map sV).toArray 0), (ca, { cls := .type "list", data := .seq (strValues sp).toArray })] := fun q hq => NA q (by
  rcases List.mem_cons.mp hq with rfl | hq
  ·exact .head _
  ·exact .tail _ (List.mem_singleton.mp hq ▸ .head _))
 have hspl2 : sp.length ≤ 20 := by rw [← List.length_map (f := fun x : Str × Tok => x.1), hspl]; exact hsp
 refine iter_listTurns (lo := { cls := .type "list", data := .seq (strValues sp).toArray }) (vs := sp.map sV) (n := 0) rfl FA NA (.tail _ (.head _)) rfl rfl ?_
 intro I lI
 have lI1 : @LT.lt Nat _ ga I := lI _ (.head _)
 have lI2 : @LT.lt Nat _ ca I := lI _ (.tail _ (.head _))
 clear lI
 rw [List.map_map]
 refine items_ind (f := Itm.val ∘ sV) (P := NpP (Txt.slice P (some 1) none) _ _ _ _ _ _ ca ga { cls := .type "list", data := .seq (strValues sp).toArray } (normG P)) ?_ ?_ _ _ _ (.mk none [] 0 (by rw [hspl]; rfl) (by rw [List.length_nil]; omega) (fun q hq => hspw q.1 (by show q.1 ∈ Txt.split (Txt.slice P (some 1) none) (Str.ofString "/"); rw [← hspl]; exact List.mem_map_of_mem hq)) (fun h => (nomatch h)))
 ·clear FA NA
  intro m1 news1 W9
  refine NpP.casesOn W9 ?_
  clear W9 m1 news1
  intro mc gs gc hf hl hln hdd
  (refine ItemsRest.zero ?_; intro h tk FK NK)
  k_steps
  show wpAny _ _ (call (.builtin "str.join") [.str sl0 _, .ref ga]) _ _ _
  have hf : gs.map (·.1) = normG P := hf
  refine join_listC (items := (gs.map sV).toArray) (ys := gs.map (·.1)) (News.isList (by k_asm) (by k_mem)) (by exact strs_ofR gs) (by decide) (by rw [hf]; exact hsum) ?_
  intro tj tkj
  rw [hf]
  k_steps
  show wpAny _ _ (binaryOp .Add (.str _ _) (.str _ _)) _ _ _
  refine PyProof.Rows.add_str ?_ (by rw [sizeLine_eq, show (Str.ofString "/").length = 1 by decide]; omega)
  intro ta tka
  k_steps
  show wpAny _ _ (truthy (.str _ _)) _ _ _
  have hlj : (Str.ofString "/" ++ Txt.join sl0 (normG P)).length = 1 + (Txt.join sl0 (normG P)).length := by rw [Str.length_append]; rfl
  refine _root_.PySem.P.truthy_str (by rw [hlj]; omega) ?_
  rw [show (((Str.ofString "/" ++ Txt.join sl0 (normG P)).length : Int) != 0) = true from by rw [hlj, bne_iff_ne]; omega]
  k_steps
  rename_i kF kN Tc kX nr
  exact ret _ _ _ kF nr
 ·clear FA NA
  intro q0 rq m1 news1 W9 ih
  refine NpP.casesOn W9 ?_
  clear W9 m1 news1
  intro mc gs gc hf hl hln hdd
  obtain ⟨nm, nt⟩ := q0
  revert nm nt
  intro nm nt
  walk_at "hi"
  simp only [List.length_cons] at hl
  (refine ItemsRest.val1 ?_; intro h tk io hio FK NK)
  replace NK : News g1 L1 h [(I, io), (ga, listOf (gs.map sV).toArray gc), (ca, { cls := .type "list", data := .seq (strValues sp).toArray })] := NK
  k_steps
  show wpAny _ _ (truthy (.str nm nt)) _ _ _
  have hnl := hln (nm, nt) (.head _)
  have hnl : nm.length ≤ 100 := hnl
  refine _root_.PySem.P.truthy_str (by omega) ?_
  by_cases hn : nm = Str.ofString ""
  ·rw [show ((nm.length : Int) != 0) = false from by rw [hn]; rfl]
   k_steps
   show UnrEndW _ _ _ _ _ _
   with_reducible rename Fr g1 L1 _ _ => FM
   with_reducible rename News g1 L1 _ _ => NM
   refine unrEnd1 (m' := npM (Txt.slice P (some 1) none) _ _ _ _ _ _ ca ga (some (.str nm nt))) (news' := [(ga, listOf (gs.map sV).toArray gc), (ca, { cls := .type "list", data := .seq (strValues sp).toArray })]) (fr_map FM npM_c) NM (off2 lI1 lI2) ⟨⟨.tail _ (.head _), trivial⟩, ih _ _ (.mk _ gs _ ?f1 ?l1 (fun q hq => hln q (.tail _ hq)) ?d1)⟩
   case f1 =>
    rw [← hf]
    show List.foldl stepG (gs.map (·.1)) _ = List.foldl stepG (stepG (gs.map (·.1)) nm) _
    rw [show stepG (gs.map (·.1)) nm = gs.map (·.1) from by unfold stepG; rw [if_neg (by rw [hn]; decide), if_pos (.inl hn)]]
   case l1 => omega
   case d1 => exact hdd
  ·rw [show ((nm.length : Int) != 0) = true from by rw [bne_iff_ne]; intro e; exact hn (str_nil (by omega))]
   k_steps
   show wpAny _ _ (compareOp .Eq (.str nm nt) (.str _ _)) _ _ _
   refine PyProof.Rows.eq_str ?_
   by_cases hd : nm = Str.ofString "."
   ·rw [show (nm == Str.ofString ".") = true from by rw [hd]; decide]
    k_steps
    show UnrEndW _ _ _ _ _ _
    with_reducible rename Fr g1 L1 _ _ => FM
    with_reducible rename News g1 L1 _ _ => NM
    refine unrEnd1 (m' := npM (Txt.slice P (some 1) none) _ _ _ _ _ _ ca ga (some (.str nm nt))) (news' := [(ga, listOf (gs.map sV).toArray gc), (ca, { cls := .type "list", data := .seq (strValues sp).toArray })]) (fr_map FM npM_c) NM (off2 lI1 lI2) ⟨⟨.tail _ (.head _), trivial⟩, ih _ _ (.mk _ gs _ ?f1 ?l1 (fun q hq => hln q (.tail _ hq)) ?d1)⟩
    case f1 =>
     rw [← hf]
     show List.foldl stepG (gs.map (·.1)) _ = List.foldl stepG (stepG (gs.map (·.1)) nm) _
     rw [show stepG (gs.map (·.1)) nm = gs.map (·.1) from by unfold stepG; rw [if_neg (by rw [hd]; decide), if_pos (.inr hd)]]
    case l1 => omega
    case d1 => exact hdd
   ·rw [show (nm == Str.ofString ".") = false from beq_false_of_ne hd]
    k_steps
    show wpAny _ _ (compareOp .NotEq (.str nm nt) (.str _ _)) _ _ _
    refine PyProof.Rows.ne_str ?_
    by_cases h2 : nm = Str.ofString ".."
    ·rw [show (nm != Str.ofString "..") = false from by rw [h2]; decide]
     k_steps
     show wpAny _ _ (truthy (.str _ _)) _ _ _
     refine _root_.PySem.P.truthy_str (by decide) ?_
     rw [show (((Str.ofString "/").length : Int) != 0) = true from by decide]
     k_steps
     by_cases hg : gs = []
     ·subst hg
      show wpAny _ _ (truthy (.ref ga)) _ _ _
      refine truthy_none (News.isList (by k_asm) (by k_mem)) ?_
      k_steps
      show wpAny _ _ (truthy (.ref ga)) _ _ _
      refine truthy_none (News.isList (by k_asm) (by k_mem)) ?_
      k_steps
      show UnrEndW _ _ _ _ _ _
      with_reducible rename Fr g1 L1 _ _ => FM
      with_reducible rename News g1 L1 _ _ => NM
      refine unrEnd1 (m' := npM (Txt.slice P (some 1) none) _ _ _ _ _ _ ca ga (some (.str nm nt))) (news' := [(ga, listOf (([] : List (Str × Tok)).map sV).toArray gc), (ca, { cls := .type "list", data := .seq (strValues sp).toArray })]) (fr_map FM npM_c) NM (off2 lI1 lI2) ⟨⟨.tail _ (.head _), trivial⟩, ih _ _ (.mk _ ([] : List (Str × Tok)) _ ?f1 ?l1 (fun q hq => hln q (.tail _ hq)) ?d1)⟩
      case f1 =>
       rw [← hf]
       show List.foldl stepG (([] : List (Str × Tok)).map (·.1)) _ = List.foldl stepG (stepG (([] : List (Str × Tok)).map (·.1)) nm) _
       rw [show stepG (([] : List (Str × Tok)).map (·.1)) nm = ([] : List (Str × Tok)).map (·.1) from (by unfold stepG; rw [if_pos h2]; rfl)]
      case l1 => simp only [List.length_nil] at hl ⊢; omega
      case d1 => simp
     ·obtain ⟨g', x, e7⟩ := snoc_of hg
      revert g' x
      intro g' x e7
      subst e7
      have hlx : g'.length + 1 + (rq.length + 1) ≤ 60 := by rw [List.length_append, List.length_singleton] at hl; exact hl
      have hmx : (g' ++ [x]).map sV = g'.map sV ++ [.str x.1 x.2] := by rw [List.map_append]; rfl
      have hxd : x.1 ≠ Str.ofString ".." := fun e => hdd (by rw [List.map_append, List.mem_append]; exact .inr (by rw [← e]; exact .head _))
      show wpAny _ _ (truthy (.ref ga)) _ _ _
      refine truthy_vals (vs := (g' ++ [x]).map sV) (News.isList (by k_asm) (by k_mem)) (by rw [List.length_map, List.length_append, List.length_singleton]; omega) (by simp) ?_
      k_steps
      show wpAny _ _ (subscriptTail _ _ (.ref ga) (.int _ _)) _ _ _
      refine kim_back (lo := listOf ((g' ++ [x]).map sV).toArray gc) (l := g'.map sV ++ [.str x.1 x.2]) (n := gc) (by k_asm) (by k_mem) rfl (by rw [hmx]) (by decide) (by simp only [List.length_append, List.length_cons, List.length_nil]; omega) (by decide) last_get ?_
      k_steps
      show wpAny _ _ (compareOp .Eq (.str x.1 x.2) (.str _ _)) _ _ _
      refine PyProof.Rows.eq_str ?_
      rw [show (x.1 == Str.ofString "..") = false from beq_false_of_ne hxd]
      k_steps
      show wpAny _ _ (truthy (.ref ga)) _ _ _
      refine truthy_vals (vs := (g' ++ [x]).map sV) (News.isList (by k_asm) (by k_mem)) (by rw [List.length_map, List.length_append, List.length_singleton]; omega) (by simp) ?_
      k_steps
      show wpAny _ _ (call (.builtin "list.pop") [.ref ga]) _ _ _
      with_reducible rename News g1 L1 _ _ => NP
      rw [hmx] at NP
      refine kl_pop (news' := [(I, io), (ga, listOf (g'.map sV).toArray (gc + 1)), (ca, { cls := .type "list", data := .seq (strValues sp).toArray })]) (its := (g'.map sV ++ [Value.str x.1 x.2]).toArray) (n := gc) (p := g'.map sV) (y := Value.str x.1 x.2) (by k_asm) (by k_asm) (kpa_last _ _) (by k_upd) (by rw [sizeLine_eq]; simp only [List.length_append, List.length_cons, List.length_nil, List.length_map]; omega) ?_
      intro hP1 FP1 NP1
      k_steps
      show UnrEndW _ _ _ _ _ _
      with_reducible rename Fr g1 L1 _ _ => FM
      with_reducible rename News g1 L1 _ _ => NM
      refine unrEnd1 (m' := npM (Txt.slice P (some 1) none) _ _ _ _ _ _ ca ga (some (.str nm nt))) (news' := [(ga, listOf (g'.map sV).toArray (gc + 1)), (ca, { cls := .type "list", data := .seq (strValues sp).toArray })]) (fr_map FM npM_c) NM (off2 lI1 lI2) ⟨⟨.tail _ (.head _), trivial⟩, ih _ _ (.mk _ g' _ ?f1 ?l1 (fun q hq => hln q (.tail _ hq)) ?d1)⟩
      case f1 =>
       rw [← hf]
       show List.foldl stepG (g'.map (·.1)) _ = List.foldl stepG (stepG ((g' ++ [x]).map (·.1)) nm) _
       rw [show stepG ((g' ++ [x]).map (·.1)) nm = g'.map (·.1) from (by unfold stepG; rw [if_pos h2, drop_fst, List.dropLast_concat])]
      case l1 => omega
      case d1 => exact fun hm => hdd (by rw [List.map_append]; exact List.mem_append_left _ hm)
    ·rw [show (nm != Str.ofString "..") = true from by rw [bne_iff_ne]; exact h2]
     k_steps
     show UnrEndW _ _ _ _ _ _
     with_reducible rename Fr g1 L1 _ _ => FM
     with_reducible rename News g1 L1 _ _ => NM
     rw [show gs.map sV ++ [sV (nm, nt)] = (gs ++ [(nm, nt)]).map sV by rw [List.map_append]; rfl] at NM
     refine unrEnd1 (m' := npM (Txt.slice P (some 1) none) _ _ _ _ _ _ ca ga (some (.str nm nt))) (news' := [(ga, listOf ((gs ++ [(nm, nt)]).map sV).toArray (gc + 1)), (ca, { cls := .type "list", data := .seq (strValues sp).toArray })]) (fr_map FM npM_c) NM (off2 lI1 lI2) ⟨⟨.tail _ (.head _), trivial⟩, ih _ _ (.mk _ (gs ++ [(nm, nt)]) _ ?f1 ?l1 (fun q hq => hln q (.tail _ hq)) ?d1)⟩
     case f1 =>
      rw [← hf]
      show List.foldl stepG ((gs ++ [(nm, nt)]).map (·.1)) _ = List.foldl stepG (stepG (gs.map (·.1)) nm) _
      rw [show stepG (gs.map (·.1)) nm = gs.map (·.1) ++ [nm] from (by unfold stepG; rw [if_neg h2, if_neg (fun e => e.elim hn hd)]), List.map_append]; rfl
     case l1 => rw [List.length_append, List.length_singleton]; omega
     case d1 => rw [List.map_append]; intro hm; exact (List.mem_append.mp hm).elim hdd fun hm => h2 (List.mem_singleton.mp hm).symm
end
theorem norm {prog w p loose mean mg mb dp un gd cn cs a ccd cl outer A₀ base h₀ L m s Q E P pt rest} : @norm_S prog w p loose mean mg mb dp un gd cn cs a ccd cl outer A₀ base h₀ L m s Q E P pt rest :=
 eps_all (S := norm_u) norm_c rfl (by have := norm_0; with_unfolding_all assumption) ((prog, w, p, loose, mean, mg), (mb, dp, un, gd, cn, cs), (a, ccd, cl, outer, A₀, base), (h₀, L, m, s, Q, E), (P, pt, rest))
end
end Mine
namespace Mine
open TI PyProof.Rows.LCg PyProof.Rows.LCt
namespace SR05
def h9s_stops := sT
def h9s_str := sT
def h9s_binaryOp_Add_str_str := sT
def h9s_call_builtin_str_join := sT
def h9s_truthy_ref := sT
def h9s_call_builtin_list_pop := sT
def h9s_subscriptTail_Name_UnaryOp_ref_int := sT
def h9s_call_ref := sT
def h9s_truthy_str := sT
def h9s_compareOp_NotEq_str_str := sT
def h9s_compareOp_Eq_str_str := sT
end SR05
open SR05
section
section
variable {prog : Program} {w : World} {p : Program} {loose : List Str} {mean : ExcName → Option Value} {mg mb : Str → Option Value}
 {dp un : Nat} {gd : Option (List Code)} {cn : Str} {cs : Scope} {a : Addr} {ccd : Value} {cl : List (Str × Addr)} {outer : List Env} {A₀ : Around} {base h₀ : Heap} {L : Addr} {m : Str → Option Value} {s : Shared} {Q E : Value → Shared → Prop}
def gsep_S {P : Str} {pt : Tok} {news : List (Addr × Obj)} : Prop := ∀ (B : Below A₀ base outer h₀) (F : Fr h₀ L s.heap m) (X : (KK w.params).In h₀) (N : News h₀ L s.heap news) (T : Top p loose mean mg mb h₀) (hk : cs.kind = .function) (hdp : dp < 350) (hun : un < 290) (ret : ∀ h' tk' t', Fr h₀ L h' m → News h₀ L h' news → Q (.str sl0 t') { s with heap := h', toks := tk' }),
  wpAny (model prog w) (ktrTop dp un gd cn cs L a ccd cl outer) (call (.ref 228) [.str P pt]) Q E s
end
abbrev gsep_u (z9 : St1 × St2 × St3 × St4 × (Str × Tok × (List (Addr × Obj)))) : Prop := u3 (u6 (u6 (u6 (u6 @gsep_S z9.1) z9.2.1) z9.2.2.1) z9.2.2.2.1) z9.2.2.2.2
def gsep_c := eps (by walk_at "ne") gsep_u
namespace Kgsep
@[irreducible] def prog := gsep_c.1.1
@[irreducible] def w := gsep_c.1.2.1
@[irreducible] def p := gsep_c.1.2.2.1
@[irreducible] def loose := gsep_c.1.2.2.2.1
@[irreducible] def mean := gsep_c.1.2.2.2.2.1
@[irreducible] def mg := gsep_c.1.2.2.2.2.2
@[irreducible] def mb := gsep_c.2.1.1
@[irreducible] def dp := gsep_c.2.1.2.1
@[irreducible] def un := gsep_c.2.1.2.2.1
@[irreducible] def gd := gsep_c.2.1.2.2.2.1
@[irreducible] def cn := gsep_c.2.1.2.2.2.2.1
@[irreducible] def cs := gsep_c.2.1.2.2.2.2.2
@[irreducible] def a := gsep_c.2.2.1.1
@[irreducible] def ccd := gsep_c.2.2.1.2.1
@[irreducible] def cl := gsep_c.2.2.1.2.2.1
@[irreducible] def outer := gsep_c.2.2.1.2.2.2.1
@[irreducible] def A₀ := gsep_c.2.2.1.2.2.2.2.1
@[irreducible] def base := gsep_c.2.2.1.2.2.2.2.2
@[irreducible] def h₀ := gsep_c.2.2.2.1.1
@[irreducible] def L := gsep_c.2.2.2.1.2.1
@[irreducible] def m := gsep_c.2.2.2.1.2.2.1
@[irreducible] def s := gsep_c.2.2.2.1.2.2.2.1
@[irreducible] def Q := gsep_c.2.2.2.1.2.2.2.2.1
@[irreducible] def E := gsep_c.2.2.2.1.2.2.2.2.2
@[irreducible] def P := gsep_c.2.2.2.2.1
@[irreducible] def pt := gsep_c.2.2.2.2.2.1
@[irreducible] def news := gsep_c.2.2.2.2.2.2
end Kgsep
section
open Kgsep
theorem gsep_0 : @gsep_S prog w p loose mean mg mb dp un gd cn cs a ccd cl outer A₀ base h₀ L m s Q E P pt news := by
 have e9 : EpsOn := trivial
 unfold gsep_S
 intro B F X N T hk hdp hun ret
 have N0 : News h₀ L s.heap ([] ++ news) := N
 have apz : Apart [] news := fun q hq q' hq' => (nomatch hq')
 clear N
 refine wpAny_call ?_
 k_dflt ktr_enter
 intro g1 L1 hh1 FG1 F1 N1 B1 X1 T1 l1 hr
 replace F1 : Fr g1 L1 hh1 (fun y => List.lookup y [("path", .str P pt)]) := F1
 (try dsimp only); (try k_fold)
 k_steps
 rename_i kF kN Tc kX nr
 exact ret _ _ _ kF nr
end
theorem gsep {prog w p loose mean mg mb dp un gd cn cs a ccd cl outer A₀ base h₀ L m s Q E P pt news} : @gsep_S prog w p loose mean mg mb dp un gd cn cs a ccd cl outer A₀ base h₀ L m s Q E P pt news :=
 eps_all (S := gsep_u) gsep_c rfl (by have := gsep_0; with_unfolding_all assumption) ((prog, w, p, loose, mean, mg), (mb, dp, un, gd, cn, cs), (a, ccd, cl, outer, A₀, base), (h₀, L, m, s, Q, E), (P, pt, news))
section
variable {prog : Program} {w : World} {p : Program} {loose : List Str} {mean : ExcName → Option Value} {mg mb : Str → Option Value}
 {dp un : Nat} {gd : Option (List Code)} {cn : Str} {cs : Scope} {a : Addr} {ccd : Value} {cl : List (Str × Addr)} {outer : List Env} {A₀ : Around} {base h₀ : Heap} {L : Addr} {m : Str → Option Value} {s : Shared} {Q E : Value → Shared → Prop}
def dnm_S {P : Str} {pt : Tok} {rest : List (Addr × Obj)} : Prop := ∀ (B : Below A₀ base outer h₀) {H : Str} {b : Bool} (F : Fr h₀ L s.heap m) (X : (KK w.params).In h₀) (N : News h₀ L s.heap rest) (hP : P.length ≤ 40) (hH : Txt.slice P none (some (Txt.rfind P sl0 + 1)) = H) (hH0 : ((H.length : Int) != 0) = true) (hHl : H.length ≤ 40) (hb : (H != Txt.mul sl0 (H.length : Int)) = b) (T : Top p loose mean mg mb h₀) (hk : cs.kind = .function) (hdp : dp < 348) (hun : un < 280) (ret : ∀ h' tk' t', Fr h₀ L h' m → News h₀ L h' rest → Q (.str (if b then Txt.rstripChars H sl0 else H) t') { s with heap := h', toks := tk' }),
  wpAny (model prog w) (ktrTop dp un gd cn cs L a ccd cl outer) (call (.ref 249) [.str P pt]) Q E s
end
abbrev dnm_u (z9 : St1 × St2 × St3 × St4 × (Str × Tok × (List (Addr × Obj)))) : Prop := u3 (u6 (u6 (u6 (u6 @dnm_S z9.1) z9.2.1) z9.2.2.1) z9.2.2.2.1) z9.2.2.2.2
def dnm_c := eps (by walk_at "ne") dnm_u
namespace Kdnm
@[irreducible] def prog := dnm_c.1.1
@[irreducible] def w := dnm_c.1.2.1
@[irreducible] def p := dnm_c.1.2.2.1
@[irreducible] def loose := dnm_c.1.2.2.2.1
@[irreducible] def mean := dnm_c.1.2.2.2.2.1
@[irreducible] def mg := dnm_c.1.2.2.2.2.2
@[irreducible] def mb := dnm_c.2.1.1
@[irreducible] def dp := dnm_c.2.1.2.1
@[irreducible] def un := dnm_c.2.1.2.2.1
@[irreducible] def gd := dnm_c.2.1.2.2.2.1
@[irreducible] def cn := dnm_c.2.1.2.2.2.2.1
@[irreducible] def cs := dnm_c.2.1.2.2.2.2.2
@[irreducible] def a := dnm_c.2.2.1.1
@[irreducible] def ccd := dnm_c.2.2.1.2.1
@[irreducible] def cl := dnm_c.2.2.1.2.2.1
@[irreducible] def outer := dnm_c.2.2.1.2.2.2.1
@[irreducible] def A₀ := dnm_c.2.2.1.2.2.2.2.1
@[irreducible] def base := dnm_c.2.2.1.2.2.2.2.2
@[irreducible] def h₀ := dnm_c.2.2.2.1.1
@[irreducible] def L := dnm_c.2.2.2.1.2.1
@[irreducible] def m := dnm_c.2.2.2.1.2.2.1
@[irreducible] def s := dnm_c.2.2.2.1.2.2.2.1
@[irreducible] def Q := dnm_c.2.2.2.1.2.2.2.2.1
@[irreducible] def E := dnm_c.2.2.2.1.2.2.2.2.2
@[irreducible] def P := dnm_c.2.2.2.2.1
@[irreducible] def pt := dnm_c.2.2.2.2.2.1
@[irreducible] def rest := dnm_c.2.2.2.2.2.2
end Kdnm
section
open Kdnm
theorem dnm_0 : @dnm_S prog w p loose mean mg mb dp un gd cn cs a ccd cl outer A₀ base h₀ L m s Q E P pt rest := by
 have e9 : EpsOn := trivial
 unfold dnm_S
 intro B H b F X N hP hH hH0 hHl hb T hk hdp hun ret
 subst hH
 have N0 : News h₀ L s.heap ([] ++ rest) := N
 have apz : Apart [] rest := fun q hq q' hq' => (nomatch hq')
 clear N
 refine wpAny_call ?_
 k_dflt ktr_enter
 intro g1 L1 hh1 FG1 F1 N1 B1 X1 T1 l1 hr
 replace F1 : Fr g1 L1 hh1 (fun y => List.lookup y [("p", .str P pt)]) := F1
 (try dsimp only); (try k_fold)
 k_steps
 show wpAny _ _ (call (.ref 214) [.str P pt]) _ _ _
 refine fsp B1 F1 X1 N1 T1 rfl (by show dp + 1 < 350; omega) (by show un + 3 < 290; omega) ?_
 clear F1 N1
 intro h2 tk2 F2 N2
 k_steps
 show wpAny _ _ (call (.ref 228) [.str P pt]) _ _ _
 with_reducible rename Fr g1 L1 _ _ => FB
 with_reducible rename News g1 L1 _ _ => NB
 refine gsep B1 FB X1 NB T1 rfl (by show dp + 1 < 350; omega) (by show un + 3 < 290; omega) ?_
 clear FB NB
 intro h3 tk3 t3 F3 N3
 k_steps
 show wpAny _ _ (truthy (.str _ _)) _ _ _
 refine _root_.PySem.P.truthy_str (by omega) ?_
 rw [hH0]
 k_steps
 show wpAny _ _ (compareOp .NotEq (.str _ _) (.str _ _)) _ _ _
 refine PyProof.Rows.ne_str ?_
 rw [hb]
 cases b
 ·k_steps
  rename_i kF kN Tc kX nr
  exact ret _ _ _ kF nr
 ·k_steps
  rename_i kF kN Tc kX nr
  exact ret _ _ _ kF nr
end
theorem dnm {prog w p loose mean mg mb dp un gd cn cs a ccd cl outer A₀ base h₀ L m s Q E P pt rest} : @dnm_S prog w p loose mean mg mb dp un gd cn cs a ccd cl outer A₀ base h₀ L m s Q E P pt rest :=
 eps_all (S := dnm_u) dnm_c rfl (by have := dnm_0; with_unfolding_all assumption) ((prog, w, p, loose, mean, mg), (mb, dp, un, gd, cn, cs), (a, ccd, cl, outer, A₀, base), (h₀, L, m, s, Q, E), (P, pt, rest))
section
variable {prog : Program} {w : World} {p : Program} {loose : List Str} {mean : ExcName → Option Value} {mg mb : Str → Option Value}
 {dp un : Nat} {gd : Option (List Code)} {cn : Str} {cs : Scope} {a : Addr} {ccd : Value} {cl : List (Str × Addr)} {outer : List Env} {A₀ : Around} {base h₀ : Heap} {L : Addr} {m : Str → Option Value} {s : Shared} {Q E : Value → Shared → Prop}
def jnP_S {P l : Str} {pt lt : Tok} {rest : List (Addr × Obj)} : Prop := ∀ (B : Below A₀ base outer h₀) (F : Fr h₀ L s.heap m) (X : (KK w.params).In h₀) (N : News h₀ L s.heap rest) (hP : P.length ≤ 40) (hl : l.length ≤ 40) (hP0 : ((P.length : Int) != 0) = true) (T : Top p loose mean mg mb h₀) (hk : cs.kind = .function) (hdp : dp < 348) (hun : un < 280) (ret : ∀ h' tk' t', Fr h₀ L h' m → News h₀ L h' rest → Q (.str (if Txt.startswith l sl0 then l else if Txt.endswith P sl0 then P ++ l else P ++ (sl0 ++ l)) t') { s with heap := h', toks := tk' }),
  wpAny (model prog w) (ktrTop dp un gd cn cs L a ccd cl outer) (call (.ref 235) [.str P pt, .str l lt]) Q E s
end
abbrev jnP_u (z9 : St1 × St2 × St3 × St4 × (Str × Str × Tok × Tok × (List (Addr × Obj)))) : Prop := u5 (u6 (u6 (u6 (u6 @jnP_S z9.1) z9.2.1) z9.2.2.1) z9.2.2.2.1) z9.2.2.2.2
def jnP_c := eps (by walk_at "ne") jnP_u
namespace KjnP
@[irreducible] def prog := jnP_c.1.1
@[irreducible] def w := jnP_c.1.2.1
@[irreducible] def p := jnP_c.1.2.2.1
@[irreducible] def loose := jnP_c.1.2.2.2.1
@[irreducible] def mean := jnP_c.1.2.2.2.2.1
@[irreducible] def mg := jnP_c.1.2.2.2.2.2
@[irreducible] def mb := jnP_c.2.1.1
@[irreducible] def dp := jnP_c.2.1.2.1
@[irreducible] def un := jnP_c.2.1.2.2.1
@[irreducible] def gd := jnP_c.2.1.2.2.2.1
@[irreducible] def cn := jnP_c.2.1.2.2.2.2.1
@[irreducible] def cs := jnP_c.2.1.2.2.2.2.2
@[irreducible] def a := jnP_c.2.2.1.1
@[irreducible] def ccd := jnP_c.2.2.1.2.1
@[irreducible] def cl := jnP_c.2.2.1.2.2.1
@[irreducible] def outer := jnP_c.2.2.1.2.2.2.1
@[irreducible] def A₀ := jnP_c.2.2.1.2.2.2.2.1
@[irreducible] def base := jnP_c.2.2.1.2.2.2.2.2
@[irreducible] def h₀ := jnP_c.2.2.2.1.1
@[irreducible] def L := jnP_c.2.2.2.1.2.1
@[irreducible] def m := jnP_c.2.2.2.1.2.2.1
@[irreducible] def s := jnP_c.2.2.2.1.2.2.2.1
@[irreducible] def Q := jnP_c.2.2.2.1.2.2.2.2.1
@[irreducible] def E := jnP_c.2.2.2.1.2.2.2.2.2
@[irreducible] def P := jnP_c.2.2.2.2.1
@[irreducible] def l := jnP_c.2.2.2.2.2.1
@[irreducible] def pt := jnP_c.2.2.2.2.2.2.1
@[irreducible] def lt := jnP_c.2.2.2.2.2.2.2.1
@[irreducible] def rest := jnP_c.2.2.2.2.2.2.2.2
end KjnP
section
open KjnP
theorem jnP_0 : @jnP_S prog w p loose mean mg mb dp un gd cn cs a ccd cl outer A₀ base h₀ L m s Q E P l pt lt rest := by
 have e9 : EpsOn := trivial
 unfold jnP_S
 intro B F X N hP hl hP0 T hk hdp hun ret
 refine wpAny_call ?_
 k_keys
 intro D g1 L1 g2 lD FG1 F1 N1 B1 X1 T1
 replace F1 : Fr g1 L1 g2 (fun y => List.lookup y [("p", .ref D), ("a", .str P pt)]) := F1
 replace N1 : News g1 L1 g2 ((D, tupOf [.str l lt]) :: rest) := N1
 (try dsimp only); (try k_fold)
 k_steps
 show wpAny _ _ (call (.ref 214) [.str P pt]) _ _ _
 refine fsp B1 F1 X1 N1 T1 rfl (by show dp + 1 < 350; omega) (by show un + 3 < 290; omega) ?_
 clear F1 N1
 intro h2 tk2 F2 N2
 k_steps
 show wpAny _ _ (call (.ref 228) [.str P pt]) _ _ _
 with_reducible rename Fr g1 L1 _ _ => FB
 with_reducible rename News g1 L1 _ _ => NB
 refine gsep B1 FB X1 NB T1 rfl (by show dp + 1 < 350; omega) (by show un + 3 < 290; omega) ?_
 clear FB NB
 intro h3 tk3 t3 F3 N3
 k_steps
 show wpAny _ _ (pyIter _) _ _ _
 refine iter_tupTurns (lo := tupOf [.str l lt]) (vs := [.str l lt]) rfl (by k_asm) (by k_asm) (by k_mem) rfl rfl ?_
 intro I lI
 have lI0 : ∀ q ∈ rest, @LT.lt Nat _ q.1 I := fun q hq => lI q (by simp only [List.mem_cons]; simp [hq])
 have lI1 : @LT.lt Nat _ D I := lI _ (.head _)
 have lIr : ∀ q ∈ (D, tupOf [.str l lt]) :: rest, q.1 ≠ I := List.forall_mem_cons.mpr ⟨Nat.ne_of_lt lI1, fun q hq => Nat.ne_of_lt (lI0 q hq)⟩
 (refine ItemsRest.val1 ?_; intro h5 tk5 io hio F5 N5)
 (try simp only [List.cons_append, List.nil_append] at N5)
 k_steps
 show wpAny _ _ (call (.ref 214) [.str l lt]) _ _ _
 with_reducible rename Fr g1 L1 _ _ => FB
 with_reducible rename News g1 L1 _ _ => NB
 refine fsp B1 FB X1 NB T1 rfl (by show dp + 1 < 350; omega) (by show un + 3 < 290; omega) ?_
 clear FB NB
 intro h6 tk6 F6 N6
 k_steps
 ·show UnrEndW _ _ _ _ _ _
  with_reducible rename Fr g1 L1 _ _ => FM
  with_reducible rename News g1 L1 _ _ => NM
  refine unrEnd1 (news' := (D, tupOf [.str l lt]) :: rest) FM NM lIr ⟨⟨.head _, trivial⟩, ?_⟩
  (refine ItemsRest.zero ?_; intro h9 tk9 F9 N9)
  k_steps
  with_reducible rename Fr h₀ L _ m => kF
  with_reducible rename News h₀ L _ _ => kN
  rw [if_pos ‹Txt.startswith l sl0 = true›] at ret
  exact ret _ _ _ kF (fun q hq => kN q (by first | exact hq | exact .tail _ hq))
 ·show wpAny _ _ (truthy (.str _ _)) _ _ _
  refine _root_.PySem.P.truthy_str (by omega) ?_
  rw [hP0]
  k_steps
  ·show UnrEndW _ _ _ _ _ _
   with_reducible rename Fr g1 L1 _ _ => FM
   with_reducible rename News g1 L1 _ _ => NM
   refine unrEnd1 (news' := (D, tupOf [.str l lt]) :: rest) FM NM lIr ⟨⟨.head _, trivial⟩, ?_⟩
   (refine ItemsRest.zero ?_; intro h9 tk9 F9 N9)
   k_steps
   with_reducible rename Fr h₀ L _ m => kF
   with_reducible rename News h₀ L _ _ => kN
   rw [if_neg (by rw [‹Txt.startswith l sl0 = false›]; decide), if_pos ‹Txt.endswith P sl0 = true›] at ret
   exact ret _ _ _ kF (fun q hq => kN q (by first | exact hq | exact .tail _ hq))
  ·show wpAny _ _ (binaryOp .Add (.str _ _) (.str _ _)) _ _ _
   refine PyProof.Rows.add_str ?_ (by rw [sizeLine_eq, show sl0.length = 1 by decide]; omega)
   intro ta tka
   have hla : (sl0 ++ l).length = 1 + l.length := by rw [Str.length_append]; rfl
   k_steps
   show UnrEndW _ _ _ _ _ _
   with_reducible rename Fr g1 L1 _ _ => FM
   with_reducible rename News g1 L1 _ _ => NM
   refine unrEnd1 (news' := (D, tupOf [.str l lt]) :: rest) FM NM lIr ⟨⟨.head _, trivial⟩, ?_⟩
   (refine ItemsRest.zero ?_; intro h9 tk9 F9 N9)
   k_steps
   with_reducible rename Fr h₀ L _ m => kF
   with_reducible rename News h₀ L _ _ => kN
   rw [if_neg (by rw [‹Txt.startswith l sl0 = false›]; decide), if_neg (by rw [‹Txt.endswith P sl0 = false›]; decide)] at ret
   exact ret _ _ _ kF (fun q hq => kN q (by first | exact hq | exact .tail _ hq))
end
theorem jnP {prog w p loose mean mg mb dp un gd cn cs a ccd cl outer A₀ base h₀ L m s Q E P l pt lt rest} : @jnP_S prog w p loose mean mg mb dp un gd cn cs a ccd cl outer A₀ base h₀ L m s Q E P l pt lt rest :=
 eps_all (S := jnP_u) jnP_c rfl (by have := jnP_0; with_unfolding_all assumption) ((prog, w, p, loose, mean, mg), (mb, dp, un, gd, cn, cs), (a, ccd, cl, outer, A₀, base), (h₀, L, m, s, Q, E), (P, l, pt, lt, rest))
end
end Mine
namespace Mine
open TI PyProof.Rows.LCg PyProof.Rows.LCt
namespace SR06
def h9s_stops := sT
def h9s_exec_For_Name_Name_cons_nil := sT
def h9s_pyIter_ref := sT
def h9s_str := sT
def h9s_binaryOp_Add_str_str := sT
def h9s_call_builtin_str_join := sT
def h9s_truthy_ref := sT
def h9s_call_builtin_list_pop := sT
def h9s_subscriptTail_Name_UnaryOp_ref_int := sT
def h9s_call_ref := sT
def h9s_truthy_str := sT
def h9s_compareOp_NotEq_str_str := sT
def h9s_compareOp_Eq_str_str := sT
end SR06
open SR06
section
section
variable {prog : Program} {w : World} {p : Program} {loose : List Str} {mean : ExcName → Option Value} {mg mb : Str → Option Value}
 {dp un : Nat} {gd : Option (List Code)} {cn : Str} {cs : Scope} {a : Addr} {ccd : Value} {cl : List (Str × Addr)} {outer : List Env} {A₀ : Around} {base h₀ : Heap} {L : Addr} {m : Str → Option Value} {s : Shared} {Q E : Value → Shared → Prop}
def sroot2_S {P : Str} {pt : Tok} {rest : List (Addr × Obj)} : Prop := ∀ (B : Below A₀ base outer h₀) (F : Fr h₀ L s.heap m) (X : (KK w.params).In h₀) (N : News h₀ L s.heap rest) (hP : P.length ≤ 40) (hA : (Txt.slice P none (some 1) != Str.ofString "/") = false) (hB : (Txt.slice P (some 1) (some 2) != Str.ofString "/") = true) (T : Top p loose mean mg mb h₀) (hk : cs.kind = .function) (hdp : dp < 348) (hun : un < 280) (ret : ∀ h' tk' D t1 t2 t3, Fr h₀ L h' m → News h₀ L h' ((D, tupOf [.str (Str.ofString "") t1, .str (Str.ofString "/") t2, .str (Txt.slice P (some 1) none) t3]) :: rest) → (∀ q ∈ rest, q.1 ≠ D) → Q (.ref D) { s with heap := h', toks := tk' }),
  wpAny (model prog w) (ktrTop dp un gd cn cs L a ccd cl outer) (call (.ref 284) [.str P pt]) Q E s
end
abbrev sroot2_u (z9 : St1 × St2 × St3 × St4 × (Str × Tok × (List (Addr × Obj)))) : Prop := u3 (u6 (u6 (u6 (u6 @sroot2_S z9.1) z9.2.1) z9.2.2.1) z9.2.2.2.1) z9.2.2.2.2
def sroot2_c := eps (by walk_at "ne") sroot2_u
namespace Ksroot2
@[irreducible] def prog := sroot2_c.1.1
@[irreducible] def w := sroot2_c.1.2.1
@[irreducible] def p := sroot2_c.1.2.2.1
@[irreducible] def loose := sroot2_c.1.2.2.2.1
@[irreducible] def mean := sroot2_c.1.2.2.2.2.1
@[irreducible] def mg := sroot2_c.1.2.2.2.2.2
@[irreducible] def mb := sroot2_c.2.1.1
@[irreducible] def dp := sroot2_c.2.1.2.1
@[irreducible] def un := sroot2_c.2.1.2.2.1
@[irreducible] def gd := sroot2_c.2.1.2.2.2.1
@[irreducible] def cn := sroot2_c.2.1.2.2.2.2.1
@[irreducible] def cs := sroot2_c.2.1.2.2.2.2.2
@[irreducible] def a := sroot2_c.2.2.1.1
@[irreducible] def ccd := sroot2_c.2.2.1.2.1
@[irreducible] def cl := sroot2_c.2.2.1.2.2.1
@[irreducible] def outer := sroot2_c.2.2.1.2.2.2.1
@[irreducible] def A₀ := sroot2_c.2.2.1.2.2.2.2.1
@[irreducible] def base := sroot2_c.2.2.1.2.2.2.2.2
@[irreducible] def h₀ := sroot2_c.2.2.2.1.1
@[irreducible] def L := sroot2_c.2.2.2.1.2.1
@[irreducible] def m := sroot2_c.2.2.2.1.2.2.1
@[irreducible] def s := sroot2_c.2.2.2.1.2.2.2.1
@[irreducible] def Q := sroot2_c.2.2.2.1.2.2.2.2.1
@[irreducible] def E := sroot2_c.2.2.2.1.2.2.2.2.2
@[irreducible] def P := sroot2_c.2.2.2.2.1
@[irreducible] def pt := sroot2_c.2.2.2.2.2.1
@[irreducible] def rest := sroot2_c.2.2.2.2.2.2
end Ksroot2
section
open Ksroot2
theorem sroot2_0 : @sroot2_S prog w p loose mean mg mb dp un gd cn cs a ccd cl outer A₀ base h₀ L m s Q E P pt rest := by
 have e9 : EpsOn := trivial
 unfold sroot2_S
 intro B F X N hP hA hB T hk hdp hun ret
 have N0 : News h₀ L s.heap ([] ++ rest) := N
 have apz : Apart [] rest := fun q hq q' hq' => (nomatch hq')
 clear N
 refine wpAny_call ?_
 k_dflt ktr_enter
 intro g1 L1 hh1 FG1 F1 N1 B1 X1 T1 l1 hr
 replace F1 : Fr g1 L1 hh1 (fun y => List.lookup y [("p", .str P pt)]) := F1
 (try dsimp only); (try k_fold)
 k_steps
 show wpAny _ _ (compareOp .NotEq (.str _ _) (.str _ _)) _ _ _
 refine PyProof.Rows.ne_str ?_
 rw [hA]
 k_steps
 show wpAny _ _ (compareOp .NotEq (.str _ _) (.str _ _)) _ _ _
 refine PyProof.Rows.ne_str ?_
 rw [hB]
 k_steps
 rename_i D hD Fz Nz lz kF kN Tc kX nr
 exact ret _ _ D _ _ _ kF (fun q hq => (List.mem_cons.mp hq).elim (fun e => e ▸ kN _ (.head _)) (nr q)) fun q hq => apart_of Nz hr q hq _ (.head _)
end
theorem sroot2 {prog w p loose mean mg mb dp un gd cn cs a ccd cl outer A₀ base h₀ L m s Q E P pt rest} : @sroot2_S prog w p loose mean mg mb dp un gd cn cs a ccd cl outer A₀ base h₀ L m s Q E P pt rest :=
 eps_all (S := sroot2_u) sroot2_c rfl (by have := sroot2_0; with_unfolding_all assumption) ((prog, w, p, loose, mean, mg), (mb, dp, un, gd, cn, cs), (a, ccd, cl, outer, A₀, base), (h₀, L, m, s, Q, E), (P, pt, rest))
structure HoldsX (p : Prop) : Prop where
 h : p
section
variable {prog : Program} {w : World} {p : Program} {loose : List Str} {mean : ExcName → Option Value} {mg mb : Str → Option Value}
 {dp un : Nat} {gd : Option (List Code)} {cn : Str} {cs : Scope} {a : Addr} {ccd : Value} {cl : List (Str × Addr)} {outer : List Env} {A₀ : Around} {base h₀ : Heap} {L : Addr} {m : Str → Option Value} {s : Shared} {Q E : Value → Shared → Prop}
def shelf_S {P : Str} {pt : Tok} {news : List (Addr × Obj)} : Prop := ∀ (B : Below A₀ base outer h₀) (F : Fr h₀ L s.heap m) (X : (KK w.params).In h₀) (N : News h₀ L s.heap news) (hP : P.length ≤ 400) (hsl : Txt.slice (P ++ sl0) none (some (-1)) = P) (T : Top p loose mean mg mb h₀) (hk : cs.kind = .function) (hdp : dp < 350) (hun : un < 290) (ret : ∀ h' tk' t', Fr h₀ L h' m → News h₀ L h' news → Q (.str P t') { s with heap := h', toks := tk' }),
  wpAny (model prog w) (ktrTop dp un gd cn cs L a ccd cl outer) (call (.ref 277) [.str P pt]) Q E s
end
abbrev shelf_u (z9 : St1 × St2 × St3 × St4 × (Str × Tok × (List (Addr × Obj)))) : Prop := u3 (u6 (u6 (u6 (u6 @shelf_S z9.1) z9.2.1) z9.2.2.1) z9.2.2.2.1) z9.2.2.2.2
def shelf_c := eps (by walk_at "ne") shelf_u
namespace Kshelf
@[irreducible] def prog := shelf_c.1.1
@[irreducible] def w := shelf_c.1.2.1
@[irreducible] def p := shelf_c.1.2.2.1
@[irreducible] def loose := shelf_c.1.2.2.2.1
@[irreducible] def mean := shelf_c.1.2.2.2.2.1
@[irreducible] def mg := shelf_c.1.2.2.2.2.2
@[irreducible] def mb := shelf_c.2.1.1
@[irreducible] def dp := shelf_c.2.1.2.1
@[irreducible] def un := shelf_c.2.1.2.2.1
@[irreducible] def gd := shelf_c.2.1.2.2.2.1
@[irreducible] def cn := shelf_c.2.1.2.2.2.2.1
@[irreducible] def cs := shelf_c.2.1.2.2.2.2.2
@[irreducible] def a := shelf_c.2.2.1.1
@[irreducible] def ccd := shelf_c.2.2.1.2.1
@[irreducible] def cl := shelf_c.2.2.1.2.2.1
@[irreducible] def outer := shelf_c.2.2.1.2.2.2.1
@[irreducible] def A₀ := shelf_c.2.2.1.2.2.2.2.1
@[irreducible] def base := shelf_c.2.2.1.2.2.2.2.2
@[irreducible] def h₀ := shelf_c.2.2.2.1.1
@[irreducible] def L := shelf_c.2.2.2.1.2.1
@[irreducible] def m := shelf_c.2.2.2.1.2.2.1
@[irreducible] def s := shelf_c.2.2.2.1.2.2.2.1
@[irreducible] def Q := shelf_c.2.2.2.1.2.2.2.2.1
@[irreducible] def E := shelf_c.2.2.2.1.2.2.2.2.2
@[irreducible] def P := shelf_c.2.2.2.2.1
@[irreducible] def pt := shelf_c.2.2.2.2.2.1
@[irreducible] def news := shelf_c.2.2.2.2.2.2
end Kshelf
section
open Kshelf
theorem shelf_0 : @shelf_S prog w p loose mean mg mb dp un gd cn cs a ccd cl outer A₀ base h₀ L m s Q E P pt news := by
 have e9 : EpsOn := trivial
 unfold shelf_S
 intro B F X N hP hsl T hk hdp hun ret
 have N0 : News h₀ L s.heap ([] ++ news) := N
 have apz : Apart [] news := fun q hq q' hq' => (nomatch hq')
 clear N
 refine wpAny_call ?_
 k_dflt ktr_enter
 intro g1 L1 hh1 FG1 F1 N1 B1 X1 T1 l1 hr
 replace F1 : Fr g1 L1 hh1 (fun y => List.lookup y [("s", .str P pt)]) := F1
 (try dsimp only); (try k_fold)
 k_steps
 show wpAny _ _ (binaryOp .Add (.str _ _) (.str _ _)) _ _ _
 refine PyProof.Rows.add_str ?_ (by rw [sizeLine_eq, show (Str.ofString "/").length = 1 by decide]; omega)
 intro ta tka
 have hla : (P ++ Str.ofString "/").length = P.length + 1 := by rw [Str.length_append]; rfl
 k_steps
 rename_i kF kN Tc kX nr
 rw [show Txt.slice (P ++ Str.ofString "/") none (some (-1)) = P from hsl]
 exact ret _ _ _ kF nr
end
theorem shelf {prog w p loose mean mg mb dp un gd cn cs a ccd cl outer A₀ base h₀ L m s Q E P pt news} : @shelf_S prog w p loose mean mg mb dp un gd cn cs a ccd cl outer A₀ base h₀ L m s Q E P pt news :=
 eps_all (S := shelf_u) shelf_c rfl (by have := shelf_0; with_unfolding_all assumption) ((prog, w, p, loose, mean, mg), (mb, dp, un, gd, cn, cs), (a, ccd, cl, outer, A₀, base), (h₀, L, m, s, Q, E), (P, pt, news))
section
variable {prog : Program} {w : World} {p : Program} {loose : List Str} {mean : ExcName → Option Value} {mg mb : Str → Option Value}
 {dp un : Nat} {gd : Option (List Code)} {cn : Str} {cs : Scope} {a : Addr} {ccd : Value} {cl : List (Str × Addr)} {outer : List Env} {A₀ : Around} {base h₀ : Heap} {L : Addr} {m : Str → Option Value} {s : Shared} {Q E : Value → Shared → Prop}
def nrm2_S {P : Str} {pt : Tok} {rest : List (Addr × Obj)} : Prop := ∀ (B : Below A₀ base outer h₀) (F : Fr h₀ L s.heap m) (X : (KK w.params).In h₀) (N : News h₀ L s.heap rest) (hP : P.length ≤ 40) (hsum : ((normG P).map (·.length)).sum + (normG P).length * 64 ≤ 16777216) (hjl : (Txt.join sl0 (normG P)).length ≤ 100) (h0 : ((P.length : Int) != 0) = true) (hspw : ∀ y ∈ Txt.split (Txt.slice P (some 1) none) sl0, y.length ≤ 100) (hsp : (Txt.split (Txt.slice P (some 1) none) sl0).length ≤ 20) (hA : (Txt.slice P none (some 1) != Str.ofString "/") = false) (hB : (Txt.slice P (some 1) (some 2) != Str.ofString "/") = true) (hcut : HoldsX (Txt.slice ((Str.ofString "/" ++ Txt.join sl0 (normG P)) ++ sl0) none (some (-1)) = Str.ofString "/" ++ Txt.join sl0 (normG P))) (T : Top p loose mean mg mb h₀) (hk : cs.kind = .function) (hdp : dp < 344) (hun : un < 250) (ret : ∀ h' tk' t', Fr h₀ L h' m → News h₀ L h' rest → Q (.str (Str.ofString "/" ++ Txt.join sl0 (normG P)) t') { s with heap := h', toks := tk' }),
  wpAny (model prog w) (ktrTop dp un gd cn cs L a ccd cl outer) (call (.ref 291) [.str P pt]) Q E s
end
abbrev nrm2_u (z9 : St1 × St2 × St3 × St4 × (Str × Tok × (List (Addr × Obj)))) : Prop := u3 (u6 (u6 (u6 (u6 @nrm2_S z9.1) z9.2.1) z9.2.2.1) z9.2.2.2.1) z9.2.2.2.2
def nrm2_c := eps (by walk_at "ne") nrm2_u
namespace Knrm2
@[irreducible] def prog := nrm2_c.1.1
@[irreducible] def w := nrm2_c.1.2.1
@[irreducible] def p := nrm2_c.1.2.2.1
@[irreducible] def loose := nrm2_c.1.2.2.2.1
@[irreducible] def mean := nrm2_c.1.2.2.2.2.1
@[irreducible] def mg := nrm2_c.1.2.2.2.2.2
@[irreducible] def mb := nrm2_c.2.1.1
@[irreducible] def dp := nrm2_c.2.1.2.1
@[irreducible] def un := nrm2_c.2.1.2.2.1
@[irreducible] def gd := nrm2_c.2.1.2.2.2.1
@[irreducible] def cn := nrm2_c.2.1.2.2.2.2.1
@[irreducible] def cs := nrm2_c.2.1.2.2.2.2.2
@[irreducible] def a := nrm2_c.2.2.1.1
@[irreducible] def ccd := nrm2_c.2.2.1.2.1
@[irreducible] def cl := nrm2_c.2.2.1.2.2.1
@[irreducible] def outer := nrm2_c.2.2.1.2.2.2.1
@[irreducible] def A₀ := nrm2_c.2.2.1.2.2.2.2.1
@[irreducible] def base := nrm2_c.2.2.1.2.2.2.2.2
@[irreducible] def h₀ := nrm2_c.2.2.2.1.1
@[irreducible] def L := nrm2_c.2.2.2.1.2.1
@[irreducible] def m := nrm2_c.2.2.2.1.2.2.1
@[irreducible] def s := nrm2_c.2.2.2.1.2.2.2.1
@[irreducible] def Q := nrm2_c.2.2.2.1.2.2.2.2.1
@[irreducible] def E := nrm2_c.2.2.2.1.2.2.2.2.2
@[irreducible] def P := nrm2_c.2.2.2.2.1
@[irreducible] def pt := nrm2_c.2.2.2.2.2.1
@[irreducible] def rest := nrm2_c.2.2.2.2.2.2
end Knrm2
section
open Knrm2
theorem nrm2_0 : @nrm2_S prog w p loose mean mg mb dp un gd cn cs a ccd cl outer A₀ base h₀ L m s Q E P pt rest := by
 have e9 : EpsOn := trivial
 unfold nrm2_S
 intro B F X N hP hsum hjl h0 hspw hsp hA hB hcut T hk hdp hun ret
 have N0 : News h₀ L s.heap ([] ++ rest) := N
 have apz : Apart [] rest := fun q hq q' hq' => (nomatch hq')
 clear N
 refine wpAny_call ?_
 k_dflt ktr_enter
 intro g1 L1 hh1 FG1 F1 N1 B1 X1 T1 l1 hr
 replace F1 : Fr g1 L1 hh1 (fun y => List.lookup y [("path", .str P pt)]) := F1
 (try dsimp only); (try k_fold)
 k_steps
 show wpAny _ _ (truthy (.str P pt)) _ _ _
 refine _root_.PySem.P.truthy_str (by omega) ?_
 rw [show ((P.length : Int) != 0) = true from h0]
 k_steps
 show wpAny _ _ (call (.ref 284) [.str P pt]) _ _ _
 with_reducible rename Fr g1 L1 _ _ => FB
 with_reducible rename News g1 L1 _ _ => NB
 refine sroot2 B1 FB X1 NB hP hA hB T1 rfl (by show dp + 1 < 348; omega) (by show un + 3 < 280; omega) ?_
 clear FB NB
 intro h3 tk3 D t1 t2 t3 F3 N3 _
 have hsl : (Txt.slice P (some 1) none).length ≤ P.length := PyProof.Txt.length_slice_le P (some 1) none
 k_steps
 show wpAny _ _ (exec (Stmt.For _ _ _ _ _) _) _ _ _
 refine For_turns (by k_asm) ?_
 k_steps
 show wpAny _ _ (pyIter _) _ _ _
 rename_i sp hz1 kz1 hspl hz2 ga hz3 lga hA FA NA
 generalize Heap.objs _ = hobj at FA NA lga ⊢
 revert hobj
 intro hobj
 walk_at "hi"
 generalize Array.size hobj = ca at FA NA lga ⊢
 revert ca
 intro ca
 walk_at "hi"
 replace FA : Fr g1 L1 hA (npM (Txt.slice P (some 1) none) _ _ _ _ _ _ ca ga none) := fr_map FA (fun y => by
  by_cases e1 : y = Str.ofString "comp"
  ·subst e1; rfl
  ·by_cases e2 : y = Str.ofString "path"
   ·subst e2; rfl
   ·have e3 : List.lookup y [(Str.ofString "path", Value.str P pt)] = none := by simp only [List.lookup, beq_false_of_ne e2]
    simp only [npM, e1, e2, e3, if_false]
    rfl)
 replace NA : News g1 L1 hA [(ga, listOf (([] : List (Str × Tok)).map sV).toArray 0), (ca, { cls := .type "list", data := .seq (strValues sp).toArray })] := fun q hq => NA q (by
  rcases List.mem_cons.mp hq with rfl | hq
  ·exact .head _
  ·exact .tail _ (List.mem_singleton.mp hq ▸ .head _))
 have hspl2 : sp.length ≤ 20 := by rw [← List.length_map (f := fun x : Str × Tok => x.1), hspl]; exact hsp
 refine iter_listTurns (lo := { cls := .type "list", data := .seq (strValues sp).toArray }) (vs := sp.map sV) (n := 0) rfl FA NA (.tail _ (.head _)) rfl rfl ?_
 intro I lI
 have lI1 : @LT.lt Nat _ ga I := lI _ (.head _)
 have lI2 : @LT.lt Nat _ ca I := lI _ (.tail _ (.head _))
 clear lI
 rw [List.map_map]
 refine items_ind (f := Itm.val ∘ sV) (P := NpP (Txt.slice P (some 1) none) _ _ _ _ _ _ ca ga { cls := .type "list", data := .seq (strValues sp).toArray } (normG P)) ?_ ?_ _ _ _ (.mk none [] 0 (by rw [hspl]; rfl) (by rw [List.length_nil]; omega) (fun q hq => hspw q.1 (by show q.1 ∈ Txt.split (Txt.slice P (some 1) none) (Str.ofString "/"); rw [← hspl]; exact List.mem_map_of_mem hq)) (fun h => (nomatch h)))
 ·clear FA NA
  intro m1 news1 W9
  refine NpP.casesOn W9 ?_
  clear W9 m1 news1
  intro mc gs gc hf hl hln hdd
  (refine ItemsRest.zero ?_; intro h tk FK NK)
  k_steps
  show wpAny _ _ (call (.builtin "str.join") [.str sl0 _, .ref ga]) _ _ _
  have hf : gs.map (·.1) = normG P := hf
  refine join_listC (items := (gs.map sV).toArray) (ys := gs.map (·.1)) (News.isList (by k_asm) (by k_mem)) (by exact strs_ofR gs) (by decide) (by rw [hf]; exact hsum) ?_
  intro tj tkj
  rw [hf]
  k_steps
  show wpAny _ _ (binaryOp .Add (.str _ _) (.str _ _)) _ _ _
  refine PyProof.Rows.add_str ?_ (by rw [sizeLine_eq, show (Str.ofString "/").length = 1 by decide]; omega)
  intro ta tka
  k_steps
  show wpAny _ _ (truthy (.str _ _)) _ _ _
  have hlj : (Str.ofString "/" ++ Txt.join sl0 (normG P)).length = 1 + (Txt.join sl0 (normG P)).length := by rw [Str.length_append]; rfl
  refine _root_.PySem.P.truthy_str (by rw [hlj]; omega) ?_
  rw [show (((Str.ofString "/" ++ Txt.join sl0 (normG P)).length : Int) != 0) = true from by rw [hlj, bne_iff_ne]; omega]
  k_steps
  show wpAny _ _ (call (.ref 277) [.str _ _]) _ _ _
  with_reducible rename Fr g1 L1 _ _ => FB
  with_reducible rename News g1 L1 _ _ => NB
  refine shelf B1 FB X1 NB (by rw [hlj]; omega) hcut.h T1 rfl (by show dp + 1 < 350; omega) (by show un + 3 < 290; omega) ?_
  clear FB NB
  intro h7 tk7 t7 F7 N7
  k_steps
  rename_i kF kN Tc kX nr
  exact ret _ _ _ kF nr
 ·clear FA NA
  intro q0 rq m1 news1 W9 ih
  refine NpP.casesOn W9 ?_
  clear W9 m1 news1
  intro mc gs gc hf hl hln hdd
  obtain ⟨nm, nt⟩ := q0
  revert nm nt
  intro nm nt
  walk_at "hi"
  simp only [List.length_cons] at hl
  (refine ItemsRest.val1 ?_; intro h tk io hio FK NK)
  replace NK : News g1 L1 h [(I, io), (ga, listOf (gs.map sV).toArray gc), (ca, { cls := .type "list", data := .seq (strValues sp).toArray })] := NK
  k_steps
  show wpAny _ _ (truthy (.str nm nt)) _ _ _
  have hnl := hln (nm, nt) (.head _)
  have hnl : nm.length ≤ 100 := hnl
  refine _root_.PySem.P.truthy_str (by omega) ?_
  by_cases hn : nm = Str.ofString ""
  ·rw [show ((nm.length : Int) != 0) = false from by rw [hn]; rfl]
   k_steps
   show UnrEndW _ _ _ _ _ _
   with_reducible rename Fr g1 L1 _ _ => FM
   with_reducible rename News g1 L1 _ _ => NM
   refine unrEnd1 (m' := npM (Txt.slice P (some 1) none) _ _ _ _ _ _ ca ga (some (.str nm nt))) (news' := [(ga, listOf (gs.map sV).toArray gc), (ca, { cls := .type "list", data := .seq (strValues sp).toArray })]) (fr_map FM npM_c) NM (off2 lI1 lI2) ⟨⟨.tail _ (.head _), trivial⟩, ih _ _ (.mk _ gs _ ?f1 ?l1 (fun q hq => hln q (.tail _ hq)) ?d1)⟩
   case f1 =>
    rw [← hf]
    show List.foldl stepG (gs.map (·.1)) _ = List.foldl stepG (stepG (gs.map (·.1)) nm) _
    rw [show stepG (gs.map (·.1)) nm = gs.map (·.1) from by unfold stepG; rw [if_neg (by rw [hn]; decide), if_pos (.inl hn)]]
   case l1 => omega
   case d1 => exact hdd
  ·rw [show ((nm.length : Int) != 0) = true from by rw [bne_iff_ne]; intro e; exact hn (str_nil (by omega))]
   k_steps
   show wpAny _ _ (compareOp .Eq (.str nm nt) (.str _ _)) _ _ _
   refine PyProof.Rows.eq_str ?_
   by_cases hd : nm = Str.ofString "."
   ·rw [show (nm == Str.ofString ".") = true from by rw [hd]; decide]
    k_steps
    show UnrEndW _ _ _ _ _ _
    with_reducible rename Fr g1 L1 _ _ => FM
    with_reducible rename News g1 L1 _ _ => NM
    refine unrEnd1 (m' := npM (Txt.slice P (some 1) none) _ _ _ _ _ _ ca ga (some (.str nm nt))) (news' := [(ga, listOf (gs.map sV).toArray gc), (ca, { cls := .type "list", data := .seq (strValues sp).toArray })]) (fr_map FM npM_c) NM (off2 lI1 lI2) ⟨⟨.tail _ (.head _), trivial⟩, ih _ _ (.mk _ gs _ ?f1 ?l1 (fun q hq => hln q (.tail _ hq)) ?d1)⟩
    case f1 =>
     rw [← hf]
     show List.foldl stepG (gs.map (·.1)) _ = List.foldl stepG (stepG (gs.map (·.1)) nm) _
     rw [show stepG (gs.map (·.1)) nm = gs.map (·.1) from by unfold stepG; rw [if_neg (by rw [hd]; decide), if_pos (.inr hd)]]
    case l1 => omega
    case d1 => exact hdd
   ·rw [show (nm == Str.ofString ".") = false from beq_false_of_ne hd]
    k_steps
    show wpAny _ _ (compareOp .NotEq (.str nm nt) (.str _ _)) _ _ _
    refine PyProof.Rows.ne_str ?_
    by_cases h2 : nm = Str.ofString ".."
    ·rw [show (nm != Str.ofString "..") = false from by rw [h2]; decide]
     k_steps
     show wpAny _ _ (truthy (.str _ _)) _ _ _
     refine _root_.PySem.P.truthy_str (by decide) ?_
     rw [show (((Str.ofString "/").length : Int) != 0) = true from by decide]
     k_steps
     by_cases hg : gs = []
     ·subst hg
      show wpAny _ _ (truthy (.ref ga)) _ _ _
      refine truthy_none (News.isList (by k_asm) (by k_mem)) ?_
      k_steps
      show wpAny _ _ (truthy (.ref ga)) _ _ _
      refine truthy_none (News.isList (by k_asm) (by k_mem)) ?_
      k_steps
      show UnrEndW _ _ _ _ _ _
      with_reducible rename Fr g1 L1 _ _ => FM
      with_reducible rename News g1 L1 _ _ => NM
      refine unrEnd1 (m' := npM (Txt.slice P (some 1) none) _ _ _ _ _ _ ca ga (some (.str nm nt))) (news' := [(ga, listOf (([] : List (Str × Tok)).map sV).toArray gc), (ca, { cls := .type "list", data := .seq (strValues sp).toArray })]) (fr_map FM npM_c) NM (off2 lI1 lI2) ⟨⟨.tail _ (.head _), trivial⟩, ih _ _ (.mk _ ([] : List (Str × Tok)) _ ?f1 ?l1 (fun q hq => hln q (.tail _ hq)) ?d1)⟩
      case f1 =>
       rw [← hf]
       show List.foldl stepG (([] : List (Str × Tok)).map (·.1)) _ = List.foldl stepG (stepG (([] : List (Str × Tok)).map (·.1)) nm) _
       rw [show stepG (([] : List (Str × Tok)).map (·.1)) nm = ([] : List (Str × Tok)).map (·.1) from (by unfold stepG; rw [if_pos h2]; rfl)]
      case l1 => simp only [List.length_nil] at hl ⊢; omega
      case d1 => simp
     ·obtain ⟨g', x, e7⟩ := snoc_of hg
      revert g' x
      intro g' x e7
      subst e7
      have hlx : g'.length + 1 + (rq.length + 1) ≤ 60 := by rw [List.length_append, List.length_singleton] at hl; exact hl
      have hmx : (g' ++ [x]).map sV = g'.map sV ++ [.str x.1 x.2] := by rw [List.map_append]; rfl
      have hxd : x.1 ≠ Str.ofString ".." := fun e => hdd (by rw [List.map_append, List.mem_append]; exact .inr (by rw [← e]; exact .head _))
      show wpAny _ _ (truthy (.ref ga)) _ _ _
      refine truthy_vals (vs := (g' ++ [x]).map sV) (News.isList (by k_asm) (by k_mem)) (by rw [List.length_map, List.length_append, List.length_singleton]; omega) (by simp) ?_
      k_steps
      show wpAny _ _ (subscriptTail _ _ (.ref ga) (.int _ _)) _ _ _
      refine kim_back (lo := listOf ((g' ++ [x]).map sV).toArray gc) (l := g'.map sV ++ [.str x.1 x.2]) (n := gc) (by k_asm) (by k_mem) rfl (by rw [hmx]) (by decide) (by simp only [List.length_append, List.length_cons, List.length_nil]; omega) (by decide) last_get ?_
      k_steps
      show wpAny _ _ (compareOp .Eq (.str x.1 x.2) (.str _ _)) _ _ _
      refine PyProof.Rows.eq_str ?_
      rw [show (x.1 == Str.ofString "..") = false from beq_false_of_ne hxd]
      k_steps
      show wpAny _ _ (truthy (.ref ga)) _ _ _
      refine truthy_vals (vs := (g' ++ [x]).map sV) (News.isList (by k_asm) (by k_mem)) (by rw [List.length_map, List.length_append, List.length_singleton]; omega) (by simp) ?_
      k_steps
      show wpAny _ _ (call (.builtin "list.pop") [.ref ga]) _ _ _
      with_reducible rename News g1 L1 _ _ => NP
      rw [hmx] at NP
      refine kl_pop (news' := [(I, io), (ga, listOf (g'.map sV).toArray (gc + 1)), (ca, { cls := .type "list", data := .seq (strValues sp).toArray })]) (its := (g'.map sV ++ [Value.str x.1 x.2]).toArray) (n := gc) (p := g'.map sV) (y := Value.str x.1 x.2) (by k_asm) (by k_asm) (kpa_last _ _) (by k_upd) (by rw [sizeLine_eq]; simp only [List.length_append, List.length_cons, List.length_nil, List.length_map]; omega) ?_
      intro hP1 FP1 NP1
      k_steps
      show UnrEndW _ _ _ _ _ _
      with_reducible rename Fr g1 L1 _ _ => FM
      with_reducible rename News g1 L1 _ _ => NM
      refine unrEnd1 (m' := npM (Txt.slice P (some 1) none) _ _ _ _ _ _ ca ga (some (.str nm nt))) (news' := [(ga, listOf (g'.map sV).toArray (gc + 1)), (ca, { cls := .type "list", data := .seq (strValues sp).toArray })]) (fr_map FM npM_c) NM (off2 lI1 lI2) ⟨⟨.tail _ (.head _), trivial⟩, ih _ _ (.mk _ g' _ ?f1 ?l1 (fun q hq => hln q (.tail _ hq)) ?d1)⟩
      case f1 =>
       rw [← hf]
       show List.foldl stepG (g'.map (·.1)) _ = List.foldl stepG (stepG ((g' ++ [x]).map (·.1)) nm) _
       rw [show stepG ((g' ++ [x]).map (·.1)) nm = g'.map (·.1) from (by unfold stepG; rw [if_pos h2, drop_fst, List.dropLast_concat])]
      case l1 => omega
      case d1 => exact fun hm => hdd (by rw [List.map_append]; exact List.mem_append_left _ hm)
    ·rw [show (nm != Str.ofString "..") = true from by rw [bne_iff_ne]; exact h2]
     k_steps
     show UnrEndW _ _ _ _ _ _
     with_reducible rename Fr g1 L1 _ _ => FM
     with_reducible rename News g1 L1 _ _ => NM
     rw [show gs.map sV ++ [sV (nm, nt)] = (gs ++ [(nm, nt)]).map sV by rw [List.map_append]; rfl] at NM
     refine unrEnd1 (m' := npM (Txt.slice P (some 1) none) _ _ _ _ _ _ ca ga (some (.str nm nt))) (news' := [(ga, listOf ((gs ++ [(nm, nt)]).map sV).toArray (gc + 1)), (ca, { cls := .type "list", data := .seq (strValues sp).toArray })]) (fr_map FM npM_c) NM (off2 lI1 lI2) ⟨⟨.tail _ (.head _), trivial⟩, ih _ _ (.mk _ (gs ++ [(nm, nt)]) _ ?f1 ?l1 (fun q hq => hln q (.tail _ hq)) ?d1)⟩
     case f1 =>
      rw [← hf]
      show List.foldl stepG ((gs ++ [(nm, nt)]).map (·.1)) _ = List.foldl stepG (stepG (gs.map (·.1)) nm) _
      rw [show stepG (gs.map (·.1)) nm = gs.map (·.1) ++ [nm] from (by unfold stepG; rw [if_neg h2, if_neg (fun e => e.elim hn hd)]), List.map_append]; rfl
     case l1 => rw [List.length_append, List.length_singleton]; omega
     case d1 => rw [List.map_append]; intro hm; exact (List.mem_append.mp hm).elim hdd fun hm => h2 (List.mem_singleton.mp hm).symm
end
theorem nrm2 {prog w p loose mean mg mb dp un gd cn cs a ccd cl outer A₀ base h₀ L m s Q E P pt rest} : @nrm2_S prog w p loose mean mg mb dp un gd cn cs a ccd cl outer A₀ base h₀ L m s Q E P pt rest :=
 eps_all (S := nrm2_u) nrm2_c rfl (by have := nrm2_0; with_unfolding_all assumption) ((prog, w, p, loose, mean, mg), (mb, dp, un, gd, cn, cs), (a, ccd, cl, outer, A₀, base), (h₀, L, m, s, Q, E), (P, pt, rest))
end
end Mine
namespace Mine
open TI PyProof.Rows.LCg PyProof.Rows.LCt
namespace SR07
theorem h9r0 : StopRef 291 := trivial
end SR07
open SR07
section
section
variable {prog : Program} {w : World} {p : Program} {loose : List Str} {mean : ExcName → Option Value} {mg mb : Str → Option Value}
 {dp un : Nat} {gd : Option (List Code)} {cn : Str} {cs : Scope} {a : Addr} {ccd : Value} {cl : List (Str × Addr)} {outer : List Env} {A₀ : Around} {base h₀ : Heap} {L : Addr} {m : Str → Option Value} {s : Shared} {Q E : Value → Shared → Prop}
def npath_S {P : Str} {pt : Tok} {rest : List (Addr × Obj)} : Prop := ∀ (B : Below A₀ base outer h₀) (F : Fr h₀ L s.heap m) (X : (KK w.params).In h₀) (N : News h₀ L s.heap rest) (hP : P.length ≤ 40) (hsum : ((normG P).map (·.length)).sum + (normG P).length * 64 ≤ 16777216) (hjl : (Txt.join sl0 (normG P)).length ≤ 100) (h0 : ((P.length : Int) != 0) = true) (hspw : ∀ y ∈ Txt.split (Txt.slice P (some 1) none) sl0, y.length ≤ 100) (hsp : (Txt.split (Txt.slice P (some 1) none) sl0).length ≤ 20) (hA : (Txt.slice P none (some 1) != Str.ofString "/") = false) (hB : (Txt.slice P (some 1) (some 2) != Str.ofString "/") = true) (hcut : HoldsX (Txt.slice ((Str.ofString "/" ++ Txt.join sl0 (normG P)) ++ sl0) none (some (-1)) = Str.ofString "/" ++ Txt.join sl0 (normG P))) (T : Top p loose mean mg mb h₀) (hk : cs.kind = .function) (hdp : dp < 343) (hun : un < 240) (ret : ∀ h' tk' t', Fr h₀ L h' m → News h₀ L h' rest → Q (.str (Str.ofString "/" ++ Txt.join sl0 (normG P)) t') { s with heap := h', toks := tk' }),
  wpAny (model prog w) (ktrTop dp un gd cn cs L a ccd cl outer) (call (.ref 298) [.str P pt]) Q E s
end
abbrev npath_u (z9 : St1 × St2 × St3 × St4 × (Str × Tok × (List (Addr × Obj)))) : Prop := u3 (u6 (u6 (u6 (u6 @npath_S z9.1) z9.2.1) z9.2.2.1) z9.2.2.2.1) z9.2.2.2.2
def npath_c := eps (by walk_at "ne") npath_u
namespace Knpath
@[irreducible] def prog := npath_c.1.1
@[irreducible] def w := npath_c.1.2.1
@[irreducible] def p := npath_c.1.2.2.1
@[irreducible] def loose := npath_c.1.2.2.2.1
@[irreducible] def mean := npath_c.1.2.2.2.2.1
@[irreducible] def mg := npath_c.1.2.2.2.2.2
@[irreducible] def mb := npath_c.2.1.1
@[irreducible] def dp := npath_c.2.1.2.1
@[irreducible] def un := npath_c.2.1.2.2.1
@[irreducible] def gd := npath_c.2.1.2.2.2.1
@[irreducible] def cn := npath_c.2.1.2.2.2.2.1
@[irreducible] def cs := npath_c.2.1.2.2.2.2.2
@[irreducible] def a := npath_c.2.2.1.1
@[irreducible] def ccd := npath_c.2.2.1.2.1
@[irreducible] def cl := npath_c.2.2.1.2.2.1
@[irreducible] def outer := npath_c.2.2.1.2.2.2.1
@[irreducible] def A₀ := npath_c.2.2.1.2.2.2.2.1
@[irreducible] def base := npath_c.2.2.1.2.2.2.2.2
@[irreducible] def h₀ := npath_c.2.2.2.1.1
@[irreducible] def L := npath_c.2.2.2.1.2.1
@[irreducible] def m := npath_c.2.2.2.1.2.2.1
@[irreducible] def s := npath_c.2.2.2.1.2.2.2.1
@[irreducible] def Q := npath_c.2.2.2.1.2.2.2.2.1
@[irreducible] def E := npath_c.2.2.2.1.2.2.2.2.2
@[irreducible] def P := npath_c.2.2.2.2.1
@[irreducible] def pt := npath_c.2.2.2.2.2.1
@[irreducible] def rest := npath_c.2.2.2.2.2.2
end Knpath
section
open Knpath
theorem npath_0 : @npath_S prog w p loose mean mg mb dp un gd cn cs a ccd cl outer A₀ base h₀ L m s Q E P pt rest := by
 have e9 : EpsOn := trivial
 unfold npath_S
 intro B F X N hP hsum hjl h0 hspw hsp hA hB hcut T hk hdp hun ret
 refine wpAny_call ?_
 k_dflt ((refine' kp_both ?k1 ?k2 ?k3 ?k4 ?k5 ?kA ?kF ?kK ?k6 ?k7 ?k8 ?kV ?kX ?kQ ?kM ?kN ?kD ?kR ?kP ?kS ?kT ?kB ?_ ?c2 ?c3 ?c4 ?c5; (case kA => exact rfl); (case kF => exact rfl); (case kK => first | assumption | exact rfl); (case k1 => k_asm); (case k2 => k_asm); (case k3 => k_asm); (case k4 => k_asm); (case k5 => k_asm); (case k6 => k_is); (case k7 => k_is); (case k8 => ktr_room); (case kV => kp_lit); (case kX => kp_lit); (case kQ => exact rfl); (case kM => exact rfl); (case kN => exact rfl); (case kD => kp_flats); (case kR => exact rfl); (case kP => exact rfl); (case kS => exact fun _ => rfl); (case kT => exact fun _ _ => rfl); (case kB => exact fun _ _ => locs rfl); (case c5 => decide); (case c2 => exact rfl); (case c3 => exact rfl); (case c4 => exact rfl); k_whole; intro C' D' o' g' L' h' tk' l1 l2 lo' hs' fs' FG' F' N' B' X' T'; (try k_lt l1); (try k_lt2 l2); (try dsimp only); (try k_lift B'); (try k_fold)))
 k_steps
 show wpAny _ _ (call (.ref 291) [.str P pt]) _ _ _
 with_reducible rename Below (ktrTop dp un gd cn cs L a ccd cl outer) _ _ _ => BB
 with_reducible rename Fr _ _ _ _ => FF
 with_reducible rename News _ _ _ _ => NN
 with_reducible rename Top _ _ _ _ _ _ => TT
 with_reducible rename (KK w.params).In _ => XX
 refine nrm2 BB FF XX NN hP hsum hjl h0 hspw hsp hA hB hcut TT rfl (by show dp + 1 < 344; omega) (by show un + 3 < 250; omega) ?_
 clear FF NN
 intro h7 tk7 t7 F7 N7
 k_steps
 with_reducible rename Fr h₀ L _ m => kF
 with_reducible rename News h₀ L _ _ => kN
 exact ret _ _ _ kF (fun q hq => kN q (by first | exact hq | exact tl2 hq))
end
theorem npath {prog w p loose mean mg mb dp un gd cn cs a ccd cl outer A₀ base h₀ L m s Q E P pt rest} : @npath_S prog w p loose mean mg mb dp un gd cn cs a ccd cl outer A₀ base h₀ L m s Q E P pt rest :=
 eps_all (S := npath_u) npath_c rfl (by have := npath_0; with_unfolding_all assumption) ((prog, w, p, loose, mean, mg), (mb, dp, un, gd, cn, cs), (a, ccd, cl, outer, A₀, base), (h₀, L, m, s, Q, E), (P, pt, rest))
end
end Mine
namespace Mine
open PySem.Builtin
abbrev noSet (led : Bool) : Obj := { cls := .type "set", data := .set #[] 0 (SetTable.fresh 0 0 led) }
theorem slot_si_next : Slot "set_iterator" "__next__" "set_iterator.__next__" :=
 .of (owner := "set_iterator") (n := "__next__") (by rw [typeLookup_type, builtinLookup_eq_fast]; kernel_rfl) (by decide +kernel) (by decide +kernel) (by decide +kernel)
  (by first | exact .inl (by decide +kernel) | exact .inr (by decide +kernel)) (by rw [isSubtype_type]; kernel_rfl)
theorem entry_si_next : entryFor table "set_iterator.__next__" = some Builtin.«set_iterator.__next__» := entryFor_of_tree (by kernel_rfl)
theorem entry_set_iter : entryFor table "set.__iter__" = some Builtin.«frozenset.__iter__» :=
 entryFor_alias (id' := "frozenset.__iter__") (by kernel_rfl) rfl (by decide +kernel) (by kernel_rfl)
theorem args_si_next (a : Value) : argsOk "set_iterator.__next__" ⟨[a], []⟩ := by unfold argsOk; kernel_rfl
abbrev siObj (sa : Addr) : Obj := { cls := .type "set_iterator", data := .fields #[.int 0 0, .int 0 0, .ref sa, .int 0 0, .int 0 0] }
section
variable {prog : Program} {w : World} {A : Around} {E : Value → Shared → Prop} {s : Shared} {sa I : Addr} {led : Bool}
theorem wp_if_neg {α : Type} {M : Model} {c : Prop} [Decidable c] {a b : Sem α} {Q : α → Shared → Prop} (h : ¬ c) (hb : wpAny M A b Q E s) : wpAny M A (if c then a else b) Q E s := by rw [if_neg h]; exact hb
theorem iter_setNil {Q : Value → Shared → Prop} (hs : s.heap.get? sa = some (noSet led)) (hQ : Q (.ref s.heap.objs.size) { s with heap := s.heap.push (siObj sa) }) : wpAny (model prog w) A (pyIter (.ref sa)) Q E s := by
 refine wpAny_pyIter_slot ⟨_, hs, rfl⟩ F.slot_set_iter (wpAny_call_entry F.slot_set_iter ⟨_, hs, rfl⟩ entry_set_iter ?_ (F.args_set_iter_1 _))
 unfold «frozenset.__iter__» Frozenset.slot0 Frozenset.sizeOf
 refine wpAny_bind ?_
 refine wpAny_bind (wpAny_pure (wpAny_pure ?_))
 refine wpAny_bind (wpAny_bind (wpAny_setEntries_of hs rfl rfl (wpAny_pure ?_)))
 refine wpAny_bind ?_
 unfold setDrawn setsByText
 refine wpAny_bind (wpAny_setState_of hs rfl rfl ?_)
 dsimp only
 refine wpAny_bind (wpAny_bind (wpAny_askSetting (wpAny_pure (wpAny_pure ?_))))
 refine wp_if_neg (fun h => Bool.false_ne_true (Bool.and_eq_true_iff.mp h).2) ?_
 refine wpAny_bind (wpAny_pure ?_)
 unfold setEpoch
 refine wpAny_bind (wpAny_bind (wpAny_setState_of hs rfl rfl (wpAny_pure ?_)))
 exact wpAny_bind (wpAny_newObj_type (wpAny_pure ⟨_, rfl, "set_iterator", _, ⟨_, Heap.get?_push_size _ rfl, rfl⟩, slot_si_next.lookup, hQ⟩))
theorem next_setNil {Q : Option Value → Shared → Prop} (hh : A.handled = none) (hi : s.heap.get? I = some (siObj sa)) (hs : s.heap.get? sa = some (noSet led)) (hQ : ∀ h', Heap.ExtBut I s.heap h' → Q none { s with heap := h' }) :
  wpAny (model prog w) A (pyNext (.ref I)) Q E s := by
 unfold pyNext
 refine wpAny_bind (wpAny_attempt (wpAny_callSpecial?_slot (name := Str.ofString "__next__") ⟨_, hi, rfl⟩ slot_si_next
  (wpAny_call_entry slot_si_next ⟨_, hi, rfl⟩ entry_si_next ?_ (args_si_next _))))
 unfold «set_iterator.__next__»
 refine wpAny_bind (wpAny_pure ?_)
 dsimp only
 refine wpAny_bind (wpAny_fieldsOf hi rfl ?_)
 dsimp only
 refine wpAny_bind (wpAny_setEntries_of hs rfl rfl ?_)
 refine wp_if_neg (by decide) ?_
 unfold setNext setsByText
 refine wpAny_bind (wpAny_bind (wpAny_setState_of hs rfl rfl ?_))
 refine wpAny_bind (wpAny_bind (wpAny_askSetting (wpAny_pure ?_)))
 refine wpAny_mono (Q := fun a s' => a = none ∧ s' = s) ?first (fun a s' h => ?snd) (fun _ _ e => e)
 case snd =>
  obtain ⟨rfl, rfl⟩ := h
  refine wpAny_bind (wpAny_setField hi rfl (by simp) ?_)
  refine wpAny_bind ?_
  simp only [newExc, newTuple]
  refine wpAny_bind (wpAny_newObj_type ?_ (by size_fits))
  refine wpAny_bind (m := firstArgMember _ _) (wpAny_of_eq (a := Value.none) (by first | rfl | (simp only [firstArgMember]; rfl)) ?_)
  refine wpAny_newObj_type ?_ (by size_fits)
  simp only [raiseNew]
  refine wpAny_bind (wpAny_handled ?_)
  rw [show A.in1.handled = none from hh]
  refine wpAny_bind (wpAny_pure (wpAny_throw ?_))
  refine wpAny_bind (wpAny_isInstance (T := "StopIteration") (b := true) ⟨_, Heap.get?_push_size _ rfl, rfl⟩ isSubtype_stop ?_)
  exact wpAny_pure (hQ _ (((Heap.SameBut.update ..).extBut.push _).push _))
 case first =>
  split
  ·rename_i hx
   refine wp_if_neg (by decide) ?_
   unfold setWalk setsByText
   refine wpAny_bind (wpAny_bind (wpAny_setState_of hs rfl rfl ?_))
   refine wpAny_bind (wpAny_bind (wpAny_askSetting (wpAny_pure ?_)))
   rw [if_pos hx]
   refine wpAny_bind (wpAny_askSetting (wpAny_pure (wpAny_pure ⟨rfl, rfl⟩)))
  ·refine wp_if_neg (fun h => Bool.false_ne_true h) ?_
   cases led
   ·exact wpAny_bind (wpAny_pure (wpAny_pure ⟨rfl, rfl⟩))
   ·exact wpAny_bind (wpAny_pure (wpAny_pure ⟨rfl, rfl⟩))
theorem turns_setNil {target : Expr} (hh : A.handled = none) (I sa : Addr) :
  KTurns prog w A target I [I, sa] [I] 0 (fun _ _ _ => False) (fun _ _ _ => False) (fun _ h => h.get? I = some (siObj sa) ∧ h.get? sa = some (noSet led)) where
 sub := fun b hb => by simp at hb; simp [hb]
 frame := fun _ _ _ st hk => ⟨hk I (by simp) _ st.1, hk sa (by simp) _ st.2⟩
 item := fun i s Q E hi st hQ => absurd hi (Nat.not_lt_zero _)
 go := fun i v s Q E hm hQ => hm.elim
 done := fun s Q E st hQ => next_setNil hh st.1 st.2 fun h' he' => hQ h' s.toks fun b o hb e => he' b o (fun h => hb (by simp [h])) e
theorem iter_setTurns {env : Env} {h₀ : Heap} {target : Expr} {body : List Stmt} {Q : Flow → Shared → Prop} {m₀ : Str → Option Value} {news : List (Addr × Obj)}
  (hh : A.handled = none) (F : Fr h₀ env.locals s.heap m₀) (N : News h₀ env.locals s.heap news) (hm : (sa, noSet led) ∈ news)
  (rest₀ : ∀ I : Addr, (∀ p ∈ news, p.1 < I) → ItemsRest prog w A E h₀ env target body Q s [(I, "set_iterator")] [(sa, noSet led)] [] m₀ news) :
  wpAny (model prog w) A (pyIter (.ref sa)) (fun it s₂ => TurnsAt prog w A h₀ env target body Q E it s₂) E s := by
 have hax := N _ hm
 refine iter_setNil hax.1 ?_
 refine ktu_core (tk0 := s.toks) (keep := [(sa, noSet led)]) (turns_setNil (led := led) hh s.heap.objs.size sa) rfl (fun i v h hp => hp.elim) (fun i h st => ?_) (fun b hb => ?_) (fun b hb => by simpa using hb) (fun b hb => ?_) ?_ (fun p hp hI => ?_) ?_ (F.push _) (fun p hp => ⟨Heap.get?_push_of_some _ (N p hp).1, (N p hp).2⟩) (And.intro hm trivial) (rest₀ _ fun p hp => Heap.lt_size (N p hp).1)
 ·exact ⟨[(s.heap.objs.size, _)], ⟨⟨rfl, rfl⟩, trivial⟩, fun p hp => by rw [List.mem_singleton.mp hp]; exact st.1⟩
 ·have hb' : b = s.heap.objs.size := by simpa using hb
  rw [hb']
  exact ⟨List.mem_cons_self .., next_is_new F⟩
 ·have hb' : b = s.heap.objs.size ∨ b = sa := by simpa using hb
  rcases hb' with e | e
  ·exact .inl (by simp [e])
  ·exact .inr ⟨noSet led, by simp [e]⟩
 ·intro hI
  rcases List.mem_cons.mp hI with e | hI
  ·exact absurd F.ns.lt (e ▸ Nat.lt_irrefl _)
  ·exact hax.2.1 (List.mem_singleton.mp hI).symm
 ·exact absurd (Heap.lt_size (N p hp).1) ((List.mem_singleton.mp hI) ▸ Nat.lt_irrefl _)
 ·exact ⟨Heap.get?_push_size _ rfl, Heap.get?_push_of_some _ hax.1⟩
end
end Mine
namespace Mine
open TI PyProof.Rows.LCg PyProof.Rows.LCt
abbrev rdD (sa la ig : Addr) (h1 h2 h3 : Int) (t1 t2 t3 : Tok) : List DictEntry :=
 [⟨h1, .str "_mods" t1, .ref sa⟩, ⟨h2, .str "_dirs" t2, .ref la⟩, ⟨h3, .str "_ignore" t3, .ref ig⟩]
abbrev nmM (x : Addr) (fn mn : Str) (ft mt : Tok) (md : Option Value) : Str → Option Value := fun y => if y = Str.ofString "d" then md else List.lookup y [(Str.ofString "modulename", .str mn mt), (Str.ofString "filename", .str fn ft), (Str.ofString "self", .ref x)]
def igA (ds : List (Str × Tok)) (fn : Str) : Bool := ds.any fun d => Txt.startswith fn (d.1 ++ Str.ofString "/")
inductive NmP (x : Addr) (fn mn : Str) (ft mt : Tok) (R : List (Addr × Obj)) (ds rq : List (Str × Tok)) : (Str → Option Value) → List (Addr × Obj) → Prop
 | mk (md : Option Value) (e1 : igA rq fn = igA ds fn) (e2 : ∀ q ∈ rq, q.1.length ≤ 40) : NmP x fn mn ft mt R ds rq (nmM x fn mn ft mt md) R
theorem nmM_d {x : Addr} {fn mn : Str} {ft mt : Tok} {md : Option Value} {v : Value} (y : Str) : (if y = Str.ofString "d" then some v else nmM x fn mn ft mt md y) = nmM x fn mn ft mt (some v) y := by
 by_cases e : y = Str.ofString "d"
 ·subst e; rfl
 ·simp only [nmM, e, if_false]
theorem set_nil {prog : Program} {w : World} {h : Heap} {sa : Addr} {led : Bool} (e : h.get? sa = some (noSet led)) : h.SetOf (PySem.strKind prog w) sa (fun _ => false) 0 :=
 ⟨_, #[], 0, _, e, ⟨rfl, rfl, rfl⟩, rfl, fun e he => by simp at he, fun k => by simp, by decide, by rfl, rfl⟩
namespace SR08
def h9s_stops := sT
def h9s_binaryOp_Add_str_str := sT
def h9s_exec_For_Name_Attribute_cons_nil := sT
end SR08
open SR08
section
section
variable {prog : Program} {w : World} {p : Program} {loose : List Str} {mean : ExcName → Option Value} {mg mb : Str → Option Value}
 {dp un : Nat} {gd : Option (List Code)} {cn : Str} {cs : Scope} {a : Addr} {ccd : Value} {cl : List (Str × Addr)} {outer : List Env} {A₀ : Around} {base h₀ : Heap} {L : Addr} {m : Str → Option Value} {s : Shared} {Q E : Value → Shared → Prop}
def rnew_S {x dx sa la ig : Addr} {h1 h2 h3 : Int} {t1 t2 t3 : Tok} {led : Bool} {n dc : Nat} {od : Obj} {ds : List (Str × Tok)} {kvs : List (Str × Value)} {fn mn : Str} {ft mt : Tok} {rest : List (Addr × Obj)} : Prop := ∀ (B : Below A₀ base outer h₀) (F : Fr h₀ L s.heap m) (X : (KK w.params).In h₀) (N : News h₀ L s.heap ((x, instObj 321 dx) :: (dx, dictOf (rdD sa la ig h1 h2 h3 t1 t2 t3) n) :: (sa, noSet led) :: (la, listOf (ds.map sV).toArray dc) :: (ig, od) :: rest)) (ap : Apart [(x, instObj 321 dx), (dx, dictOf (rdD sa la ig h1 h2 h3 t1 t2 t3) n), (sa, noSet led), (la, listOf (ds.map sV).toArray dc), (ig, od)] rest) (lo : (ig == sysModules) = false) (hdl : ∀ q ∈ ds, q.1.length ≤ 40) (hfn : fn.length ≤ 40) (hd : od.IsDictOf (PySem.strKind prog w) kvs) (hv : valueAt kvs mn = none) (hkl : kvs.length ≤ 20) (n1 : x ≠ ig) (n2 : dx ≠ ig) (n3 : sa ≠ ig) (n4 : la ≠ ig) (T : Top p loose mean mg mb h₀) (hk : cs.kind = .function) (hdp : dp < 350) (hun : un < 300) (ret : ∀ h' tk' o' t' tv, Fr h₀ L h' m → News h₀ L h' ((x, instObj 321 dx) :: (dx, dictOf (rdD sa la ig h1 h2 h3 t1 t2 t3) n) :: (sa, noSet led) :: (la, listOf (ds.map sV).toArray dc) :: (ig, o') :: rest) → o'.IsDictOf (PySem.strKind prog w) (stored kvs mn (.int (bif igA ds fn then 1 else 0) tv)) → Q (.int (bif igA ds fn then 1 else 0) t') { s with heap := h', toks := tk' }),
  wpAny (model prog w) (ktrTop dp un gd cn cs L a ccd cl outer) (call (.ref 318) [.ref x, .str fn ft, .str mn mt]) Q E s
end
abbrev rnew_u (z9 : St1 × St2 × St3 × St4 × (Addr × Addr × Addr × Addr × Addr × Int) × (Int × Int × Tok × Tok × Tok × Bool) × (Nat × Nat × Obj × (List (Str × Tok)) × (List (Str × Value)) × Str) × (Str × Tok × Tok × (List (Addr × Obj)))) : Prop := u4 (u6 (u6 (u6 (u6 (u6 (u6 (u6 @rnew_S z9.1) z9.2.1) z9.2.2.1) z9.2.2.2.1) z9.2.2.2.2.1) z9.2.2.2.2.2.1) z9.2.2.2.2.2.2.1) z9.2.2.2.2.2.2.2
def rnew_c := eps (by walk_at "ne") rnew_u
namespace Krnew
@[irreducible] def prog := rnew_c.1.1
@[irreducible] def w := rnew_c.1.2.1
@[irreducible] def p := rnew_c.1.2.2.1
@[irreducible] def loose := rnew_c.1.2.2.2.1
@[irreducible] def mean := rnew_c.1.2.2.2.2.1
@[irreducible] def mg := rnew_c.1.2.2.2.2.2
@[irreducible] def mb := rnew_c.2.1.1
@[irreducible] def dp := rnew_c.2.1.2.1
@[irreducible] def un := rnew_c.2.1.2.2.1
@[irreducible] def gd := rnew_c.2.1.2.2.2.1
@[irreducible] def cn := rnew_c.2.1.2.2.2.2.1
@[irreducible] def cs := rnew_c.2.1.2.2.2.2.2
@[irreducible] def a := rnew_c.2.2.1.1
@[irreducible] def ccd := rnew_c.2.2.1.2.1
@[irreducible] def cl := rnew_c.2.2.1.2.2.1
@[irreducible] def outer := rnew_c.2.2.1.2.2.2.1
@[irreducible] def A₀ := rnew_c.2.2.1.2.2.2.2.1
@[irreducible] def base := rnew_c.2.2.1.2.2.2.2.2
@[irreducible] def h₀ := rnew_c.2.2.2.1.1
@[irreducible] def L := rnew_c.2.2.2.1.2.1
@[irreducible] def m := rnew_c.2.2.2.1.2.2.1
@[irreducible] def s := rnew_c.2.2.2.1.2.2.2.1
@[irreducible] def Q := rnew_c.2.2.2.1.2.2.2.2.1
@[irreducible] def E := rnew_c.2.2.2.1.2.2.2.2.2
@[irreducible] def x := rnew_c.2.2.2.2.1.1
@[irreducible] def dx := rnew_c.2.2.2.2.1.2.1
@[irreducible] def sa := rnew_c.2.2.2.2.1.2.2.1
@[irreducible] def la := rnew_c.2.2.2.2.1.2.2.2.1
@[irreducible] def ig := rnew_c.2.2.2.2.1.2.2.2.2.1
@[irreducible] def h1 := rnew_c.2.2.2.2.1.2.2.2.2.2
@[irreducible] def h2 := rnew_c.2.2.2.2.2.1.1
@[irreducible] def h3 := rnew_c.2.2.2.2.2.1.2.1
@[irreducible] def t1 := rnew_c.2.2.2.2.2.1.2.2.1
@[irreducible] def t2 := rnew_c.2.2.2.2.2.1.2.2.2.1
@[irreducible] def t3 := rnew_c.2.2.2.2.2.1.2.2.2.2.1
@[irreducible] def led := rnew_c.2.2.2.2.2.1.2.2.2.2.2
@[irreducible] def n := rnew_c.2.2.2.2.2.2.1.1
@[irreducible] def dc := rnew_c.2.2.2.2.2.2.1.2.1
@[irreducible] def od := rnew_c.2.2.2.2.2.2.1.2.2.1
@[irreducible] def ds := rnew_c.2.2.2.2.2.2.1.2.2.2.1
@[irreducible] def kvs := rnew_c.2.2.2.2.2.2.1.2.2.2.2.1
@[irreducible] def fn := rnew_c.2.2.2.2.2.2.1.2.2.2.2.2
@[irreducible] def mn := rnew_c.2.2.2.2.2.2.2.1
@[irreducible] def ft := rnew_c.2.2.2.2.2.2.2.2.1
@[irreducible] def mt := rnew_c.2.2.2.2.2.2.2.2.2.1
@[irreducible] def rest := rnew_c.2.2.2.2.2.2.2.2.2.2
end Krnew
section
open Krnew
theorem rnew_0 : @rnew_S prog w p loose mean mg mb dp un gd cn cs a ccd cl outer A₀ base h₀ L m s Q E x dx sa la ig h1 h2 h3 t1 t2 t3 led n dc od ds kvs fn mn ft mt rest := by
 have e9 : EpsOn := trivial
 unfold rnew_S
 intro B F X N ap lo hdl hfn hd hv hkl n1 n2 n3 n4 T hk hdp hun ret
 refine wpAny_call ?_
 k_dflt ktr_enter
 intro g1 L1 hh1 FG1 F1 N1 B1 X1 T1 l1 hr
 (try dsimp only); (try k_lt l1); (try k_fold)
 k_steps
 show wpAny _ _ (compareOp .In (.str mn mt) (.ref ig)) _ _ _
 refine kda_in (knd := PySem.strKind _ _) N1 (tl4 (.head _)) hd lo (strKind_is _ _ _ _) false (by rw [hv]; rfl) ?_
 k_steps
 show wpAny _ _ (compareOp .In (.str mn mt) (.ref sa)) _ _ _
 refine wpAny_inSet_of (knd := PySem.strKind _ _) (k := mn) (strKind_is _ _ _ _) rfl (set_nil (N1 _ (tl2 (.head _))).1) ?_
 k_steps
 show wpAny _ _ (exec (Stmt.For _ _ _ _ _) _) _ _ _
 refine For_turns (by k_asm) ?_
 k_steps
 show wpAny _ _ (pyIter _) _ _ _
 refine iter_setTurns rfl (by k_asm) (by k_asm) (by k_mem) ?_
 intro I0 lI0
 (refine ItemsRest.zero ?_; intro hz2 tk2 F2 N2)
 k_steps
 show wpAny _ _ (exec (Stmt.For _ _ _ _ _) _) _ _ _
 refine For_turns (by k_asm) ?_
 k_steps
 show wpAny _ _ (pyIter _) _ _ _
 have lo1 : ∀ q ∈ [(x, instObj 321 dx), (dx, dictOf (rdD sa la ig h1 h2 h3 t1 t2 t3) n), (sa, noSet led), (la, listOf (ds.map sV).toArray dc), (ig, od)], @LT.lt Nat _ q.1 I0 := lI0
 clear F1 N1 lI0
 replace F2 : Fr g1 L1 _ _ := F2
 replace N2 : News g1 L1 _ [(x, instObj 321 dx), (dx, dictOf (rdD sa la ig h1 h2 h3 t1 t2 t3) n), (sa, noSet led), (la, listOf (ds.map sV).toArray dc), (ig, od)] := N2
 have FA := F2
 have NA := N2
 clear F2 N2
 replace FA : Fr g1 L1 _ (nmM x fn mn ft mt none) := fr_map FA (fun y => by
  by_cases e1 : y = Str.ofString "d"
  ·subst e1; rfl
  ·simp only [nmM, e1, if_false]
   rfl)
 refine iter_listTurns (lo := listOf (ds.map sV).toArray dc) (vs := ds.map sV) (n := dc) rfl FA NA (by k_mem) rfl rfl ?_
 intro I lI
 rw [List.map_map]
 refine items_ind (f := Itm.val ∘ sV) (P := NmP x fn mn ft mt [(x, instObj 321 dx), (dx, dictOf (rdD sa la ig h1 h2 h3 t1 t2 t3) n), (sa, noSet led), (la, listOf (ds.map sV).toArray dc), (ig, od)] ds) ?_ ?_ _ _ _ (.mk none rfl hdl)
 ·clear FA NA
  intro m1 news1 W9
  refine NmP.casesOn W9 ?_
  clear W9 m1 news1
  intro md hig hrl
  (refine ItemsRest.zero ?_; intro h tk FK NK)
  replace FK : Fr g1 L1 _ _ := FK
  replace NK : News g1 L1 _ _ := NK
  k_steps
  with_reducible rename Fr h₀ L _ m => kF
  with_reducible rename News h₀ L _ rest => nr
  with_reducible rename News h₀ L _ (_ :: _) => kN
  with_reducible rename Obj.IsDictOf _ _ (stored _ _ _) => hd9
  rw [show igA ds fn = false from hig.symm] at ret
  refine' ret _ _ _ _ _ kF (news_of kN nr ?n1) hd9
  (case n1 => k_subL)
 ·clear FA NA
  intro q0 rq m1 news1 W9 ih
  refine NmP.casesOn W9 ?_
  clear W9 m1 news1
  intro md hig hrl
  obtain ⟨nm, nt⟩ := q0
  revert nm nt
  intro nm nt
  walk_at "hi"
  have n5 : I ≠ ig := fun e => absurd (lI _ (tl4 (.head _))) (by rw [e]; exact Nat.lt_irrefl _)
  have hnl : nm.length ≤ 40 := hrl (nm, nt) (.head _)
  (refine ItemsRest.val1 ?_; intro h tk io hio FK NK)
  k_steps
  show wpAny _ _ (binaryOp .Add (.str nm nt) (.str _ _)) _ _ _
  refine PyProof.Rows.add_str ?_ (by rw [sizeLine_eq, show (Str.ofString "/").length = 1 by decide]; omega)
  intro ta tka
  k_steps
  ·with_reducible rename Fr h₀ L _ m => kF
   with_reducible rename News h₀ L _ rest => nr
   with_reducible rename News h₀ L _ (_ :: _) => kN
   with_reducible rename Obj.IsDictOf _ _ (stored _ _ _) => hd9
   rw [show igA ds fn = true from by rw [← hig]; show (Txt.startswith fn (nm ++ Str.ofString "/") || _) = true; rw [‹Txt.startswith fn (nm ++ Str.ofString "/") = true›]; rfl] at ret
   refine' ret _ _ _ _ _ kF (news_of kN nr ?n2) hd9
   (case n2 => k_subL)
  ·show UnrEndW _ _ _ _ _ _
   with_reducible rename Fr g1 L1 _ _ => FM
   with_reducible rename News g1 L1 _ _ => NM
   refine unrEnd1 (m' := nmM x fn mn ft mt (some (.str nm nt))) (news' := [(x, instObj 321 dx), (dx, dictOf (rdD sa la ig h1 h2 h3 t1 t2 t3) n), (sa, noSet led), (la, listOf (ds.map sV).toArray dc), (ig, od)]) (fr_map FM nmM_d) NM (fun q hq => Nat.ne_of_lt (lI q hq)) ⟨⟨tl3 (.head _), trivial⟩, ih _ _ (.mk _ ?ig (fun q hq => hrl q (.tail _ hq)))⟩
   case ig =>
    rw [← hig]
    show igA rq fn = (Txt.startswith fn (nm ++ Str.ofString "/") || igA rq fn)
    rw [‹Txt.startswith fn (nm ++ Str.ofString "/") = false›, Bool.false_or]
end
theorem rnew {prog w p loose mean mg mb dp un gd cn cs a ccd cl outer A₀ base h₀ L m s Q E x dx sa la ig h1 h2 h3 t1 t2 t3 led n dc od ds kvs fn mn ft mt rest} : @rnew_S prog w p loose mean mg mb dp un gd cn cs a ccd cl outer A₀ base h₀ L m s Q E x dx sa la ig h1 h2 h3 t1 t2 t3 led n dc od ds kvs fn mn ft mt rest :=
 eps_all (S := rnew_u) rnew_c rfl (by have := rnew_0; with_unfolding_all assumption) ((prog, w, p, loose, mean, mg), (mb, dp, un, gd, cn, cs), (a, ccd, cl, outer, A₀, base), (h₀, L, m, s, Q, E), (x, dx, sa, la, ig, h1), (h2, h3, t1, t2, t3, led), (n, dc, od, ds, kvs, fn), (mn, ft, mt, rest))
section
variable {prog : Program} {w : World} {p : Program} {loose : List Str} {mean : ExcName → Option Value} {mg mb : Str → Option Value}
 {dp un : Nat} {gd : Option (List Code)} {cn : Str} {cs : Scope} {a : Addr} {ccd : Value} {cl : List (Str × Addr)} {outer : List Env} {A₀ : Around} {base h₀ : Heap} {L : Addr} {m : Str → Option Value} {s : Shared} {Q E : Value → Shared → Prop}
def rold_S {x dx sa la ig : Addr} {h1 h2 h3 : Int} {t1 t2 t3 : Tok} {led : Bool} {n dc : Nat} {od : Obj} {ds : List (Str × Tok)} {kvs : List (Str × Value)} {fn mn : Str} {ft mt : Tok} {rest : List (Addr × Obj)} : Prop := ∀ (B : Below A₀ base outer h₀) (F : Fr h₀ L s.heap m) (X : (KK w.params).In h₀) (N : News h₀ L s.heap ((x, instObj 321 dx) :: (dx, dictOf (rdD sa la ig h1 h2 h3 t1 t2 t3) n) :: (sa, noSet led) :: (la, listOf (ds.map sV).toArray dc) :: (ig, od) :: rest)) (ap : Apart [(x, instObj 321 dx), (dx, dictOf (rdD sa la ig h1 h2 h3 t1 t2 t3) n), (sa, noSet led), (la, listOf (ds.map sV).toArray dc), (ig, od)] rest) (lo : (ig == sysModules) = false) (hdl : ∀ q ∈ ds, q.1.length ≤ 40) (hfn : fn.length ≤ 40) (hd : od.IsDictOf (PySem.strKind prog w) kvs) {r : Int} {u : Tok} (hv : valueAt kvs mn = some (.int r u)) (hkl : kvs.length ≤ 20) (n1 : x ≠ ig) (n2 : dx ≠ ig) (n3 : sa ≠ ig) (n4 : la ≠ ig) (T : Top p loose mean mg mb h₀) (hk : cs.kind = .function) (hdp : dp < 350) (hun : un < 300) (ret : ∀ h' tk', Fr h₀ L h' m → News h₀ L h' ((x, instObj 321 dx) :: (dx, dictOf (rdD sa la ig h1 h2 h3 t1 t2 t3) n) :: (sa, noSet led) :: (la, listOf (ds.map sV).toArray dc) :: (ig, od) :: rest) → Q (.int r u) { s with heap := h', toks := tk' }),
  wpAny (model prog w) (ktrTop dp un gd cn cs L a ccd cl outer) (call (.ref 318) [.ref x, .str fn ft, .str mn mt]) Q E s
end
abbrev rold_u (z9 : St1 × St2 × St3 × St4 × (Addr × Addr × Addr × Addr × Addr × Int) × (Int × Int × Tok × Tok × Tok × Bool) × (Nat × Nat × Obj × (List (Str × Tok)) × (List (Str × Value)) × Str) × (Str × Tok × Tok × (List (Addr × Obj)))) : Prop := u4 (u6 (u6 (u6 (u6 (u6 (u6 (u6 @rold_S z9.1) z9.2.1) z9.2.2.1) z9.2.2.2.1) z9.2.2.2.2.1) z9.2.2.2.2.2.1) z9.2.2.2.2.2.2.1) z9.2.2.2.2.2.2.2
def rold_c := eps (by walk_at "ne") rold_u
namespace Krold
@[irreducible] def prog := rold_c.1.1
@[irreducible] def w := rold_c.1.2.1
@[irreducible] def p := rold_c.1.2.2.1
@[irreducible] def loose := rold_c.1.2.2.2.1
@[irreducible] def mean := rold_c.1.2.2.2.2.1
@[irreducible] def mg := rold_c.1.2.2.2.2.2
@[irreducible] def mb := rold_c.2.1.1
@[irreducible] def dp := rold_c.2.1.2.1
@[irreducible] def un := rold_c.2.1.2.2.1
@[irreducible] def gd := rold_c.2.1.2.2.2.1
@[irreducible] def cn := rold_c.2.1.2.2.2.2.1
@[irreducible] def cs := rold_c.2.1.2.2.2.2.2
@[irreducible] def a := rold_c.2.2.1.1
@[irreducible] def ccd := rold_c.2.2.1.2.1
@[irreducible] def cl := rold_c.2.2.1.2.2.1
@[irreducible] def outer := rold_c.2.2.1.2.2.2.1
@[irreducible] def A₀ := rold_c.2.2.1.2.2.2.2.1
@[irreducible] def base := rold_c.2.2.1.2.2.2.2.2
@[irreducible] def h₀ := rold_c.2.2.2.1.1
@[irreducible] def L := rold_c.2.2.2.1.2.1
@[irreducible] def m := rold_c.2.2.2.1.2.2.1
@[irreducible] def s := rold_c.2.2.2.1.2.2.2.1
@[irreducible] def Q := rold_c.2.2.2.1.2.2.2.2.1
@[irreducible] def E := rold_c.2.2.2.1.2.2.2.2.2
@[irreducible] def x := rold_c.2.2.2.2.1.1
@[irreducible] def dx := rold_c.2.2.2.2.1.2.1
@[irreducible] def sa := rold_c.2.2.2.2.1.2.2.1
@[irreducible] def la := rold_c.2.2.2.2.1.2.2.2.1
@[irreducible] def ig := rold_c.2.2.2.2.1.2.2.2.2.1
@[irreducible] def h1 := rold_c.2.2.2.2.1.2.2.2.2.2
@[irreducible] def h2 := rold_c.2.2.2.2.2.1.1
@[irreducible] def h3 := rold_c.2.2.2.2.2.1.2.1
@[irreducible] def t1 := rold_c.2.2.2.2.2.1.2.2.1
@[irreducible] def t2 := rold_c.2.2.2.2.2.1.2.2.2.1
@[irreducible] def t3 := rold_c.2.2.2.2.2.1.2.2.2.2.1
@[irreducible] def led := rold_c.2.2.2.2.2.1.2.2.2.2.2
@[irreducible] def n := rold_c.2.2.2.2.2.2.1.1
@[irreducible] def dc := rold_c.2.2.2.2.2.2.1.2.1
@[irreducible] def od := rold_c.2.2.2.2.2.2.1.2.2.1
@[irreducible] def ds := rold_c.2.2.2.2.2.2.1.2.2.2.1
@[irreducible] def kvs := rold_c.2.2.2.2.2.2.1.2.2.2.2.1
@[irreducible] def fn := rold_c.2.2.2.2.2.2.1.2.2.2.2.2
@[irreducible] def mn := rold_c.2.2.2.2.2.2.2.1
@[irreducible] def ft := rold_c.2.2.2.2.2.2.2.2.1
@[irreducible] def mt := rold_c.2.2.2.2.2.2.2.2.2.1
@[irreducible] def rest := rold_c.2.2.2.2.2.2.2.2.2.2
end Krold
section
open Krold
theorem rold_0 : @rold_S prog w p loose mean mg mb dp un gd cn cs a ccd cl outer A₀ base h₀ L m s Q E x dx sa la ig h1 h2 h3 t1 t2 t3 led n dc od ds kvs fn mn ft mt rest := by
 have e9 : EpsOn := trivial
 unfold rold_S
 intro B F X N ap lo hdl hfn hd r u hv hkl n1 n2 n3 n4 T hk hdp hun ret
 refine wpAny_call ?_
 k_dflt ktr_enter
 intro g1 L1 hh1 FG1 F1 N1 B1 X1 T1 l1 hr
 (try dsimp only); (try k_lt l1); (try k_fold)
 k_steps
 show wpAny _ _ (compareOp .In (.str mn mt) (.ref ig)) _ _ _
 refine kda_in (knd := PySem.strKind _ _) N1 (tl4 (.head _)) hd lo (strKind_is _ _ _ _) true (by rw [hv]; rfl) ?_
 k_steps
 show wpAny _ _ (getItem (.ref ig) (.str mn mt)) _ _ _
 refine kdt_getItem (knd := PySem.strKind _ _) (by k_asm) (by k_mem) hd (strKind_is _ _ _ _) hv ?_
 k_steps
 with_reducible rename Fr h₀ L _ m => kF
 with_reducible rename News h₀ L _ rest => nr
 with_reducible rename News h₀ L _ (_ :: _) => kN
 refine' ret _ _ kF (news_of kN nr ?nn)
 (case nn => k_subL)
end
theorem rold {prog w p loose mean mg mb dp un gd cn cs a ccd cl outer A₀ base h₀ L m s Q E x dx sa la ig h1 h2 h3 t1 t2 t3 led n dc od ds kvs fn mn ft mt rest} : @rold_S prog w p loose mean mg mb dp un gd cn cs a ccd cl outer A₀ base h₀ L m s Q E x dx sa la ig h1 h2 h3 t1 t2 t3 led n dc od ds kvs fn mn ft mt rest :=
 eps_all (S := rold_u) rold_c rfl (by have := rold_0; with_unfolding_all assumption) ((prog, w, p, loose, mean, mg), (mb, dp, un, gd, cn, cs), (a, ccd, cl, outer, A₀, base), (h₀, L, m, s, Q, E), (x, dx, sa, la, ig, h1), (h2, h3, t1, t2, t3, led), (n, dc, od, ds, kvs, fn), (mn, ft, mt, rest))
end
end Mine
namespace Mine
open PyProof.Rows.LCg
section
variable {prog : Program} {w : World} {A : Around} {E : Value → Shared → Prop} {s : Shared} {h₀ : Heap} {L : Addr} {m : Str → Option Value} {env : Env} {R : Result → Shared → Prop}
def ZTurn (prog : Program) (w : World) (A : Around) (R : Result → Shared → Prop) (target : Expr) (emit : Sem Unit) (it : Value) (env : Env) (I : Nat → Shared → Prop) : Prop :=
 ∀ n s, I n s → wpAny (model prog w) A (pyNext it) (fun r s₁ => match r with
   | none => R (.ok .next) s₁
   | some v => wpAny (model prog w) A (letOwnedTupleGo target it v) (fun _ s₀ => wpAny (model prog w) A (assign target env v) (fun _ s₂ =>
     wpAny (model prog w) A emit (fun _ s₅ => ∃ m, m < n ∧ I m s₅) (notedBy (model prog w) A env fun e s' => R (.error e) s') s₂)
     (notedBy (model prog w) A env fun e s' => R (.error e) s') s₀) (notedBy (model prog w) A env fun e s' => R (.error e) s') s₁) (notedBy (model prog w) A env fun e s' => R (.error e) s') s
abbrev emL (elt : Expr) (acc : Value) (env : Env) : Sem Unit := do let _ ← call (.builtin "list.append") [acc, ← eval elt env]
abbrev emD (kx vx : Expr) (D : Addr) (env : Env) : Sem Unit := do
 let kv ← eval kx env
 let vv ← holding [kv] (eval vx env)
 standAt { kx.pos with endLine := vx.pos.endLine, endCol := vx.pos.endCol }
 holding [kv, vv] (dictSet D kv vv)
theorem zl_loop {elt target iter : Expr} {scope : Scope} {pos : Pos} {it acc : Value} (I : Nat → Shared → Prop) (turn : ZTurn prog w A R target (emL elt acc env) it env I)
  (n : Nat) (s : Shared) (h : I n s) : codeAny (model prog w) A (.compLoop (.ListComp elt [⟨target, iter, [], 0⟩] scope pos) 0 it acc env) R s := by
 refine codeAny_loop rfl I (fun n s hI => ?_) n h
 show wpAny _ A ((compTurn (.ListComp elt [⟨target, iter, [], 0⟩] scope pos) 0 it acc env).onRaise (fun x => do noteFrame x env; theTreesLotGoes x)) _ _ s
 refine wpAny_noted ?_
 rw [compTurn_list]
 refine wpAny_bind (wpAny_standAt (wpAny_bind (wpAny_mono (turn n s hI) (fun r s₁ h₁ => ?_) fun _ _ h' => h')))
 cases r with
 | none => exact wpAny_pure h₁
 | some v =>
  refine wpAny_bind (wpAny_mono h₁ (fun _ s₀ h₀' => ?_) fun _ _ h' => h')
  refine wpAny_bind (wpAny_mono h₀' (fun _ s₂ h₂ => ?_) fun _ _ h' => h')
  refine wpAny_bind (wpAny_tests_nil ?_)
  exact wpAny_bind (wpAny_mono h₂ (fun _ s5 h5 => wpAny_pure ⟨rfl, h5⟩) fun _ _ h' => h')
theorem zd_loop {kx vx target iter : Expr} {scope : Scope} {pos : Pos} {it : Value} {D : Addr} (I : Nat → Shared → Prop) (turn : ZTurn prog w A R target (emD kx vx D env) it env I)
  (n : Nat) (s : Shared) (h : I n s) : codeAny (model prog w) A (.compLoop (.DictComp kx vx [⟨target, iter, [], 0⟩] scope pos) 0 it (.ref D) env) R s := by
 refine codeAny_loop rfl I (fun n s hI => ?_) n h
 show wpAny _ A ((compTurn (.DictComp kx vx [⟨target, iter, [], 0⟩] scope pos) 0 it (.ref D) env).onRaise (fun x => do noteFrame x env; theTreesLotGoes x)) _ _ s
 refine wpAny_noted ?_
 rw [compTurn_dict]
 refine wpAny_bind (wpAny_standAt (wpAny_bind (wpAny_mono (turn n s hI) (fun r s₁ h₁ => ?_) fun _ _ h' => h')))
 cases r with
 | none => exact wpAny_pure h₁
 | some v =>
  refine wpAny_bind (wpAny_mono h₁ (fun _ s₀ h₀' => ?_) fun _ _ h' => h')
  refine wpAny_bind (wpAny_mono h₀' (fun _ s₂ h₂ => ?_) fun _ _ h' => h')
  refine wpAny_bind (wpAny_tests_nil ?_)
  exact wpAny_bind (wpAny_mono h₂ (fun _ s5 h5 => wpAny_pure ⟨rfl, h5⟩) fun _ _ h' => h')
def ZOff (C K D : Addr) (hid news : List (Addr × Obj)) : Prop := ∀ p ∈ news, p.1 ≠ C ∧ p.1 ≠ K ∧ p.1 ≠ D ∧ ∀ q ∈ hid, p.1 ≠ q.1
theorem z_assign {env : Env} {a b : Str} {pa pb tp : Pos} {kk : Nat} {T K : Addr} {x y : Value} {v₀ : Option Value} {m : Str → Option Value} {Q : Unit → Shared → Prop} (hh : A.handled = none) (ht : s.heap.IsTuple T #[x, y])
  (hk : env.scope.kind = .function) (ha : env.kindOf a = some .cell) (hca : env.cells.lookup a = some K) (hb : env.kindOf b = some .local) (hp : (env.scope.kind == .class || (env.scope.kind == .module && env.locals != env.globals)) = false) (hn : s.heap.Ns env.locals m) (hc : s.heap.IsCell K v₀) (hKL : K ≠ env.locals)
  (h : ∀ (h' : Heap) (tk : Nat), h'.Ns env.locals (fun z => if z = b then some y else m z) → h'.IsCell K (some x) → (∀ c o, c ≠ env.locals → c ≠ K → s.heap.get? c = some o → h'.get? c = some o) → Q () { s with heap := h', toks := tk }) :
  wpAny (model prog w) A (assign (.Tuple [.Name a pa, .Name b pb] kk tp) env (.ref T)) Q E s := by
 refine wpAny_assign_Tuple hh ht rfl rfl fun h₁ he₁ => ?_
 have hL : env.locals ≠ s.heap.objs.size := Nat.ne_of_lt hn.lt
 have hn₁ : h₁.Ns env.locals m := hn.at' fun o e => he₁ _ o hL e
 have up₁ : ∀ c o, s.heap.get? c = some o → h₁.get? c = some o := fun c o e => he₁ c o (Nat.ne_of_lt (Heap.lt_size e)) e
 show wpAny _ _ (assignInOrder [assign (.Name a pa) env, assign (.Name b pb) env] [x, y]) _ _ _
 refine assignInOrder_cons ?_
 refine wpAny_assign_Name (wpAny_storeName_cell hk ha hca (hc.keeps up₁) (fun h₂ hc₂ hs₂ => ?_))
 refine assignInOrder_cons ?_
 refine wpAny_assign_Name (wpAny_storeName_local hb (hn₁.sameBut hs₂ (Ne.symm hKL)) (fun h₃ hn₃ hs₃ => ?_) hp)
 refine assignInOrder_nil ?_
 exact h h₃ _ hn₃ (hc₂.sameBut hs₃ hKL) fun c o hc hk e => hs₃.extBut c o hc (hs₂.extBut c o hk (up₁ c o e))
theorem env_one {M : Model} {scope : Scope} {cl : List (Str × Addr)} {a : Str} {Q : Env → Shared → Prop} (hcs : ∀ n, cellsFrom n scope.names cl = (a, n) :: cl) (hpc : ∀ h : Heap, pushCells h scope.names = h.push { cls := .type "cell", data := .cell none })
  (h : Q (newEnv scope s.heap.objs.size env.globals ((a, s.heap.objs.size + 1) :: cl) env.qual none .none (some env) builtinsNs) { s with heap := (s.heap.push { cls := .type "dict", data := .dict #[] }).push { cls := .type "cell", data := .cell none } }) :
  wpAny M A (newFunctionEnv scope env.globals cl [] env.qual none .none (some env)) Q E s := by
 simp only [newFunctionEnv, Option.isSome_some, if_true]
 refine wpAny_bind (wpAny_alloc ?_)
 refine wpAny_bind (wpAny_layCells _ (fun name kind cells => by cases hkc : kind == NameKind.cell <;> simp [hkc]) _ _ _ _ ?_)
 rw [hcs, hpc]
 rw [show ({ s with heap := s.heap.push { cls := .type "dict", data := .dict #[] } } : Shared).heap.objs.size = s.heap.objs.size + 1 from Heap.size_push ..]
 exact wpAny_bind (wpAny_pure (wpAny_pure h))
theorem objs_of {h : Heap} : ∀ {l : List Addr}, (∀ b ∈ l, ∃ o, h.get? b = some o) → ∃ hid : List (Addr × Obj), hid.map (·.1) = l ∧ ∀ q ∈ hid, h.get? q.1 = some q.2
 | [], _ => ⟨[], rfl, fun _ h => (nomatch h)⟩
 | b :: r, x => by
  obtain ⟨o, ho⟩ := x b (.head _)
  obtain ⟨hid, h1, h2⟩ := objs_of (l := r) fun c hc => x c (.tail _ hc)
  refine ⟨(b, o) :: hid, by rw [List.map_cons, h1], fun q hq => ?_⟩
  rcases List.mem_cons.mp hq with rfl | hq
  ·exact ho
  ·exact h2 q hq
theorem z_inv {α : Type} {a b : Str} {pa pb tp : Pos} {kk : Nat} {c : Code} {emit : Sem Unit} {I C K D : Addr} {hb kb wr : List Addr} {n : Nat} {xs ys : Array Value} {St : Nat → Heap → Prop} {Mid : Nat → Addr → Heap → Prop}
  {AccOk : α → Obj → Prop} {J : Nat → α → List (Addr × Obj) → Prop} {keep : List (Addr × Obj)} {acc₀ : α} {news₀ : List (Addr × Obj)} {oD₀ : Obj} {m₀ : Str → Option Value} {s₂ : Shared} {h₁ : Heap} {tk₁ : Nat}
  (hh : A.handled = none)
  (W : WalksT prog w A I (hb ++ kb) wr n (fun i vals => ∃ x y, xs[i]? = some x ∧ ys[i]? = some y ∧ vals = #[x, y]) St Mid) (hwr : ∀ b ∈ wr, b ∈ hb) (hkb : keep.map (·.1) = kb)
  (hIo : ∀ i h, St i h → ∀ b ∈ hb, ∃ o, h.get? b = some o) (hb0 : ∀ b ∈ hb, h₀.get? b = none ∧ b ≠ L ∧ b ≠ C ∧ b ≠ D ∧ b ≠ K) (kbC : ∀ b ∈ kb, b ≠ C ∧ b ≠ D ∧ b ≠ K)
  (hCL : C ≠ L) (hDL : D ≠ L) (hCD : C ≠ D) (hKL : K ≠ L) (hKC : K ≠ C) (hKD : K ≠ D) (hC₀ : h₀.get? C = none) (hD₀ : h₀.get? D = none) (hK₀ : h₀.get? K = none)
  (hlc : env.locals = C) (hfk : env.scope.kind = .function) (hxa : env.kindOf a = some .cell) (hca : env.cells.lookup a = some K) (hxb : env.kindOf b = some .local) (hp : (env.scope.kind == .class || (env.scope.kind == .module && env.locals != env.globals)) = false)
  (hloop : ∀ (I' : Nat → Shared → Prop), ZTurn prog w A R (.Tuple [.Name a pa, .Name b pb] kk tp) emit (.ref I) env I' → ∀ n s, I' n s → codeAny (model prog w) A c R s)
  (step : ∀ i x y oC oK oD m₂ h tk acc news hid (E' : Value → Shared → Prop), xs[i]? = some x → ys[i]? = some y → NsObj oC m₂ → oK.data = .cell (some x) → m₂ b = some y → AccOk acc oD → hid.map (·.1) = hb →
     Fr h₀ L h m → News h₀ L h ((C, oC) :: (K, oK) :: (D, oD) :: (news ++ hid)) → ZOff C K D hid news → (∀ q ∈ keep, q ∈ news) → J i acc news →
     wpAny (model prog w) A emit (fun _ s₅ => ∃ h' tk' acc' oD' news', s₅ = { s₂ with heap := h', toks := tk' } ∧ Fr h₀ L h' m ∧ News h₀ L h' ((C, oC) :: (K, oK) :: (D, oD') :: (news' ++ hid)) ∧ AccOk acc' oD' ∧ ZOff C K D hid news' ∧ (∀ q ∈ keep, q ∈ news') ∧ J (i + 1) acc' news') E' { s₂ with heap := h, toks := tk })
  (fin : ∀ h tk m' acc oD news, Fr h₀ L h m → News h₀ L h ((D, oD) :: news) → AccOk acc oD → (∀ p ∈ news, p.1 ≠ C ∧ p.1 ≠ K ∧ p.1 ≠ D) → h.Ns C m' → J n acc news → R (.ok .next) { s₂ with heap := h, toks := tk })
  (hst : St 0 h₁) (hF : Fr h₀ L h₁ m) (hN : News h₀ L h₁ ((D, oD₀) :: news₀)) (hn : h₁.Ns C m₀) (hcK : ∃ v, h₁.IsCell K v) (hacc : AccOk acc₀ oD₀) (hoff : ∀ p ∈ news₀, p.1 ≠ C ∧ p.1 ≠ K ∧ p.1 ≠ D ∧ p.1 ∉ hb) (hkeep : ∀ q ∈ keep, q ∈ news₀) (hJ : J 0 acc₀ news₀) :
  codeAny (model prog w) A c R { s₂ with heap := h₁, toks := tk₁ } := by
  subst hlc
  have CH : env.locals ∉ hb := fun h => (hb0 _ h).2.2.1 rfl
  have CK : env.locals ∉ kb := fun h => (kbC _ h).1 rfl
  have DH : D ∉ hb := fun h => (hb0 _ h).2.2.2.1 rfl
  have KH : K ∉ hb := fun h => (hb0 _ h).2.2.2.2 rfl
  have KK : K ∉ kb := fun h => (kbC _ h).2.2 rfl
  refine hloop (fun k s' => ∃ h' tk i acc oD m' news', s' = { s₂ with heap := h', toks := tk } ∧ i ≤ n ∧ k = n + 1 - i ∧ St i h' ∧ Fr h₀ L h' m ∧ h'.Ns env.locals m' ∧ (∃ v, h'.IsCell K v) ∧ News h₀ L h' ((D, oD) :: news') ∧ AccOk acc oD ∧
     (∀ p ∈ news', p.1 ≠ env.locals ∧ p.1 ≠ K ∧ p.1 ≠ D ∧ p.1 ∉ hb) ∧ (∀ q ∈ keep, q ∈ news') ∧ J i acc news') ?_ (n + 1) _
    ⟨h₁, tk₁, 0, acc₀, oD₀, m₀, news₀, rfl, Nat.zero_le _, rfl, hst, hF, hn, hcK, hN, hacc, hoff, hkeep, hJ⟩
  intro k s' W91
  walk_at "hide"
  obtain ⟨h', tk, i, acc, oD, m', news', rfl, hi, rfl, hst', F', hn', hcK', N', hacc', off', hk', J'⟩ := W91
  walk_at "unhide"
  by_cases hlt : i < n
  · refine W.item i _ _ _ hlt hst' fun T vals h₂ tk₂ hPt hT hTt hM hk₂ => ?_
    walk_at "hide"
    obtain ⟨x, y, hx, hy, rfl⟩ := hPt
    walk_at "unhide"
    have up₂ : ∀ b o, b ∉ hb → h'.get? b = some o → h₂.get? b = some o := fun b o hbn e => hk₂ b o (fun q => hbn (hwr _ q)) e
    refine W.go _ _ _ i T _ _ _ hM fun h₃ hst₃ hk₃ => ?_
    have up₃ : ∀ b o, b ∉ hb → h'.get? b = some o → h₃.get? b = some o := fun b o hbn e => hk₃ b o (fun q => hbn (hwr _ q)) (up₂ b o hbn e)
    have hTt₃ : h₃.IsTuple T #[x, y] := by
      obtain ⟨o, e, r⟩ := hTt
      exact ⟨o, hk₃ _ _ (W.apart _ _ _ hM) e, r⟩
    have hn₃ : h₃.Ns env.locals m' := hn'.at' fun o e => up₃ _ o CH e
    obtain ⟨vK, hcK'⟩ := hcK'
    have hcK₃ : h₃.IsCell K vK := by
      obtain ⟨o, ho, hd⟩ := hcK'
      exact ⟨o, up₃ K o KH ho, hd⟩
    refine z_assign hh hTt₃ hfk hxa hca hxb hp hn₃ hcK₃ hKC fun h₄ tk₄ hn₄ hcK₄ hk₄ => ?_
    obtain ⟨oK, hoK, hdK⟩ := hcK₄
    have hst₄ : St (i + 1) h₄ := W.frame _ _ _ hst₃ fun b hb' o e => hk₄ b o (fun q => by
      subst q
      rcases List.mem_append.mp hb' with h | h
      · exact CH h
      · exact CK h) (fun q => by
      subst q
      rcases List.mem_append.mp hb' with h | h
      · exact KH h
      · exact KK h) e
    have up₄ : ∀ b o, b ∉ hb → b ≠ env.locals → b ≠ K → h'.get? b = some o → h₄.get? b = some o := fun b o hbn hbc hbk e => hk₄ b o hbc hbk (up₃ b o hbn e)
    have F₄ : Fr h₀ L h₄ m := ⟨F'.ns.at' fun o e => up₄ L o (fun q => (hb0 _ q).2.1 rfl) (Ne.symm hCL) (Ne.symm hKL) e, fun b o e => up₄ b o (fun q => by rw [(hb0 _ q).1] at e; cases e) (fun q => by rw [q, hC₀] at e; cases e) (fun q => by rw [q, hK₀] at e; cases e) (F'.keep b o e), F'.above⟩
    obtain ⟨oC, hoC, hNs⟩ := ns_obj hn₄
    obtain ⟨hid, hid1, hid2⟩ := objs_of (hIo _ _ hst₄)
    have N₄ : News h₀ L h₄ ((env.locals, oC) :: (K, oK) :: (D, oD) :: (news' ++ hid)) := fun q hq => by
      rcases List.mem_cons.mp hq with rfl | hq
      · exact ⟨hoC, hCL, hC₀⟩
      · rcases List.mem_cons.mp hq with rfl | hq
        · exact ⟨hoK, hKL, hK₀⟩
        · rcases List.mem_cons.mp hq with rfl | hq
          · exact ⟨up₄ _ _ DH (Ne.symm hCD) (Ne.symm hKD) (N' _ (.head _)).1, hDL, hD₀⟩
          · rcases List.mem_append.mp hq with hq | hq
            · exact ⟨up₄ _ _ (off' q hq).2.2.2 (off' q hq).1 (off' q hq).2.1 (N' q (.tail _ hq)).1, (N' q (.tail _ hq)).2⟩
            · have hqb : q.1 ∈ hb := hid1 ▸ List.mem_map_of_mem hq
              exact ⟨hid2 q hq, (hb0 _ hqb).2.1, (hb0 _ hqb).1⟩
    have off₄ : ZOff env.locals K D hid news' := fun p hp => ⟨(off' p hp).1, (off' p hp).2.1, (off' p hp).2.2.1, fun q hq e => (off' p hp).2.2.2 (by rw [e, ← hid1]; exact List.mem_map_of_mem hq)⟩
    have mb' : (fun z => if z = b then some y else m' z) b = some y := if_pos rfl
    refine wpAny_mono (step i x y oC oK oD _ h₄ tk₄ acc news' hid _ hx hy hNs hdK mb' hacc' hid1 F₄ N₄ off₄ hk' J') (fun _ s₅ h₅ => ?_) fun _ _ e => e
    walk_at "hide"
    obtain ⟨h₅, tk₅, acc₅, oD₅, news₅, rfl, F₅, N₅, hacc₅, off₅, hk₅, J₅⟩ := h₅
    walk_at "unhide"
    refine ⟨n + 1 - (i + 1), by omega, h₅, tk₅, i + 1, acc₅, oD₅, _, news₅, rfl, hlt, rfl, ?_, F₅, hNs.ns (N₅ _ (.head _)).1, ⟨_, oK, (N₅ _ (.tail _ (.head _))).1, hdK⟩, fun q hq => ?_, hacc₅, fun p hp => ⟨(off₅ p hp).1, (off₅ p hp).2.1, (off₅ p hp).2.2.1, fun hb' => ?_⟩, hk₅, J₅⟩
    · refine W.frame _ _ _ hst₄ fun b hb' o e => ?_
      rcases List.mem_append.mp hb' with hb' | hb'
      · rw [← hid1] at hb'
        obtain ⟨q, hq, rfl⟩ := List.mem_map.mp hb'
        rw [hid2 q hq] at e
        cases e
        exact (N₅ q (tl3 (List.mem_append_right _ hq))).1
      · rw [← hkb] at hb'
        obtain ⟨q, hq, rfl⟩ := List.mem_map.mp hb'
        rw [(N₄ q (tl3 (List.mem_append_left _ (hk' q hq)))).1] at e
        cases e
        exact (N₅ q (tl3 (List.mem_append_left _ (hk₅ q hq)))).1
    · rcases List.mem_cons.mp hq with rfl | hq
      · exact N₅ _ (tl2 (.head _))
      · exact N₅ q (tl3 (List.mem_append_left _ hq))
    · rw [← hid1] at hb'
      obtain ⟨q, hq, e⟩ := List.mem_map.mp hb'
      exact (off₅ p hp).2.2.2 q hq e.symm
  · obtain rfl : i = n := Nat.le_antisymm hi (Nat.not_lt.mp hlt)
    refine W.done _ _ _ hst' fun h₂ tk₂ hk₂ => ?_
    have up₂ : ∀ b o, b ∉ hb → h'.get? b = some o → h₂.get? b = some o := fun b o hbn e => hk₂ b o (fun q => hbn (hwr _ q)) e
    refine fin h₂ tk₂ m' acc oD news' ⟨F'.ns.at' fun o e => up₂ L o (fun q => (hb0 _ q).2.1 rfl) e, fun b o e => up₂ b o (fun q => by rw [(hb0 _ q).1] at e; cases e) (F'.keep b o e), F'.above⟩ (fun q hq => ?_) hacc' (fun p hp => ⟨(off' p hp).1, (off' p hp).2.1, (off' p hp).2.2.1⟩) (hn'.at' fun o e => up₂ _ o CH e) J'
    rcases List.mem_cons.mp hq with rfl | hq
    · exact ⟨up₂ _ _ DH (N' _ (.head _)).1, hDL, hD₀⟩
    · exact ⟨up₂ _ _ (off' q hq).2.2.2 (N' q (.tail _ hq)).1, (N' q (.tail _ hq)).2⟩
end
end Mine
namespace Mine
open PyProof.Rows.LCg
section
variable {prog : Program} {w : World} {A : Around} {E : Value → Shared → Prop} {s : Shared} {h₀ : Heap} {L : Addr} {m : Str → Option Value} {env : Env}
structure ZAt (h₀ : Heap) (L : Addr) (h : Heap) (z TI TO i1 i2 l1 l2 : Addr) (news : List (Addr × Obj)) : Prop where
 D : ZipApart z TI TO i1 i2 l1 l2
 hz : IsZip h z TI TO .none
 hTI : IsPair h TI (.ref i1) (.ref i2)
 hTO : ∃ a b, IsPair h TO a b
 h1 : h.IsListIter i1 l1 0
 h2 : h.IsListIter i2 l2 0
 out : ∀ b ∈ [z, TI, TO, i1, i2], h₀.get? b = none ∧ b ≠ L ∧ ∀ q ∈ news, q.1 ≠ b
def ZEnd (h₀ : Heap) (L : Addr) (m : Str → Option Value) (s₁ : Shared) (C : Addr) (oC : Obj) (K : Addr) (oK : Obj) (D : Addr) (oD : Obj) (hid keep : List (Addr × Obj)) (rest : Value → List (Addr × Obj) → Prop) (v : Value) (s' : Shared) : Prop :=
 ∃ h' tk' nw', s' = { s₁ with heap := h', toks := tk' } ∧ Fr h₀ L h' m ∧ News h₀ L h' ((C, oC) :: (K, oK) :: (D, oD) :: (nw' ++ hid)) ∧ ZOff C K D hid nw' ∧ (∀ q ∈ keep, q ∈ nw') ∧ rest v nw'
theorem objs_at {h : Heap} {z TI TO i1 i2 : Addr} {l1 l2 : Addr} {k : Nat} (hz : ∃ f, IsZip h z TI TO f) (hTI : ∃ a b, IsPair h TI a b) (hTO : ∃ a b, IsPair h TO a b) (h1 : h.IsListIter i1 l1 k) (h2 : h.IsListIter i2 l2 k) :
   ∀ b ∈ [z, TI, TO, i1, i2], ∃ o, h.get? b = some o := by
  intro b hb
  simp only [List.mem_cons, List.not_mem_nil, or_false] at hb
  rcases hb with rfl | rfl | rfl | rfl | rfl
  · obtain ⟨_, e⟩ := hz; exact ⟨_, e⟩
  · obtain ⟨_, _, e⟩ := hTI; exact ⟨_, e⟩
  · obtain ⟨_, _, e⟩ := hTO; exact ⟨_, e⟩
  · obtain ⟨_, e, _⟩ := h1; exact ⟨_, e⟩
  · obtain ⟨_, e, _⟩ := h2; exact ⟨_, e⟩
theorem z_block {α : Type} {a b : Str} {pa pb tp : Pos} {kk : Nat} {scope : Scope} {cl : List (Str × Addr)} {z TI TO i1 i2 l1 l2 : Addr} {xs ys : Array Value} {n1 n2 : Nat} {news : List (Addr × Obj)} {s₂ : Shared}
  {o₀ : Obj} {acc₀ : α} {AccOk : α → Obj → Prop} {J : Nat → α → List (Addr × Obj) → Prop} {emit : Addr → Env → Sem Unit} {newAcc : Sem Value} {c c₀ : Addr → Env → Code} {RR : Value → Addr → Result → Shared → Prop}
  (hh : A.handled = none) (Z : ZAt h₀ L s₂.heap z TI TO i1 i2 l1 l2 news) (m1 : (l1, listOf xs n1) ∈ news) (m2 : (l2, listOf ys n2) ∈ news) (hys : ys.size = xs.size)
  (hcs : ∀ n, cellsFrom n scope.names cl = (a, n) :: cl) (hpc : ∀ h : Heap, pushCells h scope.names = h.push { cls := .type "cell", data := .cell none }) (hkind : scope.kind = .function) (hxa : (relabel scope env).names.lookup a = some .cell) (hxb : scope.names.lookup b = some .local)
  (F : Fr h₀ L s₂.heap m) (N : News h₀ L s₂.heap news) (hbig : h₀.NoLimit)
  (hnew : ∀ (Q : Value → Shared → Prop), Q (.ref s₂.heap.objs.size) { s₂ with heap := s₂.heap.push o₀ } → wpAny (model prog w) A newAcc Q E s₂) (hfr : o₀.isFreed = false) (hacc₀ : AccOk acc₀ o₀)
  (hst : ∀ D env' R s, codeAny (model prog w) A (c D env') R s → wpAny (model prog w) A (pyIter (.ref z)) (fun it s' => it = .ref z ∧ s' = s) (notedBy (model prog w) A env' fun x s' => R (.error x) s') s → codeAny (model prog w) A (c₀ D env') R s)
  (hloop : ∀ D env' R (I' : Nat → Shared → Prop), ZTurn prog w A R (.Tuple [.Name a pa, .Name b pb] kk tp) (emit D env') (.ref z) env' I' → ∀ n s, I' n s → codeAny (model prog w) A (c D env') R s)
  (J0 : J 0 acc₀ news)
  (step : ∀ i x y C oC K oK D oD m₂ h tk acc nw hid (E' : Value → Shared → Prop), xs[i]? = some x → ys[i]? = some y → NsObj oC m₂ → oK.data = .cell (some x) → m₂ b = some y → AccOk acc oD → hid.map (·.1) = [z, TI, TO, i1, i2] → C ≠ D → K ≠ D → (D == sysModules) = false → D ≠ L → h₀.get? D = none → (∀ q ∈ hid, q.1 ≠ D) →
     Fr h₀ L h m → News h₀ L h ((C, oC) :: (K, oK) :: (D, oD) :: (nw ++ hid)) → ZOff C K D hid nw → (∀ q ∈ [(l1, listOf xs n1), (l2, listOf ys n2)], q ∈ nw) → J i acc nw →
     wpAny (model prog w) A (emit D (compEnvC scope ((a, K) :: cl) C env)) (fun _ s₅ => ∃ h' tk' acc' oD' news', s₅ = { s₂ with heap := h', toks := tk' } ∧ Fr h₀ L h' m ∧ News h₀ L h' ((C, oC) :: (K, oK) :: (D, oD') :: (news' ++ hid)) ∧ AccOk acc' oD' ∧ ZOff C K D hid news' ∧ (∀ q ∈ [(l1, listOf xs n1), (l2, listOf ys n2)], q ∈ news') ∧ J (i + 1) acc' news') E' { s₂ with heap := h, toks := tk })
  (hRR : ∀ D C h tk m' acc oD news', Fr h₀ L h m → News h₀ L h ((D, oD) :: news') → AccOk acc oD → (∀ p ∈ news', p.1 ≠ C ∧ p.1 ≠ D) → h.Ns C m' → h₀.get? C = none → C ≠ L → D ≠ L → C ≠ D → (D == sysModules) = false → J xs.size acc news' → RR (.ref D) C (.ok .next) { s₂ with heap := h, toks := tk }) :
  wpAny (model prog w) A newAcc (fun acc s₃ => ∃ D, acc = .ref D ∧ wpAny (model prog w) A (newFunctionEnv scope env.globals cl [] env.qual none .none (some env)) (fun cenv s₄ =>
      codeAny (model prog w) A (c₀ D { cenv with scope := relabel scope env }) (RR (.ref D) cenv.locals) s₄) E s₃) E s₂ := by
  refine hnew _ ⟨_, rfl, env_one hcs hpc ?_⟩
  dsimp only
  generalize hH2 : s₂.heap.push o₀ = H2
  have hC : H2.objs.size = s₂.heap.objs.size + 1 := by rw [← hH2, Heap.size_push]
  have hDC : s₂.heap.objs.size ≠ H2.objs.size := by rw [hC]; exact Nat.ne_of_lt (Nat.lt_succ_self _)
  have hKC : H2.objs.size + 1 ≠ H2.objs.size := Nat.ne_of_gt (Nat.lt_succ_self _)
  have hKD : H2.objs.size + 1 ≠ s₂.heap.objs.size := by rw [hC]; omega
  have below : ∀ b, b < s₂.heap.objs.size → b ≠ H2.objs.size ∧ b ≠ s₂.heap.objs.size ∧ b ≠ H2.objs.size + 1 := fun b hb => ⟨by rw [hC]; exact Nat.ne_of_lt (Nat.lt_succ_of_lt hb), Nat.ne_of_lt hb, by rw [hC]; exact Nat.ne_of_lt (Nat.lt_succ_of_lt (Nat.lt_succ_of_lt hb))⟩
  generalize hh₁ : (H2.push { cls := .type "dict", data := .dict #[] }).push { cls := .type "cell", data := .cell none } = h₁
  have old : ∀ b o, s₂.heap.get? b = some o → h₁.get? b = some o := fun b o e => hh₁ ▸ Heap.get?_push_of_some _ (Heap.get?_push_of_some _ (hH2 ▸ Heap.get?_push_of_some _ e))
  have hacc : h₁.get? s₂.heap.objs.size = some o₀ := hh₁ ▸ Heap.get?_push_of_some _ (Heap.get?_push_of_some _ (hH2 ▸ Heap.get?_push_size _ hfr))
  have hns₁ : h₁.Ns H2.objs.size (fun _ => none) := hh₁ ▸ (Heap.Ns.new H2 (.type "dict")).keeps fun _ _ e => Heap.get?_push_of_some _ e
  have hck₁ : h₁.IsCell (H2.objs.size + 1) none := by
    refine ⟨{ cls := .type "cell", data := .cell none }, ?_, rfl⟩
    rw [← hh₁, show H2.objs.size + 1 = (H2.push { cls := .type "dict", data := .dict #[] }).objs.size from (Heap.size_push ..).symm]
    exact Heap.get?_push_size _ rfl
  have fresh : ∀ a, s₂.heap.objs.size ≤ a → s₂.heap.get? a = none := fun a ha => by
    cases e : s₂.heap.get? a with
    | none => rfl
    | some o' => exact absurd (Heap.lt_size e) (Nat.not_lt.mpr ha)
  have fresh₀ : ∀ a, s₂.heap.objs.size ≤ a → h₀.get? a = none := fun a ha => by
    cases e : h₀.get? a with
    | none => rfl
    | some o' => have := F.keep a o' e; rw [fresh a ha] at this; cases this
  have hD₀ : h₀.get? s₂.heap.objs.size = none := fresh₀ _ (Nat.le_refl _)
  have hC₀ : h₀.get? H2.objs.size = none := fresh₀ _ (by rw [hC]; exact Nat.le_succ _)
  have hK₀ : h₀.get? (H2.objs.size + 1) = none := fresh₀ _ (by rw [hC]; omega)
  have hLlt : L < s₂.heap.objs.size := F.ns.lt
  have hDL : s₂.heap.objs.size ≠ L := Ne.symm (below L hLlt).2.1
  have hCL : H2.objs.size ≠ L := Ne.symm (below L hLlt).1
  have hKL : H2.objs.size + 1 ≠ L := Ne.symm (below L hLlt).2.2
  have hlz : ∀ b ∈ [z, TI, TO, i1, i2], b < s₂.heap.objs.size := fun b hb => by
    obtain ⟨o, e⟩ := objs_at ⟨_, Z.hz⟩ ⟨_, _, Z.hTI⟩ Z.hTO Z.h1 Z.h2 b hb
    exact Heap.lt_size e
  have L1 : s₂.heap.IsList l1 xs := ⟨_, (N _ m1).1, rfl, _, rfl⟩
  have L2 : s₂.heap.IsList l2 ys := ⟨_, (N _ m2).1, rfl, _, rfl⟩
  have hlk : ∀ b ∈ [l1, l2], b < s₂.heap.objs.size := fun b hb => by
    simp only [List.mem_cons, List.not_mem_nil, or_false] at hb
    rcases hb with rfl | rfl
    · exact Heap.lt_size (N _ m1).1
    · exact Heap.lt_size (N _ m2).1
  have hbo : ∀ b ∈ [z, TI, TO, i1, i2], h₀.get? b = none ∧ b ≠ L ∧ b ≠ H2.objs.size ∧ b ≠ s₂.heap.objs.size ∧ b ≠ H2.objs.size + 1 := fun b hb => ⟨(Z.out b hb).1, (Z.out b hb).2.1, below b (hlz b hb)⟩
  have W := WalksT.zip2 (prog := prog) (w := w) hh z TI TO i1 i2 l1 l2 Z.D xs ys
  rw [show min xs.size ys.size = xs.size by rw [hys, Nat.min_self]] at W
  have loop : ∀ s₃ : Shared, s₃ = { s₂ with heap := h₁, toks := s₂.toks } →
      codeAny (model prog w) A (c s₂.heap.objs.size (compEnvC scope ((a, H2.objs.size + 1) :: cl) H2.objs.size env)) (RR (.ref s₂.heap.objs.size) H2.objs.size) s₃ := by
    rintro s₃ rfl
    refine z_inv (hb := [z, TI, TO, i1, i2]) (kb := [l1, l2]) (keep := [(l1, listOf xs n1), (l2, listOf ys n2)]) (env := compEnvC scope ((a, H2.objs.size + 1) :: cl) H2.objs.size env) (C := H2.objs.size) (K := H2.objs.size + 1) (D := s₂.heap.objs.size) (a := a) (b := b) (J := J) (AccOk := AccOk) (acc₀ := acc₀) (news₀ := news) (oD₀ := o₀) (n := xs.size) (xs := xs) (ys := ys)
      hh W (fun b hb => ?_) rfl (fun i h st => objs_at ⟨_, st.1⟩ ⟨_, _, st.2.1⟩ st.2.2.1 st.2.2.2.1 st.2.2.2.2.1) hbo (fun b hb => below b (hlk b hb)) hCL hDL (Ne.symm hDC) hKL hKC hKD hC₀ hD₀ hK₀ rfl
      hkind hxa (by simp [compEnvC]) (lookup_relabel_local hxb) (by simp [compEnvC, relabel, hkind]) (hloop _ _ _) (fun i x y oC oK oD m₂ h tk acc nw hid E' e1 e2 e3 e4 e5 e6 e7 e8 e9 e10 e11 e12 => step i x y _ oC _ oK _ oD m₂ h tk acc nw hid E' e1 e2 e3 e4 e5 e6 e7 (Ne.symm hDC) hKD (F.notModules (modules_low hbig)) hDL hD₀ (fun q hq => (hbo _ (e7 ▸ List.mem_map_of_mem hq)).2.2.2.1) e8 e9 e10 e11 e12)
      (fun h tk m' acc oD nw f1 f2 f3 f4 f5 f6 => hRR _ _ h tk m' acc oD nw f1 f2 f3 (fun p hp => ⟨(f4 p hp).1, (f4 p hp).2.2⟩) f5 hC₀ hCL hDL (Ne.symm hDC) (F.notModules (modules_low hbig)) f6)
      ⟨old _ _ Z.hz, old _ _ Z.hTI, Z.hTO.imp fun _ h => h.imp fun _ h => old _ _ h, Z.h1.at fun o e => old _ o e, Z.h2.at fun o e => old _ o e, L1.at fun o e => old _ o e, L2.at fun o e => old _ o e⟩
      (F.keeps old) (fun q hq => ?_) hns₁ ⟨_, hck₁⟩ hacc₀ (fun p hp => ⟨(below _ (Heap.lt_size (N p hp).1)).1, (below _ (Heap.lt_size (N p hp).1)).2.2, (below _ (Heap.lt_size (N p hp).1)).2.1, fun hb => (Z.out _ hb).2.2 p hp rfl⟩) (fun q hq => ?_) J0
    · simp only [List.mem_cons, List.not_mem_nil, or_false] at hb ⊢
      rcases hb with h | h | h | h <;> simp [h]
    · rcases List.mem_cons.mp hq with rfl | hq
      · exact ⟨hacc, hDL, hD₀⟩
      · exact ⟨old _ _ (N q hq).1, (N q hq).2⟩
    · simp only [List.mem_cons, List.not_mem_nil, or_false] at hq
      rcases hq with rfl | rfl
      · exact m1
      · exact m2
  exact hst _ _ _ _ (loop _ rfl) (W.self 0 _ _ _ ⟨old _ _ Z.hz, old _ _ Z.hTI, Z.hTO.imp fun _ h => h.imp fun _ h => old _ _ h, Z.h1.at fun o e => old _ o e, Z.h2.at fun o e => old _ o e, L1.at fun o e => old _ o e, L2.at fun o e => old _ o e⟩ ⟨rfl, rfl⟩)
abbrev zstep (prog : Program) (w : World) (A : Around) (h₀ : Heap) (L : Addr) (m : Str → Option Value) (env : Env) (elt : Expr) (a b : Str) (scope : Scope) (cl : List (Str × Addr)) (z TI TO i1 i2 : Addr) (xs ys : Array Value) (keep : List (Addr × Obj)) (s₂ : Shared) (J : Nat → List Value → List (Addr × Obj) → Prop) : Prop :=
  ∀ i x y C oC K oK D m₂ h tk acc nw hid (E' : Value → Shared → Prop), xs[i]? = some x → ys[i]? = some y → NsObj oC m₂ → oK.data = .cell (some x) → m₂ b = some y → hid.map (·.1) = [z, TI, TO, i1, i2] → C ≠ D →
     Fr h₀ L h m → News h₀ L h ((C, oC) :: (K, oK) :: (D, lst acc) :: (nw ++ hid)) → ZOff C K D hid nw → (∀ q ∈ keep, q ∈ nw) → J i acc nw →
     wpAny (model prog w) A (eval elt (compEnvC scope ((a, K) :: cl) C env)) (ZEnd h₀ L m { s₂ with heap := h, toks := tk } C oC K oK D (lst acc) hid keep (fun v nw' => J (i + 1) (acc ++ [v]) nw')) E' { s₂ with heap := h, toks := tk }
def ZSrc (prog : Program) (w : World) (A : Around) (h₀ : Heap) (L : Addr) (m : Str → Option Value) (env : Env) (elt : Expr) (a b : Str) (scope : Scope) (cl : List (Str × Addr)) (Q : Value → Shared → Prop) (xv : Value) (s₁ : Shared) : Prop :=
  ∃ z TI TO i1 i2 l1 l2 xs ys n1 n2 news J, xv = .ref z ∧ A.handled = none ∧ ZAt h₀ L s₁.heap z TI TO i1 i2 l1 l2 news ∧ (l1, listOf xs n1) ∈ news ∧ (l2, listOf ys n2) ∈ news ∧ ys.size = xs.size ∧ xs.size ≤ sizeLine ∧ Fr h₀ L s₁.heap m ∧ News h₀ L s₁.heap news ∧ h₀.NoLimit ∧
   J 0 [] news ∧ zstep prog w A h₀ L m env elt a b scope cl z TI TO i1 i2 xs ys [(l1, listOf xs n1), (l2, listOf ys n2)] s₁ J ∧
   (∀ D h tk acc nw, Fr h₀ L h m → News h₀ L h ((D, lst acc) :: nw) → (∀ p ∈ nw, p.1 ≠ D) → J xs.size acc nw → Q (.ref D) { s₁ with heap := h, toks := tk })
theorem ListComp_Z {a b : Str} {pa pb tp : Pos} {kk : Nat} {elt iter : Expr} {scope : Scope} {cl : List (Str × Addr)} {pos : Pos} {Q : Value → Shared → Prop}
  (hclos : closureFor scope env = pure cl) (hcs : ∀ n, cellsFrom n scope.names cl = (a, n) :: cl) (hpc : ∀ h : Heap, pushCells h scope.names = h.push { cls := .type "cell", data := .cell none }) (hkind : scope.kind = .function)
  (hnames : ∀ y ∈ scope.names, y.2 = .local → scope.names.lookup y.1 = some .local) (hxa : (relabel scope env).names.lookup a = some .cell) (hxb : scope.names.lookup b = some .local)
  (h : wpAny (model prog w) A (eval iter env) (ZSrc prog w A h₀ L m env elt a b scope cl Q) E s)
  (hs : ∀ x, foldedSetIterable iter env x = pure x := by intro _; rfl) :
  wpAny (model prog w) A (eval (.ListComp elt [⟨.Tuple [.Name a pa, .Name b pb] kk tp, iter, [], 0⟩] scope pos) env) Q E s := by
 rw [eval_ListComp]
 refine wpAny_comprehension_free (use := none) rfl hs hclos hkind hnames (wpAny_mono h (fun xv s₁ h₁ => ?_) fun _ _ e => e)
 walk_at "hide"
 obtain ⟨z, TI, TO, i1, i2, l1, l2, xs, ys, n1, n2, news, J, rfl, hh, Z, m1, m2, hys, hsz, F, N, hbig, J0, step, fin⟩ := h₁
 walk_at "unhide"
 refine wpAny_pyIter_zip Z.hz ?_
 refine wpAny_mono (z_block (α := List Value) (acc₀ := []) (o₀ := lst []) (AccOk := fun acc o => o = lst acc) (J := fun i acc nw => acc.length = i ∧ J i acc nw) (emit := fun D env' => emL elt (.ref D) env')
  (c := fun D env' => .compLoop (.ListComp elt [⟨.Tuple [.Name a pa, .Name b pb] kk tp, iter, [], 0⟩] scope pos) 0 (.ref z) (.ref D) env') (c₀ := fun D env' => .compStart (.ListComp elt [⟨.Tuple [.Name a pa, .Name b pb] kk tp, iter, [], 0⟩] scope pos) 0 (.ref z) (.ref D) env')
  (RR := fun acc C => compPost (model prog w) A E none Q acc C) (kk := kk) (pa := pa) (pb := pb) (tp := tp)
  hh Z m1 m2 hys hcs hpc hkind hxa hxb F N hbig ?new rfl rfl
  (fun D env' R s h0 hi => codeAny_compStart_list h0 (wpAny_mono hi (fun it s' e => by rw [e.1, e.2]; exact h0) fun _ _ e => e))
  (fun D env' R I' ht n s hI => zl_loop I' ht n s hI) ⟨rfl, J0⟩ ?step ?fin) (fun acc s₃ h₃ => by obtain ⟨D, rfl, h₃⟩ := h₃; exact h₃) fun _ _ e => e
 case new => exact fun Q' hq => wpAny_newObj_type hq
 case step =>
  rintro i x y C oC K oK D oD m₂ h tk acc nw hid E' hx hy hC hma hmb rfl hid1 hCD hKD hDs hDL hD₀ hDh F₄ N₄ off₄ hk ⟨hl, hJ⟩
  refine wpAny_bind (wpAny_mono (step i x y C oC K oK D m₂ h tk acc nw hid E' hx hy hC hma hmb hid1 hCD F₄ N₄ off₄ hk hJ) (fun v s₅ h₅ => ?_) fun _ _ e => e)
  walk_at "hide"
  obtain ⟨h₅, tk₅, nw₅, rfl, F₅, N₅, off₅, hk₅, J₅⟩ := h₅
  walk_at "unhide"
  have hi : i < xs.size := (Array.getElem?_eq_some_iff.mp hx).1
  refine wpAny_bind (append_at (hsz := by show acc.toArray.size ≤ sizeLine; rw [List.size_toArray]; omega) (N₅ _ (tl2 (.head _))).1 fun h₆ hs₆ hD₆ => wpAny_pure ?_)
  refine ⟨h₆, tk₅, acc ++ [v], lst (acc ++ [v]), nw₅, rfl, F₅.change hs₆ hDL hD₀, fun q hq => ?_, rfl, off₅, hk₅, by rw [List.length_append, hl]; rfl, J₅⟩
  rcases List.mem_cons.mp hq with rfl | hq
  ·exact ⟨hs₆.extBut _ _ hCD (N₅ _ (.head _)).1, (N₅ _ (.head _)).2⟩
  ·rcases List.mem_cons.mp hq with rfl | hq
   ·exact ⟨hs₆.extBut _ _ hKD (N₅ _ (.tail _ (.head _))).1, (N₅ _ (.tail _ (.head _))).2⟩
   ·rcases List.mem_cons.mp hq with rfl | hq
    ·exact ⟨hD₆.trans (congrArg some (lst_snoc acc v)), hDL, hD₀⟩
    ·refine ⟨hs₆.extBut _ _ ?_ (N₅ q (tl3 hq)).1, (N₅ q (tl3 hq)).2⟩
     rcases List.mem_append.mp hq with hq' | hq'
     ·exact (off₅ q hq').2.2.1
     ·exact hDh q hq'
 case fin =>
  rintro D C h tk m' acc oD nw F' N' rfl o1 hn hC₀ hCL hDL hCD hDs ⟨hl, hJ⟩
  refine ⟨m', hn, fun h'' hs'' => fin D h'' tk acc nw (F'.change hs'' hCL hC₀) (fun p hp => ?_) (fun p hp => (o1 p hp).2) hJ⟩
  refine ⟨hs''.extBut _ _ ?_ (N' p hp).1, (N' p hp).2⟩
  rcases List.mem_cons.mp hp with rfl | hp
  ·exact Ne.symm hCD
  ·exact (o1 p hp).1
end
end Mine
namespace Mine
open PyProof.Rows.LCg
section
variable {prog : Program} {w : World} {A : Around} {E : Value → Shared → Prop} {s : Shared} {h₀ : Heap} {L : Addr} {m : Str → Option Value} {env : Env}
theorem zip_call {l1 l2 : Addr} {xs ys : Array Value} {n1 n2 : Nat} {news : List (Addr × Obj)} {Q : Value → Shared → Prop} (F : Fr h₀ L s.heap m) (N : News h₀ L s.heap news) (m1 : (l1, listOf xs n1) ∈ news) (m2 : (l2, listOf ys n2) ∈ news)
   (h : ∀ h' z TI TO i1 i2, ZAt h₀ L h' z TI TO i1 i2 l1 l2 news → Fr h₀ L h' m → News h₀ L h' news → Q (.ref z) { s with heap := h' }) :
   wpAny (model prog w) A (call (.type "zip") [.ref l1, .ref l2]) Q E s := by
  have L1 : s.heap.IsList l1 xs := ⟨_, (N _ m1).1, rfl, _, rfl⟩
  have L2 : s.heap.IsList l2 ys := ⟨_, (N _ m2).1, rfl, _, rfl⟩
  have a1 : l1 < s.heap.objs.size := Heap.lt_size (N _ m1).1
  have a2 : l2 < s.heap.objs.size := Heap.lt_size (N _ m2).1
  have hLs : L < s.heap.objs.size := F.ns.lt
  refine call_zip_2 L1 L2 fun h' hz hTI hTO hit1 hit2 hsz hk => ?_
  refine h h' _ _ _ _ _ ⟨zipApart_new a1 a2, hz, hTI, ⟨_, _, hTO⟩, hit1, hit2, fun b hb => ?_⟩ ⟨F.ns.keeps hk, fun b o e => hk b o (F.keep b o e), F.above⟩ (fun p hp => ⟨hk _ _ (N p hp).1, (N p hp).2⟩)
  have nw : ∀ k, h₀.get? (s.heap.objs.size + k) = none ∧ s.heap.objs.size + k ≠ L ∧ ∀ q ∈ news, q.1 ≠ s.heap.objs.size + k := fun k =>
    ⟨Heap.get?_none_of_le (Nat.le_trans F.above (Nat.le_trans (Nat.le_of_lt hLs) (Nat.le_add_right _ k))), Nat.ne_of_gt (Nat.lt_of_lt_of_le hLs (Nat.le_add_right _ k)),
     fun q hq => Nat.ne_of_lt (Nat.lt_of_lt_of_le (Heap.lt_size (N q hq).1) (Nat.le_add_right _ k))⟩
  simp only [List.mem_cons, List.not_mem_nil, or_false] at hb
  rcases hb with rfl | rfl | rfl | rfl | rfl
  · exact nw 4
  · exact nw 2
  · exact nw 3
  · exact nw 0
  · exact nw 1
def zstepD (prog : Program) (w : World) (A : Around) (h₀ : Heap) (L : Addr) (m : Str → Option Value) (env : Env) (kx vx : Expr) (a b : Str) (scope : Scope) (cl : List (Str × Addr)) (z TI TO i1 i2 : Addr) (xs ys : Array Value) (keep : List (Addr × Obj)) (s₂ : Shared) (J : Nat → List (Str × Value) → List (Addr × Obj) → Prop) : Prop :=
  ∀ i x y C oC K oK D oD m₂ h tk kvs nw hid (E' : Value → Shared → Prop), xs[i]? = some x → ys[i]? = some y → NsObj oC m₂ → oK.data = .cell (some x) → m₂ b = some y → oD.IsDictOf (PySem.strKind prog w) kvs → hid.map (·.1) = [z, TI, TO, i1, i2] → C ≠ D →
     Fr h₀ L h m → News h₀ L h ((C, oC) :: (K, oK) :: (D, oD) :: (nw ++ hid)) → ZOff C K D hid nw → (∀ q ∈ keep, q ∈ nw) → J i kvs nw →
     wpAny (model prog w) A (eval kx (compEnvC scope ((a, K) :: cl) C env)) (fun kv s₄ => wpAny (model prog w) A (eval vx (compEnvC scope ((a, K) :: cl) C env)) (ZEnd h₀ L m { s₂ with heap := h, toks := tk } C oC K oK D oD hid keep (fun v nw' => ∃ k, (PySem.strKind prog w).is k kv = true ∧ J (i + 1) (stored kvs k v) nw')) E' s₄) E' { s₂ with heap := h, toks := tk }
def ZSrcD (prog : Program) (w : World) (A : Around) (h₀ : Heap) (L : Addr) (m : Str → Option Value) (env : Env) (kx vx : Expr) (a b y : Str) (scope : Scope) (cl : List (Str × Addr)) (Q : Flow → Shared → Prop) (xv : Value) (s₁ : Shared) : Prop :=
  ∃ z TI TO i1 i2 l1 l2 xs ys n1 n2 news J, xv = .ref z ∧ A.handled = none ∧ ZAt h₀ L s₁.heap z TI TO i1 i2 l1 l2 news ∧ (l1, listOf xs n1) ∈ news ∧ (l2, listOf ys n2) ∈ news ∧ ys.size = xs.size ∧ xs.size ≤ sizeLine ∧ Fr h₀ L s₁.heap m ∧ News h₀ L s₁.heap news ∧ h₀.NoLimit ∧
   J 0 [] news ∧ zstepD prog w A h₀ L m env kx vx a b scope cl z TI TO i1 i2 xs ys [(l1, listOf xs n1), (l2, listOf ys n2)] s₁ J ∧
   (∀ D oD h tk kvs nw, Fr h₀ L h (fun v => if v = y then some (.ref D) else m v) → News h₀ L h ((D, oD) :: nw) → oD.IsDictOf (PySem.strKind prog w) kvs → (D == sysModules) = false → (∀ p ∈ nw, p.1 ≠ D) → J xs.size kvs nw → Q .next { s₁ with heap := h, toks := tk })
theorem Assign_DictComp_Z {a b y : Str} {pa pb tp py : Pos} {kk : Nat} {kx vx iter : Expr} {scope : Scope} {cl : List (Str × Addr)} {pos spos : Pos} {Q : Flow → Shared → Prop} (hLe : env.locals = L)
  (hsw : swapsWith (.DictComp kx vx [⟨.Tuple [.Name a pa, .Name b pb] kk tp, iter, [], 0⟩] scope pos) (some (.Name y py)) spos.line env = pure true)
  (hclos : closureFor scope env = pure cl) (hcs : ∀ n, cellsFrom n scope.names cl = (a, n) :: cl) (hpc : ∀ h : Heap, pushCells h scope.names = h.push { cls := .type "cell", data := .cell none }) (hkind : scope.kind = .function)
  (hnames : ∀ y ∈ scope.names, y.2 = .local → scope.names.lookup y.1 = some .local) (hxa : (relabel scope env).names.lookup a = some .cell) (hxb : scope.names.lookup b = some .local)
  (hy : env.kindOf y = some .local) (hp : (env.scope.kind == .class || (env.scope.kind == .module && env.locals != env.globals)) = false)
  (h : wpAny (model prog w) A (eval iter env) (ZSrcD prog w A h₀ L m env kx vx a b y scope cl Q) E s)
  (hs : ∀ x, foldedSetIterable iter env x = pure x := by intro _; rfl) :
  wpAny (model prog w) A (exec (.Assign [.Name y py] (.DictComp kx vx [⟨.Tuple [.Name a pa, .Name b pb] kk tp, iter, [], 0⟩] scope pos) spos) env) Q E s := by
 subst hLe
 rw [exec_Assign_Name_used _ _ _ _ hsw]
 refine wpAny_bind (wpAny_standAt (wpAny_bind ?_))
 show wpAny _ A (do let _ ← comprehension (.DictComp kx vx [⟨.Tuple [.Name a pa, .Name b pb] kk tp, iter, [], 0⟩] scope pos) scope env _ newDict false (eval iter env) (some (assign (.Name y py) env))) _ _ s
 refine wpAny_bind (wpAny_mono (wpAny_comprehension_free (use := some (assign (.Name y py) env)) (Q := fun _ s' => Q .next s') rfl hs hclos hkind hnames
  (wpAny_mono h (fun xv s₁ h₁ => ?_) fun _ _ e => e)) (fun _ s' hq => wpAny_pure (wpAny_pure hq)) fun _ _ e => e)
 walk_at "hide"
 obtain ⟨z, TI, TO, i1, i2, l1, l2, xs, ys, n1, n2, news, J, rfl, hh, Z, m1, m2, hys, hsz, F, N, hbig, J0, step, fin⟩ := h₁
 walk_at "unhide"
 refine wpAny_pyIter_zip Z.hz ?_
 refine wpAny_mono (z_block (α := List (Str × Value)) (acc₀ := []) (o₀ := { cls := .type "dict", dict := none, data := .dict #[] }) (AccOk := fun kvs o => o.IsDictOf (PySem.strKind prog w) kvs) (J := fun i kvs nw => kvs.length ≤ i ∧ J i kvs nw) (emit := fun D env' => emD kx vx D env')
  (c := fun D env' => .compLoop (.DictComp kx vx [⟨.Tuple [.Name a pa, .Name b pb] kk tp, iter, [], 0⟩] scope pos) 0 (.ref z) (.ref D) env') (c₀ := fun D env' => .compStart (.DictComp kx vx [⟨.Tuple [.Name a pa, .Name b pb] kk tp, iter, [], 0⟩] scope pos) 0 (.ref z) (.ref D) env')
  (RR := fun acc C => compPost (model prog w) A E (some (assign (.Name y py) env)) (fun _ s' => Q .next s') acc C) (kk := kk) (pa := pa) (pb := pb) (tp := tp)
  hh Z m1 m2 hys hcs hpc hkind hxa hxb F N hbig ?new rfl ?emp
  (fun D env' R s h0 hi => codeAny_compStart_dict h0 (wpAny_mono hi (fun it s' e => by rw [e.1, e.2]; exact h0) fun _ _ e => e))
  (fun D env' R I' ht n s hI => zd_loop I' ht n s hI) ⟨Nat.le_refl _, J0⟩ ?step ?fin) (fun acc s₃ h₃ => by obtain ⟨D, rfl, h₃⟩ := h₃; exact h₃) fun _ _ e => e
 case new => exact fun Q' hq => wpAny_newObj_type hq
 case emp =>
  obtain ⟨o, ho, hd⟩ := Heap.dictOf_iff.mp (Heap.DictOf.new (knd := PySem.strKind prog w) s₁.heap)
  rw [Heap.get?_push_size _ rfl] at ho
  cases ho
  exact hd
 case step =>
  rintro i x y' C oC K oK D oD m₂ h tk kvs nw hid E' hx hy' hC hma hmb hoD hid1 hCD hKD hDs hDL hD₀ hDh F₄ N₄ off₄ hk ⟨hl, hJ⟩
  refine wpAny_bind (wpAny_mono (step i x y' C oC K oK D oD m₂ h tk kvs nw hid E' hx hy' hC hma hmb hoD hid1 hCD F₄ N₄ off₄ hk hJ) (fun kv s₄ h₄ => ?_) fun _ _ e => e)
  refine wpAny_bind (wpAny_holding (wpAny_mono h₄ (fun v s₅ h₅ => ?_) fun _ _ e => e))
  walk_at "hide"
  obtain ⟨h₅, tk₅, nw₅, rfl, F₅, N₅, off₅, hk₅, k, hkv, J₅⟩ := h₅
  walk_at "unhide"
  have hi : i < xs.size := (Array.getElem?_eq_some_iff.mp hx).1
  refine wpAny_bind (wpAny_standAt (wpAny_holding (wpAny_dictSet_pairs (hsz := by omega) hkv (Heap.dictOf_iff.mpr ⟨oD, (N₅ _ (tl2 (.head _))).1, hoD⟩) fun h₆ hD₆ hs₆ => ?_)))
  obtain ⟨oD', hoD', hoD6⟩ := Heap.dictOf_iff.mp hD₆
  refine ⟨h₆, _, stored kvs k v, oD', nw₅, rfl, F₅.change hs₆ hDL hD₀, fun q hq => ?_, hoD6, off₅, hk₅, Nat.le_trans (stored_length_le kvs k v) (Nat.succ_le_succ hl), J₅⟩
  rcases List.mem_cons.mp hq with rfl | hq
  ·exact ⟨hs₆.extBut _ _ hCD (N₅ _ (.head _)).1, (N₅ _ (.head _)).2⟩
  ·rcases List.mem_cons.mp hq with rfl | hq
   ·exact ⟨hs₆.extBut _ _ hKD (N₅ _ (.tail _ (.head _))).1, (N₅ _ (.tail _ (.head _))).2⟩
   ·rcases List.mem_cons.mp hq with rfl | hq
    ·exact ⟨hoD', hDL, hD₀⟩
    ·refine ⟨hs₆.extBut _ _ ?_ (N₅ q (tl3 hq)).1, (N₅ q (tl3 hq)).2⟩
     rcases List.mem_append.mp hq with hq' | hq'
     ·exact (off₅ q hq').2.2.1
     ·exact hDh q hq'
 case fin =>
  rintro D C h tk m' kvs oD nw F' N' hoD o1 hn hC₀ hCL hDL hCD hDs ⟨hl, hJ⟩
  show wpAny _ A (assign (.Name y py) env (.ref D)) _ _ _
  refine wpAny_assign_Name (wpAny_storeName_local hy F'.ns (fun h₂ hn₂ hs₂ => ?_) hp)
  have hL₀ : h₀.get? env.locals = none := Heap.get?_none_of_le F'.above
  have F₂ : Fr h₀ env.locals h₂ (fun z => if z = y then some (.ref D) else m z) := ⟨hn₂, fun b o e => hs₂.extBut b o (fun q => by rw [q, hL₀] at e; cases e) (F'.keep b o e), F'.above⟩
  refine ⟨m', hn.sameBut hs₂ hCL, fun h'' hs'' => fin D oD h'' _ kvs nw (F₂.change hs'' hCL hC₀) (fun p hp => ?_) hoD hDs (fun p hp => (o1 p hp).2) hJ⟩
  have z : h₂.get? p.1 = some p.2 := hs₂.extBut _ _ (N' p hp).2.1 (N' p hp).1
  refine ⟨hs''.extBut _ _ ?_ z, (N' p hp).2⟩
  rcases List.mem_cons.mp hp with rfl | hp
  ·exact Ne.symm hCD
  ·exact (o1 p hp).1
end
end Mine
namespace Mine
def dnS (f : Str) : Str := if (Txt.slice f none (some (Txt.rfind f sl0 + 1)) != Txt.mul sl0 ((Txt.slice f none (some (Txt.rfind f sl0 + 1))).length : Int)) = true then Txt.rstripChars (Txt.slice f none (some (Txt.rfind f sl0 + 1))) sl0 else Txt.slice f none (some (Txt.rfind f sl0 + 1))
def jnS (P l : Str) : Str := if Txt.startswith l sl0 then l else if Txt.endswith P sl0 then P ++ l else P ++ (sl0 ++ l)
def LG (f l : Str) : Str := Str.ofString "/" ++ Txt.join sl0 (normG (jnS (dnS f) l))
def vFiles : List Str := [Str.ofString "/a/x", Str.ofString "/a/y", Str.ofString "/b/x", Str.ofString "/bz", Str.ofString "/z"]
def vLinks : List Str := [Str.ofString "x", Str.ofString "y", Str.ofString "../b/x", Str.ofString "/bz", Str.ofString "/a/../z", Str.ofString "../a/./y", Str.ofString "q"]
structure FOk (f : Str) : Prop where
 len : f.length ≤ 40
 h0 : (((Txt.slice f none (some (Txt.rfind f sl0 + 1))).length : Int) != 0) = true
 hl : (Txt.slice f none (some (Txt.rfind f sl0 + 1))).length ≤ 40
 dl : (dnS f).length ≤ 40
 d0 : (((dnS f).length : Int) != 0) = true
structure LOk (P : Str) : Prop where
 hP : P.length ≤ 40
 hsum : ((normG P).map (·.length)).sum + (normG P).length * 64 ≤ 16777216
 hjl : (Txt.join sl0 (normG P)).length ≤ 100
 h0 : ((P.length : Int) != 0) = true
 hspw : ∀ y ∈ Txt.split (Txt.slice P (some 1) none) sl0, y.length ≤ 100
 hsp : (Txt.split (Txt.slice P (some 1) none) sl0).length ≤ 20
 hA : (Txt.slice P none (some 1) != Str.ofString "/") = false
 hB : (Txt.slice P (some 1) (some 2) != Str.ofString "/") = true
theorem fok : ∀ f ∈ vFiles, FOk f := by
 have h : ∀ f ∈ vFiles, f.length ≤ 40 ∧ (((Txt.slice f none (some (Txt.rfind f sl0 + 1))).length : Int) != 0) = true ∧ (Txt.slice f none (some (Txt.rfind f sl0 + 1))).length ≤ 40 ∧ (dnS f).length ≤ 40 ∧ (((dnS f).length : Int) != 0) = true := by decide +kernel
 exact fun f hf => let ⟨a, b, c, d, e⟩ := h f hf; ⟨a, b, c, d, e⟩
theorem lok : ∀ f ∈ vFiles, ∀ l ∈ vLinks, LOk (jnS (dnS f) l) := by
 have h : ∀ f ∈ vFiles, ∀ l ∈ vLinks, (jnS (dnS f) l).length ≤ 40 ∧ ((normG (jnS (dnS f) l)).map (·.length)).sum + (normG (jnS (dnS f) l)).length * 64 ≤ 16777216 ∧ (Txt.join sl0 (normG (jnS (dnS f) l))).length ≤ 100 ∧ (((jnS (dnS f) l).length : Int) != 0) = true ∧
  (∀ y ∈ Txt.split (Txt.slice (jnS (dnS f) l) (some 1) none) sl0, y.length ≤ 100) ∧ (Txt.split (Txt.slice (jnS (dnS f) l) (some 1) none) sl0).length ≤ 20 ∧ (Txt.slice (jnS (dnS f) l) none (some 1) != Str.ofString "/") = false ∧ (Txt.slice (jnS (dnS f) l) (some 1) (some 2) != Str.ofString "/") = true := by decide +kernel
 exact fun f hf l hl => let ⟨a, b, c, d, e, g, i, j⟩ := h f hf l hl; ⟨a, b, c, d, e, g, i, j⟩
theorem llen : ∀ l ∈ vLinks, l.length ≤ 20 ∧ (Txt.split l sl0).length ≤ 20 := by decide +kernel
def wayS : List (List Str) := [[Str.ofString "a", Str.ofString "x"], [Str.ofString "a", Str.ofString "y"], [Str.ofString "b", Str.ofString "x"], [Str.ofString "bz"], [Str.ofString "z"]]
theorem agree : ∀ i < 5, ∀ l ∈ vLinks, ∀ j < 5, (goalOf (wayS.getD i []) l = wayS.getD j []) ↔ LG (vFiles.getD i (Str.ofString "")) l = vFiles.getD j (Str.ofString "") := by decide +kernel
end Mine
namespace Mine
open TI PyProof.Rows.LCg PyProof.Rows.LCt
section
variable {prog : Program} {w : World} {p : Program} {loose : List Str} {mean : ExcName → Option Value} {mg mb : Str → Option Value}
 {dp un : Nat} {gd : Option (List Code)} {cn : Str} {cs : Scope} {a : Addr} {ccd : Value} {cl : List (Str × Addr)} {outer : List Env} {A₀ : Around} {base h₀ : Heap} {L : Addr} {m : Str → Option Value} {s : Shared} {Q E : Value → Shared → Prop}
theorem dnmF {f : Str} {pt : Tok} {rest : List (Addr × Obj)} (hf : FOk f)
   (B : Below A₀ base outer h₀) (F : Fr h₀ L s.heap m) (X : (KK w.params).In h₀)
   (N : News h₀ L s.heap rest) (T : Top p loose mean mg mb h₀) (hk : cs.kind = .function) (hdp : dp < 348) (hun : un < 280)
   (ret : ∀ h' tk' t', Fr h₀ L h' m → News h₀ L h' rest → Q (.str (dnS f) t') { s with heap := h', toks := tk' }) :
    wpAny (model prog w) (ktrTop dp un gd cn cs L a ccd cl outer) (call (.ref 249) [.str f pt]) Q E s :=
  dnm B F X N hf.len rfl hf.h0 hf.hl rfl T hk hdp hun ret
theorem jnF {f l : Str} {pt lt : Tok} {rest : List (Addr × Obj)} (hf : FOk f) (hl : l.length ≤ 40)
   (B : Below A₀ base outer h₀) (F : Fr h₀ L s.heap m) (X : (KK w.params).In h₀)
   (N : News h₀ L s.heap rest) (T : Top p loose mean mg mb h₀) (hk : cs.kind = .function) (hdp : dp < 348) (hun : un < 280)
   (ret : ∀ h' tk' t', Fr h₀ L h' m → News h₀ L h' rest → Q (.str (jnS (dnS f) l) t') { s with heap := h', toks := tk' }) :
    wpAny (model prog w) (ktrTop dp un gd cn cs L a ccd cl outer) (call (.ref 235) [.str (dnS f) pt, .str l lt]) Q E s :=
  jnP B F X N hf.dl hl hf.d0 T hk hdp hun ret
theorem nrmF {f l : Str} {pt : Tok} {rest : List (Addr × Obj)} (hl : LOk (jnS (dnS f) l))
   (B : Below A₀ base outer h₀) (F : Fr h₀ L s.heap m) (X : (KK w.params).In h₀)
   (N : News h₀ L s.heap rest) (T : Top p loose mean mg mb h₀) (hk : cs.kind = .function) (hdp : dp < 344) (hun : un < 250)
   (ret : ∀ h' tk' t', Fr h₀ L h' m → News h₀ L h' rest → Q (.str (LG f l) t') { s with heap := h', toks := tk' }) :
    wpAny (model prog w) (ktrTop dp un gd cn cs L a ccd cl outer) (call (.ref 256) [.str (jnS (dnS f) l) pt]) Q E s :=
  norm B F X N hl.hP hl.hsum hl.hjl hl.h0 hl.hspw hl.hsp hl.hA hl.hB T hk hdp hun ret
end
end Mine
namespace Mine
open TI PySem.SeqAt PySem.MeetsSeq
def slD (l : List Str) : PyData := .list (l.map .str)
theorem readsAll_sl {h : Heap} : ∀ l : List (Str × Tok), ∃ as, ReadsAll h (l.map sV) ((l.map (·.1)).map .str) as
 | [] => ⟨_, .nil⟩
 | p :: r => by
  obtain ⟨as, ih⟩ := readsAll_sl (h := h) r
  exact ⟨_, .cons (.str p.1 p.2) ih⟩
theorem reads_sl {h : Heap} {a : Addr} {l : List (Str × Tok)} {c : Nat} (e : h.get? a = some (listOf (l.map sV).toArray c)) : ∃ as, Reads h (.ref a) (slD (l.map (·.1))) as := by
 obtain ⟨as, r⟩ := readsAll_sl (h := h) l
 exact ⟨_, .list e rfl rfl (by simpa using r)⟩
theorem readsAll_gls {h : Heap} : ∀ wl : List GL, (∀ g ∈ wl, h.get? g.ad = some g.ob) → ∃ as, ReadsAll h (glVs wl) ((glNs wl).map slD) as
 | [], _ => ⟨_, .nil⟩
 | g :: r, x => by
  obtain ⟨as, ih⟩ := readsAll_gls r fun y hy => x y (.tail _ hy)
  obtain ⟨bs, rg⟩ := reads_sl (x g (.head _))
  exact ⟨_, .cons rg ih⟩
theorem reads_gls {h : Heap} {W : Addr} {wl : List GL} {c : Nat} (e : h.get? W = some (listOf (glVs wl).toArray c)) (he : ∀ g ∈ wl, h.get? g.ad = some g.ob) : ∃ as, Reads h (.ref W) (.list ((glNs wl).map slD)) as := by
 obtain ⟨as, r⟩ := readsAll_gls wl he
 exact ⟨_, .list e rfl rfl (by simpa using r)⟩
theorem eqvAll_str : ∀ a b : List Str, PyData.eqvAll (a.map .str) (b.map .str) = decide (a = b)
 | [], [] => rfl
 | [], _ :: _ => rfl
 | _ :: _, [] => rfl
 | x :: a, y :: b => by
  show (PyData.eqv (.str x) (.str y) && PyData.eqvAll (a.map .str) (b.map .str)) = _
  rw [eqvAll_str a b]
  show ((x == y) && decide (a = b)) = _
  rw [Bool.eq_iff_iff, Bool.and_eq_true, decide_eq_true_eq, decide_eq_true_eq, beq_iff_eq, List.cons.injEq]
theorem eqv_slD (a b : List Str) : PyData.eqv (slD a) (slD b) = decide (a = b) := by
 show PyData.eqv (.list _) (.list _) = _
 unfold PyData.eqv
 exact eqvAll_str a b
theorem any_slD (ws : List (List Str)) (g : List Str) : ((ws.map slD).any fun y => PyData.eqv y (slD g)) = decide (g ∈ ws) := by
 rw [List.any_map, Bool.eq_iff_iff, List.any_eq_true, decide_eq_true_eq]
 constructor
 ·rintro ⟨y, hy, e⟩
  have e : PyData.eqv (slD y) (slD g) = true := e
  rw [eqv_slD, decide_eq_true_eq] at e
  exact e ▸ hy
 ·intro h
  exact ⟨g, h, by show PyData.eqv (slD g) (slD g) = true; rw [eqv_slD, decide_eq_true rfl]⟩
theorem depthAll_str : ∀ l : List Str, PyData.depthAll (l.map .str) = 0
 | [] => rfl
 | x :: r => by show max (PyData.depth (.str x)) (PyData.depthAll (r.map .str)) = 0; rw [depthAll_str r]; rfl
theorem depth_slD (l : List Str) : (slD l).depth = 1 := by
 show PyData.depth (.list _) = 1
 unfold PyData.depth
 rw [depthAll_str]
theorem idx_first {g : List Str} : ∀ {l : List (List Str)} {j : Nat}, j < l.idxOf g → ∀ h : j < l.length, l[j] ≠ g
 | x :: r, j, hj, h => by
  rw [List.idxOf_cons] at hj
  cases hx : x == g with
  | true => rw [hx] at hj; simp at hj
  | false =>
   rw [hx] at hj
   have hj : j < r.idxOf g + 1 := by simpa using hj
   cases j with
   | zero => simpa using hx
   | succ j => exact idx_first (Nat.lt_of_succ_lt_succ hj) (Nat.lt_of_succ_lt_succ h)
section
variable {prog : Program} {w : World} {A : Around} {E : Value → Shared → Prop} {s : Shared} {h₀ : Heap} {L : Addr} {news : List (Addr × Obj)}
theorem in_ways {Wy ga : Addr} {wl : List GL} {gs : List (Str × Tok)} {c c' : Nat} {Q : Value → Shared → Prop} (hW : s.heap.get? Wy = some (listOf (glVs wl).toArray c)) (he : ∀ g ∈ wl, s.heap.get? g.ad = some g.ob) (hg : s.heap.get? ga = some (listOf (gs.map sV).toArray c'))
   (c1 : PyData.canLayAll0 ((glNs wl).map slD) = true) (c2 : (slD (gs.map (·.1))).canLay0 = true) (hu : A.units + 2 < cLine) (h : Q (.bool (decide (gs.map (·.1) ∈ glNs wl))) s) :
   wpAny (model prog w) A (compareOp .In (.ref ga) (.ref Wy)) Q E s := by
  obtain ⟨as, r1⟩ := reads_gls hW he
  obtain ⟨bs, r2⟩ := reads_sl hg
  refine SeqAt.in_list_reads r1 r2 c1 c2 ?_ ?_
  · rw [depth_slD]
    have := Nat.min_le_right (PyData.depthAll ((glNs wl).map slD)) 1
    omega
  · rw [any_slD]; exact h
theorem idx_ways {Wy ga : Addr} {wl : List GL} {gs : List (Str × Tok)} {c c' : Nat} {Q : Value → Shared → Prop} (hW : s.heap.get? Wy = some (listOf (glVs wl).toArray c)) (he : ∀ g ∈ wl, s.heap.get? g.ad = some g.ob) (hg : s.heap.get? ga = some (listOf (gs.map sV).toArray c'))
   (c1 : PyData.canLayAll0 ((glNs wl).map slD) = true) (c2 : (slD (gs.map (·.1))).canLay0 = true) (hu : A.units + 2 < cLine) (hm : gs.map (·.1) ∈ glNs wl) (hsz : wl.length ≤ 100) (h : Q (.int ((glNs wl).idxOf (gs.map (·.1)) : Nat) s.toks) { s with toks := s.toks + 1 }) :
   wpAny (model prog w) A (call (.builtin "list.index") [.ref Wy, .ref ga]) Q E s := by
  obtain ⟨as, r1⟩ := readsAll_gls wl he
  obtain ⟨bs, r2⟩ := reads_sl hg
  have hx := readsAll_map _ _ _ c1 r1
  have hlen : (glVs wl).length = (glNs wl).length := by unfold glVs glNs; rw [List.length_map, List.length_map]
  have hwl : (glVs wl).length = wl.length := by unfold glVs; rw [List.length_map]
  have hj : (glNs wl).idxOf (gs.map (·.1)) < (glNs wl).length := List.idxOf_lt_length_iff.mpr hm
  have at' : ∀ j (h1 : j < (glVs wl).length) (h2 : j < (glNs wl).length), PyData.eqv (readOf s.heap (glVs wl)[j]) (slD (gs.map (·.1))) = decide ((glNs wl)[j] = gs.map (·.1)) := fun j h1 h2 => by
    have e : readOf s.heap (glVs wl)[j] = slD (glNs wl)[j] := by
      have := congrArg (fun l => l[j]?) hx
      simp only [List.getElem?_map, List.getElem?_eq_getElem h1, List.getElem?_eq_getElem h2, Option.map_some] at this
      exact Option.some.inj this
    rw [e, eqv_slD]
  refine call_meets PySem.F.slot_list_index ⟨_, hW, rfl⟩ PySem.F.entry_list_index (PySem.F.args_list_index_2 _ _)
    (list_indexAt Wy (glVs wl).toArray c none #[] (.ref ga) (fun y => PyData.eqv (readOf s.heap y) (slD (gs.map (·.1)))) ((glNs wl).idxOf (gs.map (·.1))) (by simpa [hlen] using hj) (by omega) ?_ ?_) ⟨hW, SeqAt.items_eqAt (by simpa using r1) r2 c1 c2 ?_, h⟩
  · have := at' _ (by omega) hj
    rw [show (glNs wl)[(glNs wl).idxOf (gs.map (·.1))] = gs.map (·.1) by simpa using List.getElem_idxOf hj, decide_eq_true rfl] at this
    simpa using this
  · intro j hjs hlt
    have := at' j (by simpa using hjs) (by omega)
    rw [decide_eq_false (by
      intro e
      exact idx_first hlt _ e)] at this
    simpa using this
  · rw [depth_slD]
    have := Nat.min_le_right (PyData.depthAll ((glNs wl).map slD)) 1
    omega
end
theorem way_lay : PyData.canLayAll0 (wayS.map slD) = true := by decide +kernel
theorem goal_lay : ∀ w ∈ wayS, ∀ l ∈ vLinks, (slD (goalOf w l)).canLay0 = true ∧ w.length ≤ 8 := by decide +kernel
end Mine
namespace Mine
open TI PyProof.Rows.LCg PyProof.Rows.LCt
section
variable {prog : Program} {w : World} {p : Program} {loose : List Str} {mean : ExcName → Option Value} {mg mb : Str → Option Value}
 {dp un : Nat} {gd : Option (List Code)} {cn : Str} {cs : Scope} {a : Addr} {ccd : Value} {cl : List (Str × Addr)} {outer : List Env} {A₀ : Around} {base h₀ : Heap} {L : Addr} {m : Str → Option Value} {s : Shared} {Q E : Value → Shared → Prop}
theorem lgoalF {wa : Addr} {ws : List (Str × Tok)} {wc : Nat} {lk : Str} {lt : Tok} {news : List (Addr × Obj)}
   (B : Below A₀ base outer h₀) (F : Fr h₀ L s.heap m) (X : (KK w.params).In h₀)
   (N : News h₀ L s.heap news) (hm : (wa, listOf (ws.map sV).toArray wc) ∈ news) (hlk : lk.length ≤ 20) (hsp : (Txt.split lk sl0).length ≤ 20) (hws : ws.length ≤ 8)
   (T : Top p loose mean mg mb h₀) (hk : cs.kind = .function) (hdp : dp < 346) (hun : un < 270)
   (ret : ∀ h' tk' g gs gc, Fr h₀ L h' m → News h₀ L h' ((g, listOf (List.map sV gs).toArray gc) :: news) → gs.map (·.1) = goalOf (ws.map (·.1)) lk → (∀ q ∈ news, q.1 ≠ wa → q.1 ≠ g) → Q (.ref g) { s with heap := h', toks := tk' }) :
    wpAny (model prog w) (ktrTop dp un gd cn cs L a ccd cl outer) (call (.ref 344) [.ref wa, .str lk lt]) Q E s := by
  refine lgoal (wc := wc) (rest := news.filter fun q => decide (q.1 ≠ wa)) B F X (fun q hq => ?_) (fun q hq => of_decide_eq_true (List.mem_filter.mp hq).2) hlk hsp hws T hk hdp hun (fun h' tk' g gs gc F' N' e1 e2 e3 => ret h' tk' g gs gc F' (fun q hq => ?_) e1 fun q hq hne => e3 q (List.mem_filter.mpr ⟨hq, decide_eq_true hne⟩))
  · rcases List.mem_cons.mp hq with rfl | hq
    · exact N _ hm
    · exact N q (List.mem_filter.mp hq).1
  · rcases List.mem_cons.mp hq with rfl | hq
    · exact N' _ (.head _)
    · by_cases e : q.1 = wa
      · have h1 := (N q hq).1
        have h2 := (N _ hm).1
        rw [e, h2] at h1
        have : q = (wa, listOf (ws.map sV).toArray wc) := Prod.ext e (Option.some.inj h1).symm
        rw [this]
        exact N' _ (.tail _ (.head _))
      · exact N' q (tl2 (List.mem_filter.mpr ⟨hq, decide_eq_true e⟩))
end
end Mine
local macro_rules | `(tactic| walk_at "lts") => `(tactic| first | with_reducible assumption | with_reducible exact Nat.lt_add_one _ | (with_reducible refine Nat.lt_add_one_of_lt ?_; walk_at "lts"))
local macro_rules | `(tactic| k_ne) => `(tactic| first | with_reducible assumption | (refine neN ?_; (try dsimp only); first | (refine Nat.ne_of_gt ?_; walk_at "lts") | (refine Nat.ne_of_lt ?_; walk_at "lts") | (refine Nat.ne_of_gt ?_; walk_at "lt")))
namespace Mine
open TI PyProof.Rows.LCg PyProof.Rows.LCt
namespace SN01
theorem h9r0 : StopRef 298 := trivial
theorem h9r1 : StopRef 318 := trivial
def h9s_CompSrcT := sT
def h9s_CompSrc := sT
def h9s_CompEnd := sT
def h9s_eval_ListComp := sT
def h9s_exec_Assign_cons_ListComp := sT
def h9s_call_builtin_len := sT
def h9s_subscriptTail_Name_Name_ref_int := sT
def h9s_binaryOp_Add_ref_ref := sT
end SN01
open SN01
def fnS (d : Str) : Str := Str.ofString "/" ++ Txt.join sl0 (normG d)
theorem stop_nd {P : Prop} (h : P) : Stop P := h
def igN (ds : List Str) (f : Str) : Bool := ds.any fun d => Txt.startswith f (d ++ Str.ofString "/")
def gX (ds fs : List Str) (j : Nat) : Int := bif igN ds (fs.getD j (Str.ofString "")) then 1 else 0
section
variable {prog : Program} {w : World} {A : Around} {s : Shared} {h₀ : Heap} {L : Addr} {m : Str → Option Value} {env : Env} {elt : PySem.Expr} {x : Str} {scope : Scope} {cl : List (Str × Addr)} {S : List (Addr × Obj) → Prop} {Fin : List Value → List (Addr × Obj) → Prop} {n : Nat} {P : Nat → Value → Prop} {J : Nat → List Value → List (Addr × Obj) → Prop}
theorem comp_indP (fin : ∀ ys news, J n ys news → Fin ys news)
  (step : ∀ k i ys news v, P i v → i < n → J i ys news → (∀ ys' news', J (i + 1) ys' news' → CompRest prog w A h₀ L m env elt x scope cl s S P Fin k (i + 1) ys' news') →
   ∀ I oIq C oC D m₂ h tk (E' : Value → Shared → Prop), NsObj oC m₂ → m₂ x = some v → Fr h₀ L h m → News h₀ L h ((I, oIq) :: (C, oC) :: (D, lst ys) :: news) → Off3 I C D news → ((@Ne Nat I C) ∧ (@Ne Nat I D) ∧ (@Ne Nat C D)) →
   wpAny (model prog w) A (eval elt (compEnvC scope cl C env)) (CompEnd h₀ L m { s with heap := h, toks := tk } I oIq C oC D (lst ys) S (fun y news' => CompRest prog w A h₀ L m env elt x scope cl s S P Fin k (i + 1) (ys ++ [y]) news')) E' { s with heap := h, toks := tk }) :
  ∀ k i ys news, i + k = n → J i ys news → CompRest prog w A h₀ L m env elt x scope cl s S P Fin k i ys news
 | 0, i, ys, news, e, j => CompRest.zero (fin ys news (by rw [← e]; exact j))
 | k + 1, i, ys, news, e, j => CompRest.succ fun v I oIq C oC D m₂ h tk E' hv hC hx F N off ne =>
   step k i ys news v hv (by omega) j (fun ys' news' j' => comp_indP fin step k (i + 1) ys' news' (by omega) j') I oIq C oC D m₂ h tk E' hC hx F N off ne
end
def mS (j : Nat) : Str := Str.ofString "m" ++ Str.ofString (toString ((0 : Int) + (j : Int)))
theorem m_str : ∀ j < 5, Str.ofString "<string>" ≠ mS j := by decide +kernel
theorem m_inj : ∀ j < 5, ∀ k < 5, mS j = mS k → j = k := by decide +kernel
theorem m_new (j : Nat) (hj : j < 5) (v : Value) : valueAt [(Str.ofString "<string>", v)] (mS j) = none := by
 unfold valueAt
 rw [List.find?_cons_of_neg (by simpa using m_str j hj)]
 rfl
theorem valueAt_snoc {kvs : List (Str × Value)} {k k' : Str} {v : Value} : valueAt (kvs ++ [(k, v)]) k' = (valueAt kvs k').or (if k = k' then some v else none) := by
 unfold valueAt
 rw [List.find?_append]
 cases h : kvs.find? fun kv => decide (kv.1 = k') with
 | some x => simp
 | none =>
  by_cases e : k = k'
  ·simp [e]
  ·simp [e]
theorem igN_of (dl : List (Str × Tok)) (f : Str) : igA dl f = igN (dl.map (·.1)) f := by
 unfold igA igN
 rw [List.any_map]; rfl
theorem perm5 {q x dx sa la ig i c d : Addr × Obj} {R : List (Addr × Obj)} (h : q ∈ x :: dx :: sa :: la :: ig :: i :: c :: d :: R) : q ∈ i :: c :: d :: ig :: la :: sa :: x :: dx :: R := by
 refine sub_of ?_ h
 (try dsimp only [List.cons_append, List.nil_append])
 walk_at "sub"
theorem off1_memN {D : Addr} : ∀ {l : List (Addr × Obj)}, Off1 D l → ∀ p ∈ l, p.1 ≠ D
 | [], _, _, h => nomatch h
 | _ :: _, x, p, h => by
  rcases List.mem_cons.mp h with rfl | h
  ·exact x.1
  ·exact off1_memN x.2 p h
theorem perm6 {q x dx sa la ig i c d f : Addr × Obj} {R : List (Addr × Obj)} (h : q ∈ x :: dx :: sa :: la :: ig :: i :: c :: d :: f :: R) : q ∈ i :: c :: d :: f :: ig :: la :: sa :: x :: dx :: R := by
 refine sub_of ?_ h
 (try dsimp only [List.cons_append, List.nil_append])
 walk_at "sub"
theorem perm6' {q x dx sa la ig i c d f : Addr × Obj} {R : List (Addr × Obj)} (h : q ∈ i :: c :: d :: f :: ig :: la :: sa :: x :: dx :: R) : q ∈ x :: dx :: sa :: la :: ig :: i :: c :: d :: f :: R := by
 refine sub_of ?_ h
 (try dsimp only [List.cons_append, List.nil_append])
 walk_at "sub"
theorem perm5' {q x dx sa la ig i c d : Addr × Obj} {R : List (Addr × Obj)} (h : q ∈ i :: c :: d :: ig :: la :: sa :: x :: dx :: R) : q ∈ x :: dx :: sa :: la :: ig :: i :: c :: d :: R := by
 refine sub_of ?_ h
 (try dsimp only [List.cons_append, List.nil_append])
 walk_at "sub"
section
variable {prog : Program} {w : World} {A : Around} {s : Shared} {h₀ : Heap} {L : Addr} {m : Str → Option Value} {env : Env} {elt : PySem.Expr} {x : Str} {scope : Scope} {cl : List (Str × Addr)} {S : List (Addr × Obj) → Prop} {Fin : List Value → List (Addr × Obj) → Prop}
theorem comp_same {its : Array Value} {news : List (Addr × Obj)} {R : Nat → List Value → Prop} (R0 : R 0 []) (fin : ∀ ys, R its.size ys → Fin ys news)
  (step : ∀ k i ys v, its[i]? = some v → R i ys → (∀ y, R (i + 1) (ys ++ [y]) → CompRest prog w A h₀ L m env elt x scope cl s S (fun i v => its[i]? = some v) Fin k (i + 1) (ys ++ [y]) news) →
   ∀ I oIq C oC D m₂ h tk (E' : Value → Shared → Prop), NsObj oC m₂ → m₂ x = some v → Fr h₀ L h m → News h₀ L h ((I, oIq) :: (C, oC) :: (D, lst ys) :: news) → Off3 I C D news →
   wpAny (model prog w) A (eval elt (compEnvC scope cl C env)) (CompEnd h₀ L m { s with heap := h, toks := tk } I oIq C oC D (lst ys) S (fun y news' => CompRest prog w A h₀ L m env elt x scope cl s S (fun i v => its[i]? = some v) Fin k (i + 1) (ys ++ [y]) news')) E' { s with heap := h, toks := tk }) :
  CompRest prog w A h₀ L m env elt x scope cl s S (fun i v => its[i]? = some v) Fin its.size 0 [] news := by
 refine comp_ind (J := fun i ys nw => nw = news ∧ R i ys) (fun ys nw h => h.1 ▸ fin ys h.2) (fun k i ys nw v hv hj ih I oIq C oC D m₂ h tk E' hC hx F N off _ => ?_) its.size 0 [] news (Nat.zero_add _) ⟨rfl, R0⟩
 obtain ⟨rfl, hr⟩ := hj
 exact step k i ys v hv hr (fun y hy => ih _ _ ⟨rfl, hy⟩) I oIq C oC D m₂ h tk E' hC hx F N off
end
inductive RdV (prog : Program) (w : World) (g1 : Heap) (L1 : Addr) (v : Value) (oF : Obj) (fa : Addr) (fo : Obj) (rest : List (Addr × Obj)) (dns : List Str) (s : Shared) : Flow → Shared → Prop
 | mk (x dx sa la ig : Addr) (led : Bool) (od oXq : Obj) (dl : List (Str × Tok)) (dlc : Nat) (e1 e2 e3 : Int) (t1 t2 t3 t0 : Tok) (hh : Heap) (tk : Nat) (FX : Fr g1 L1 hh (fun y => if y = Str.ofString "folders" then some v else none))
  (NY : News g1 L1 hh ((ig, od) :: (la, listOf (dl.map sV).toArray dlc) :: (sa, noSet led) :: (x, instObj 321 dx) :: (dx, dictOf (rdD sa la ig e1 e2 e3 t1 t2 t3) 3) :: (L1 + 1 + 1, oXq) :: (L1 + 1, oF) :: (fa, fo) :: rest))
  (ap5 : ∀ q ∈ (L1 + 1 + 1, oXq) :: (L1 + 1, oF) :: (fa, fo) :: rest, q.1 ≠ x ∧ q.1 ≠ dx ∧ q.1 ≠ sa ∧ q.1 ≠ la ∧ q.1 ≠ ig) (nig : x ≠ ig ∧ dx ≠ ig ∧ sa ≠ ig ∧ la ≠ ig) (lod : (ig == sysModules) = false)
  (hdz : Obj.IsDictOf (PySem.strKind prog w) od [(Str.ofString "<string>", .int 1 t0)]) (hdl : dl.map (·.1) = dns) (hdl40 : ∀ q ∈ dl, q.1.length ≤ 40) (dX : oXq.data = .cell (some (.ref x))) :
  RdV prog w g1 L1 v oF fa fo rest dns s .next { s with heap := hh, toks := tk }
structure DOk (d : Str) : Prop where
 ok : LOk d
 cut : HoldsX (Txt.slice ((Str.ofString "/" ++ Txt.join sl0 (normG d)) ++ sl0) none (some (-1)) = Str.ofString "/" ++ Txt.join sl0 (normG d))
 len : (fnS d).length ≤ 40
section
section
variable {prog : Program} {w : World} {p : Program} {loose : List Str} {mean : ExcName → Option Value} {mg mb : Str → Option Value}
 {dp un : Nat} {gd : Option (List Code)} {cn : Str} {cs : Scope} {a : Addr} {ccd : Value} {cl : List (Str × Addr)} {outer : List Env} {A₀ : Around} {base h₀ : Heap} {L : Addr} {m : Str → Option Value} {s : Shared} {Q E : Value → Shared → Prop}
def lans_S {fa : Addr} {v : Value} {fs : List (Str × Tok)} {dns : List Str} {fct : Nat} {rest : List (Addr × Obj)} : Prop := ∀ (B : Below A₀ base outer h₀) (F : Fr h₀ L s.heap m) (X : (KK w.params).In h₀) (N : News h₀ L s.heap ((fa, listOf (fs.map sV).toArray fct) :: rest)) (hfs : fs.length = 5) (hf40 : ∀ f ∈ fs, f.1.length ≤ 40) (hv : (v = .none ∧ dns = []) ∨ (∃ (da : Addr) (ds : List (Str × Tok)) (dc : Nat) (rest' : List (Addr × Obj)), v = .ref da ∧ rest = (da, listOf (ds.map sV).toArray dc) :: rest' ∧ ds ≠ [] ∧ ds.length ≤ 2 ∧ (∀ d ∈ ds, DOk d.1) ∧ dns = ds.map fun d => fnS d.1)) (T : Top p loose mean mg mb h₀) (hk : cs.kind = .function) (hdp : dp < 340) (hun : un < 230) (ret : ∀ (h' : Heap) (tk' : Nat) (r : Addr) (ans : List (Int × Tok)) (c : Nat), Fr h₀ L h' m → News h₀ L h' ((r, listOf (ans.map iV).toArray c) :: (fa, listOf (fs.map sV).toArray fct) :: rest) → (∀ q ∈ (fa, listOf (fs.map sV).toArray fct) :: rest, q.1 ≠ r) → ans.map (·.1) = (List.range 5).map (gX dns (fs.map (·.1))) ++ (List.range 5).map (gX dns (fs.map (·.1))) → Q (.ref r) { s with heap := h', toks := tk' }),
  wpAny (model prog w) (ktrTop dp un gd cn cs L a ccd cl outer) (call (.ref 337) [.ref fa, v]) Q E s
end
abbrev lans_u (z9 : St1 × St2 × St3 × St4 × (Addr × Value × (List (Str × Tok)) × (List Str) × Nat × (List (Addr × Obj)))) : Prop := u6 (u6 (u6 (u6 (u6 @lans_S z9.1) z9.2.1) z9.2.2.1) z9.2.2.2.1) z9.2.2.2.2
def lans_c := eps (by walk_at "ne") lans_u
namespace Klans
@[irreducible] def prog := lans_c.1.1
@[irreducible] def w := lans_c.1.2.1
@[irreducible] def p := lans_c.1.2.2.1
@[irreducible] def loose := lans_c.1.2.2.2.1
@[irreducible] def mean := lans_c.1.2.2.2.2.1
@[irreducible] def mg := lans_c.1.2.2.2.2.2
@[irreducible] def mb := lans_c.2.1.1
@[irreducible] def dp := lans_c.2.1.2.1
@[irreducible] def un := lans_c.2.1.2.2.1
@[irreducible] def gd := lans_c.2.1.2.2.2.1
@[irreducible] def cn := lans_c.2.1.2.2.2.2.1
@[irreducible] def cs := lans_c.2.1.2.2.2.2.2
@[irreducible] def a := lans_c.2.2.1.1
@[irreducible] def ccd := lans_c.2.2.1.2.1
@[irreducible] def cl := lans_c.2.2.1.2.2.1
@[irreducible] def outer := lans_c.2.2.1.2.2.2.1
@[irreducible] def A₀ := lans_c.2.2.1.2.2.2.2.1
@[irreducible] def base := lans_c.2.2.1.2.2.2.2.2
@[irreducible] def h₀ := lans_c.2.2.2.1.1
@[irreducible] def L := lans_c.2.2.2.1.2.1
@[irreducible] def m := lans_c.2.2.2.1.2.2.1
@[irreducible] def s := lans_c.2.2.2.1.2.2.2.1
@[irreducible] def Q := lans_c.2.2.2.1.2.2.2.2.1
@[irreducible] def E := lans_c.2.2.2.1.2.2.2.2.2
@[irreducible] def fa := lans_c.2.2.2.2.1
@[irreducible] def v := lans_c.2.2.2.2.2.1
@[irreducible] def fs := lans_c.2.2.2.2.2.2.1
@[irreducible] def dns := lans_c.2.2.2.2.2.2.2.1
@[irreducible] def fct := lans_c.2.2.2.2.2.2.2.2.1
@[irreducible] def rest := lans_c.2.2.2.2.2.2.2.2.2
end Klans
section
open Klans
def lana_st : Stg3 (Heap → Addr → Heap → Nat → Obj → Obj → (Flow → Shared → Prop) → (Value → Shared → Prop) → Prop) (Heap → Addr → Heap → Nat → Obj → Obj → (Flow → Shared → Prop) → (Value → Shared → Prop) → Addr → Nat → (List (Addr × Obj)) → (Str × Tok) → (List (Str × Tok)) → Prop) (Heap → Addr → Obj → Obj → (Flow → Shared → Prop) → (Value → Shared → Prop) → Addr → Addr → Addr → Addr → Addr → Bool → Obj → Obj → (List (Str × Tok)) → Nat → Int → Int → Int → Tok → Tok → Tok → Tok → Heap → Nat → Prop) (fun p9 => ∀ g1 L1 hh1 tk1 oRq oF qk ek, p9 g1 L1 hh1 tk1 oRq oF qk ek) (fun p9 => ∀ g1 L1 hh1 tk1 oRq oF qk ek da dc rest' d0 dr, p9 g1 L1 hh1 tk1 oRq oF qk ek da dc rest' d0 dr) (fun p9 => ∀ g1 L1 oRq oF qk ek x dx sa la ig led od oXq dl dlc e1 e2 e3 t1 t2 t3 t0 hh tk, p9 g1 L1 oRq oF qk ek x dx sa la ig led od oXq dl dlc e1 e2 e3 t1 t2 t3 t0 hh tk) (@lans_S prog w p loose mean mg mb dp un gd cn cs a ccd cl outer A₀ base h₀ L m s Q E fa v fs dns fct rest) := by
 refine' Stg3.mk _ _ _ fun h9lana h9lanb h9lan1 => ?hk9
 case hk9 =>
  have e9 : EpsOn := trivial
  unfold lans_S
  intro B F X N hfs hf40 hv T hk hdp hun ret
  refine wpAny_call ?_
  refine' code_defC ?k1 ?k2 ?k3 ?k4 ?k5 ?kA ?kF ?kK ?k6 ?k7 ?k8 ?k9 ?kB ?kD ?_ ?c2 ?c3 ?c4; (case kA => exact rfl); (case kF => exact rfl); (case kK => exact hk); (case k1 => k_asm); (case k2 => k_asm); (case k3 => k_asm); (case k4 => k_asm); (case k5 => k_asm); (case k6 => k_is); (case k7 => k_is); (case k8 => ktr_room); (case k9 => exact BindsTo.of_eq rfl); (case kB => exact rfl); (case kD => decide +kernel); (case c2 => exact rfl); (case c3 => exact rfl); (case c4 => exact rfl)
  intro g1 L1 hh1 tk1 cells FG1 F1 N1 Y1 B1 X1 T1 l1
  k_cells Y1
  (try simp only [List.cons_append, List.nil_append] at N1)
  (try dsimp only); (try k_fold)
  rename_i oRq oF dR dF
  replace dR : oRq.data = .cell none := dR
  replace dF : oF.data = .cell (some (.ref fa)) := dF
  replace F1 : Fr g1 L1 hh1 (fun y => if y = Str.ofString "folders" then some v else none) := F1
  have cF : @LT.lt Nat _ fa L1 := l1 _ (.head _)
  have h9s_exec_Assign : StopAt "exec Assign" := trivial
  k_steps
  clear h9s_exec_Assign
  show wpAny _ _ (exec (Stmt.Assign _ _ _) _) _ _ _
  refine wpAny_mono (Q := RdV prog w g1 L1 v oF fa (listOf (fs.map sV).toArray fct) rest dns s) ?c1 ?c2 (fun _ _ h => h)
  case c1 =>
   clear ret e9
   rcases hv with ⟨hv0, hdns⟩ | ⟨da, ds, dc, rest', hv0, hrest, hd0, hd2, hdk, hdns⟩
   case inl =>
    rw [hv0] at F1
    revert B F X N hfs hf40 T hk hdp hun FG1 B1 X1 T1 l1 N1 hq9 he9 dR dF F1 cF hv0 hdns
    exact h9lana g1 L1 hh1 tk1 oRq oF qk ek
   case inr =>
    obtain ⟨d0, dr, rfl⟩ : ∃ d0 dr, ds = d0 :: dr := by
     cases ds with
     | nil => exact absurd rfl hd0
     | cons a r => exact ⟨a, r, rfl⟩
    have l1' := l1
    rw [hrest] at N1 l1'
    rw [hv0] at F1
    have cR : ∀ q ∈ rest', q.1 ≠ L1 + 1 + 1 := fun q hq => Nat.ne_of_lt (Nat.lt_trans (l1' q (tl2 hq)) (Nat.lt_succ_of_lt (Nat.lt_succ_self _)))
    have cD : @LT.lt Nat _ da L1 := l1' _ (.tail _ (.head _))
    clear l1'
    revert B F X N hfs hf40 T hk hdp hun FG1 B1 X1 T1 l1 hq9 he9 dR dF cF F1 hv0 N1 hrest hd0 hd2 hdk hdns cR cD
    exact h9lanb g1 L1 hh1 tk1 oRq oF qk ek da dc rest' d0 dr
  clear F1 N1 e9 hv
  intro a9 s9 W9
  refine RdV.casesOn W9 ?_
  clear W9 a9 s9
  intro x dx sa la ig led od oXq dl dlc e1 e2 e3 t1 t2 t3 t0 hh tk FX NY ap5 nig lod hdz hdl hdl40 dX
  revert B F X N hfs hf40 T hk hdp hun ret FG1 B1 X1 T1 l1 hq9 he9 dR dF cF FX NY ap5 nig lod hdz hdl hdl40 dX
  exact h9lan1 g1 L1 oRq oF qk ek x dx sa la ig led od oXq dl dlc e1 e2 e3 t1 t2 t3 t0 hh tk
@[irreducible] def lana_S := lana_st.p
theorem lana_eq : lana_S = lana_st.p := by unfold lana_S; rfl
abbrev lana_u (z9 : (Heap × Addr × Heap × Nat × Obj × Obj) × ((Flow → Shared → Prop) × (Value → Shared → Prop))) : Prop := u2 (u6 lana_S z9.1) z9.2
def lana_c := eps (by walk_at "ne") lana_u
namespace Klana
@[irreducible] def g1 := lana_c.1.1
@[irreducible] def L1 := lana_c.1.2.1
@[irreducible] def hh1 := lana_c.1.2.2.1
@[irreducible] def tk1 := lana_c.1.2.2.2.1
@[irreducible] def oRq := lana_c.1.2.2.2.2.1
@[irreducible] def oF := lana_c.1.2.2.2.2.2
@[irreducible] def qk := lana_c.2.1
@[irreducible] def ek := lana_c.2.2
end Klana
end
section
open Klans
open Klana
theorem lana_1 : lana_S Klana.g1 Klana.L1 Klana.hh1 Klana.tk1 Klana.oRq Klana.oF Klana.qk Klana.ek := by
 have e9 : EpsOn := trivial
 unfold lana_S lana_st
 dsimp only
 intro B F X N hfs hf40 T hk hdp hun FG1 B1 X1 T1 l1 N1 hq9 he9 dR dF F1 cF hv0 hdns
 have cR : ∀ q ∈ rest, q.1 ≠ L1 + 1 + 1 := fun q hq => Nat.ne_of_lt (Nat.lt_trans (l1 q (.tail _ hq)) (by omega))
 k_steps
 refine stop_nd ?_
 rename_i x dx h8 l13 l2 gA LA h7 BA XA TA tkA sa h6 led hs hz l12 h5 la h4 l11 h3 h2b od lod hdd hfd apd l1d h1b FB NB Tc kX hh oXq FX NX dX
 have ap5 : ∀ q ∈ (L1 + 1 + 1, oXq) :: (L1 + 1, oF) :: (fa, listOf (fs.map sV).toArray fct) :: rest, q.1 ≠ x ∧ q.1 ≠ dx ∧ q.1 ≠ sa ∧ q.1 ≠ la ∧ q.1 ≠ h3.objs.size := by
  have key : ∀ q ∈ (L1 + 1 + 1, oXq) :: (L1 + 1, oF) :: (fa, listOf (fs.map sV).toArray fct) :: rest, @LT.lt Nat _ q.1 dx := fun q hq => by
   rcases List.mem_cons.mp hq with rfl | hq
   ·exact l13.1
   ·rcases List.mem_cons.mp hq with rfl | hq
    ·exact l13.2.1
    ·rcases List.mem_cons.mp hq with rfl | hq
     ·exact l13.2.2.1
     ·exact allLt_all l13.2.2.2 q hq
  intro q hq
  have h1 := key q hq
  have h2 : @LT.lt Nat _ dx x := l2
  have h3' : @LT.lt Nat _ x sa := l12.1
  have h4' : @LT.lt Nat _ sa la := l11.1
  have h5' : @LT.lt Nat _ la h3.objs.size := l1d.1
  exact ⟨by intro e; rw [e] at h1; omega, by intro e; rw [e] at h1; omega, by intro e; rw [e] at h1; omega, by intro e; rw [e] at h1; omega, by intro e; rw [e] at h1; omega⟩
 have nig : x ≠ h3.objs.size ∧ dx ≠ h3.objs.size ∧ sa ≠ h3.objs.size ∧ la ≠ h3.objs.size := ⟨Nat.ne_of_lt l1d.2.2.1, Nat.ne_of_lt l1d.2.2.2.1, Nat.ne_of_lt l1d.2.1, Nat.ne_of_lt l1d.1⟩
 obtain ⟨dl, dlc, hdl, hla⟩ : ∃ (dl : List (Str × Tok)) (dlc : Nat), dl.map (·.1) = dns ∧ (listOf #[] 0 : Obj) = listOf (dl.map sV).toArray dlc := ⟨[], 0, by rw [hdns]; rfl, rfl⟩
 rw [hla] at NX
 obtain ⟨e1, e2, e3, t1, t2, t3, NY⟩ : ∃ e1 e2 e3 t1 t2 t3, News g1 L1 hh ((h3.objs.size, od) :: (la, listOf (dl.map sV).toArray dlc) :: (sa, noSet led) :: (x, instObj 321 dx) :: (dx, dictOf (rdD sa la h3.objs.size e1 e2 e3 t1 t2 t3) 3) :: (L1 + 1 + 1, oXq) :: (L1 + 1, oF) :: (fa, listOf (fs.map sV).toArray fct) :: rest) := ⟨_, _, _, _, _, _, NX⟩
 clear NX
 obtain ⟨t0, hdz⟩ : ∃ t0, Obj.IsDictOf (PySem.strKind prog w) od [(Str.ofString "<string>", .int 1 t0)] := ⟨_, hdd⟩
 clear hdd
 generalize h3.objs.size = ig at ap5 nig NY lod
 have hdl40 : ∀ q ∈ dl, q.1.length ≤ 40 := fun q hq => by
  have : q.1 ∈ dl.map (·.1) := List.mem_map_of_mem hq
  rw [hdl, hdns] at this; cases this
 rw [← hv0] at FX
 refine RdV.mk x dx sa la ig led od oXq dl dlc e1 e2 e3 t1 t2 t3 t0 _ _ FX NY ap5 nig lod hdz hdl hdl40 dX
end
section
open Klans
@[irreducible] def lanb_S := lana_st.q
theorem lanb_eq : lanb_S = lana_st.q := by unfold lanb_S; rfl
abbrev lanb_u (z9 : (Heap × Addr × Heap × Nat × Obj × Obj) × ((Flow → Shared → Prop) × (Value → Shared → Prop) × Addr × Nat × (List (Addr × Obj)) × (Str × Tok)) × ((List (Str × Tok)))) : Prop := u1 (u6 (u6 lanb_S z9.1) z9.2.1) z9.2.2
def lanb_c := eps (by walk_at "ne") lanb_u
namespace Klanb
@[irreducible] def g1 := lanb_c.1.1
@[irreducible] def L1 := lanb_c.1.2.1
@[irreducible] def hh1 := lanb_c.1.2.2.1
@[irreducible] def tk1 := lanb_c.1.2.2.2.1
@[irreducible] def oRq := lanb_c.1.2.2.2.2.1
@[irreducible] def oF := lanb_c.1.2.2.2.2.2
@[irreducible] def qk := lanb_c.2.1.1
@[irreducible] def ek := lanb_c.2.1.2.1
@[irreducible] def da := lanb_c.2.1.2.2.1
@[irreducible] def dc := lanb_c.2.1.2.2.2.1
@[irreducible] def rest' := lanb_c.2.1.2.2.2.2.1
@[irreducible] def d0 := lanb_c.2.1.2.2.2.2.2
@[irreducible] def dr := lanb_c.2.2
end Klanb
end
section
open Klans
open Klanb
def lanc_st : Stg2 (Addr → Addr → Heap → Heap → Addr → Heap → (Flow → Shared → Prop) → (Value → Shared → Prop) → Nat → Addr → Heap → Bool → Heap → Heap → Nat → Nat → (List (Str × Tok)) → Addr → Obj → Addr → Obj → Addr → (Str → Option Value) → Heap → Nat → (Value → Shared → Prop) → Str → Tok → Prop) (Addr → Addr → Heap → Heap → Addr → Heap → (Flow → Shared → Prop) → (Value → Shared → Prop) → Nat → Addr → Heap → Bool → Heap → (List (Str × Tok)) → Addr → Heap → Nat → Prop) (fun p9 => ∀ x dx h8 gA LA h7 qk ek tk sa h6 led h5 gI k i dl I oIq C oC D m₂ h tk' E' d dt, p9 x dx h8 gA LA h7 qk ek tk sa h6 led h5 gI k i dl I oIq C oC D m₂ h tk' E' d dt) (fun p9 => ∀ x dx h8 gA LA h7 qk ek tk sa h6 led h5 dl la h9 tk9, p9 x dx h8 gA LA h7 qk ek tk sa h6 led h5 dl la h9 tk9) (lanb_S Klanb.g1 Klanb.L1 Klanb.hh1 Klanb.tk1 Klanb.oRq Klanb.oF Klanb.qk Klanb.ek Klanb.da Klanb.dc Klanb.rest' Klanb.d0 Klanb.dr) := by
 refine' Stg2.mk _ _ fun h9lanc h9land => ?hk9
 case hk9 =>
  have e9 : EpsOn := trivial
  unfold lanb_S lana_st
  dsimp only
  intro B F X N hfs hf40 T hk hdp hun FG1 B1 X1 T1 l1 hq9 he9 dR dF cF F1 hv0 N1 hrest hd0 hd2 hdk hdns cR cD
  k_steps
  with_reducible rename News _ _ _ _ => NT
  refine PySem.W.kgr_truthy (lo := listOf ((d0 :: dr).map sV).toArray dc) (vs := (d0 :: dr).map sV) NT (by repeat (first | exact .head _ | apply List.mem_cons_of_mem)) rfl rfl (by rw [List.length_map]; exact Nat.lt_of_le_of_lt hd2 (by decide)) ?_
  rw [show ((d0 :: dr).map sV).isEmpty = false from rfl]
  k_steps
  refine stop_nd ?_
  refine LCg.ListComp_U (F₀ := by k_asm) (by with_unfolding_all rfl) (by decide) (by rfl) (by decide) (by rfl) ?_
  k_steps
  refine stop_nd ?_
  with_reducible rename News _ _ _ (_ :: _ :: _ :: _ :: _ :: _ :: _ :: rest') => NI
  with_reducible rename Fr _ _ _ (fun _ => List.lookup _ _) => FI
  rename_i x dx h8 F8 N8 l13 l2 gA LA h7 FG BA XA TA sa h6 led hs hz l12 h5
  refine LCg.CompSrc.ledger rfl FI NI (its := (((d0 :: dr).map sV)).toArray) (k := dc) (by repeat (first | exact .head _ | apply List.mem_cons_of_mem)) (by rw [List.size_toArray, List.length_map, sizeLine_eq]; omega) ?_
  intro gI
  refine comp_same (R := fun i ys => ∃ dl : List (Str × Tok), ys = dl.map sV ∧ dl.map (·.1) = ((d0 :: dr).take i).map (fun d => fnS d.1)) ⟨[], rfl, by rw [List.take_zero]; simp only [List.map_nil]⟩ ?finI ?stepI
  case stepI =>
   rintro k i ys v hv ⟨dl, rfl, hdl⟩ ih I oIq C oC D m₂ h tk' E' hC hx F4 N4 off4
   obtain ⟨q0, hq0, rfl⟩ : ∃ q0, (d0 :: dr)[i]? = some q0 ∧ v = sV q0 := by
    rw [List.getElem?_toArray, List.getElem?_map, Option.map_eq_some_iff] at hv
    obtain ⟨q, h1, h2⟩ := hv
    exact ⟨q, h1, h2.symm⟩
   obtain ⟨d, dt⟩ := q0
   have hk0 := hdk (d, dt) (List.mem_of_getElem? hq0)
   rename_i v1lanc v2lanc
   revert B F X N hfs hf40 T hk hdp hun FG1 B1 X1 T1 l1 v1lanc v2lanc dR dF cF hv0 hrest hd0 hd2 hdk hdns cR cD F8 N8 l13 l2 FG BA XA TA hq9 he9 hs hz l12 FI NI hdl ih hC F4 N4 off4 hq0 hv hx hk0
   exact h9lanc x dx h8 gA LA h7 qk ek tk sa h6 led h5 gI k i dl I oIq C oC D m₂ h tk' E' d dt
  case finI =>
   rintro ys ⟨dl, rfl, hdl⟩
   unfold FinE
   intro la h9 tk9 F9 N9 off9
   rw [List.size_toArray, List.length_map, List.take_length] at hdl
   (try dsimp only)
   rename_i v1land v2land
   revert B F X N hfs hf40 T hk hdp hun FG1 B1 X1 T1 l1 v1land v2land dR dF cF hv0 hrest hd0 hd2 hdk hdns cR cD F8 N8 l13 l2 FG BA XA TA hq9 he9 hs hz l12 FI NI hdl F9 N9 off9
   exact h9land x dx h8 gA LA h7 qk ek tk sa h6 led h5 dl la h9 tk9
@[irreducible] def lanc_S := lanc_st.p
theorem lanc_eq : lanc_S = lanc_st.p := by unfold lanc_S; rfl
abbrev lanc_u (z9 : (Addr × Addr × Heap × Heap × Addr × Heap) × ((Flow → Shared → Prop) × (Value → Shared → Prop) × Nat × Addr × Heap × Bool) × (Heap × Heap × Nat × Nat × (List (Str × Tok)) × Addr) × (Obj × Addr × Obj × Addr × (Str → Option Value) × Heap) × (Nat × (Value → Shared → Prop) × Str × Tok)) : Prop := u4 (u6 (u6 (u6 (u6 lanc_S z9.1) z9.2.1) z9.2.2.1) z9.2.2.2.1) z9.2.2.2.2
def lanc_c := eps (by walk_at "ne") lanc_u
namespace Klanc
@[irreducible] def x := lanc_c.1.1
@[irreducible] def dx := lanc_c.1.2.1
@[irreducible] def h8 := lanc_c.1.2.2.1
@[irreducible] def gA := lanc_c.1.2.2.2.1
@[irreducible] def LA := lanc_c.1.2.2.2.2.1
@[irreducible] def h7 := lanc_c.1.2.2.2.2.2
@[irreducible] def qk := lanc_c.2.1.1
@[irreducible] def ek := lanc_c.2.1.2.1
@[irreducible] def tk := lanc_c.2.1.2.2.1
@[irreducible] def sa := lanc_c.2.1.2.2.2.1
@[irreducible] def h6 := lanc_c.2.1.2.2.2.2.1
@[irreducible] def led := lanc_c.2.1.2.2.2.2.2
@[irreducible] def h5 := lanc_c.2.2.1.1
@[irreducible] def gI := lanc_c.2.2.1.2.1
@[irreducible] def k := lanc_c.2.2.1.2.2.1
@[irreducible] def i := lanc_c.2.2.1.2.2.2.1
@[irreducible] def dl := lanc_c.2.2.1.2.2.2.2.1
@[irreducible] def I := lanc_c.2.2.1.2.2.2.2.2
@[irreducible] def oIq := lanc_c.2.2.2.1.1
@[irreducible] def C := lanc_c.2.2.2.1.2.1
@[irreducible] def oC := lanc_c.2.2.2.1.2.2.1
@[irreducible] def D := lanc_c.2.2.2.1.2.2.2.1
@[irreducible] def m₂ := lanc_c.2.2.2.1.2.2.2.2.1
@[irreducible] def h := lanc_c.2.2.2.1.2.2.2.2.2
@[irreducible] def tk' := lanc_c.2.2.2.2.1
@[irreducible] def E' := lanc_c.2.2.2.2.2.1
@[irreducible] def d := lanc_c.2.2.2.2.2.2.1
@[irreducible] def dt := lanc_c.2.2.2.2.2.2.2
end Klanc
end
section
open Klans
open Mine.Klanb hiding qk ek
open Klanc
theorem lanc_1 : lanc_S Klanc.x Klanc.dx Klanc.h8 Klanc.gA Klanc.LA Klanc.h7 Klanc.qk Klanc.ek Klanc.tk Klanc.sa Klanc.h6 Klanc.led Klanc.h5 Klanc.gI Klanc.k Klanc.i Klanc.dl Klanc.I Klanc.oIq Klanc.C Klanc.oC Klanc.D Klanc.m₂ Klanc.h Klanc.tk' Klanc.E' Klanc.d Klanc.dt := by
 have e9 : EpsOn := trivial
 unfold lanc_S lanc_st
 dsimp only
 intro B F X N hfs hf40 T hk hdp hun FG1 B1 X1 T1 l1 v1lanc v2lanc dR dF cF hv0 hrest hd0 hd2 hdk hdns cR cD F8 N8 l13 l2 FG BA XA TA hq9 he9 hs hz l12 FI NI hdl ih hC F4 N4 off4 hq0 hv hx hk0
 (try dsimp only)
 k_steps
 refine stop_nd ?_
 refine npath BA F4 XA N4 hk0.ok.hP hk0.ok.hsum hk0.ok.hjl hk0.ok.h0 hk0.ok.hspw hk0.ok.hsp hk0.ok.hA hk0.ok.hB hk0.cut TA rfl (by show dp + 1 + 1 + 1 < 343; omega) (by show un + 3 + 1 + 3 < 240; omega) ?_
 intro h9 tk9 t9 F9 N9
 (try dsimp only)
 k_steps
 refine stop_nd ?_
 refine CompEnd.intro F9 N9 _ (fun _ h => h) off4 (.inr ⟨listOf ((d0 :: dr).map sV).toArray dc, by repeat (first | exact .head _ | apply List.mem_cons_of_mem), rfl, _, rfl⟩) (ih _ ⟨dl ++ [(fnS d, t9)], by rw [List.map_append]; rfl, ?_⟩)
 rw [List.take_add_one, hq0, List.map_append, List.map_append, hdl]
 simp only [Option.toList_some, List.map_cons, List.map_nil]
end
section
open Klans
open Klanb
@[irreducible] def land_S := lanc_st.q
theorem land_eq : land_S = lanc_st.q := by unfold land_S; rfl
abbrev land_u (z9 : (Addr × Addr × Heap × Heap × Addr × Heap) × ((Flow → Shared → Prop) × (Value → Shared → Prop) × Nat × Addr × Heap × Bool) × (Heap × (List (Str × Tok)) × Addr × Heap × Nat)) : Prop := u5 (u6 (u6 land_S z9.1) z9.2.1) z9.2.2
def land_c := eps (by walk_at "ne") land_u
namespace Kland
@[irreducible] def x := land_c.1.1
@[irreducible] def dx := land_c.1.2.1
@[irreducible] def h8 := land_c.1.2.2.1
@[irreducible] def gA := land_c.1.2.2.2.1
@[irreducible] def LA := land_c.1.2.2.2.2.1
@[irreducible] def h7 := land_c.1.2.2.2.2.2
@[irreducible] def qk := land_c.2.1.1
@[irreducible] def ek := land_c.2.1.2.1
@[irreducible] def tk := land_c.2.1.2.2.1
@[irreducible] def sa := land_c.2.1.2.2.2.1
@[irreducible] def h6 := land_c.2.1.2.2.2.2.1
@[irreducible] def led := land_c.2.1.2.2.2.2.2
@[irreducible] def h5 := land_c.2.2.1
@[irreducible] def dl := land_c.2.2.2.1
@[irreducible] def la := land_c.2.2.2.2.1
@[irreducible] def h9 := land_c.2.2.2.2.2.1
@[irreducible] def tk9 := land_c.2.2.2.2.2.2
end Kland
end
section
open Klans
open Mine.Klanb hiding qk ek
open Kland
theorem land_1 : land_S Kland.x Kland.dx Kland.h8 Kland.gA Kland.LA Kland.h7 Kland.qk Kland.ek Kland.tk Kland.sa Kland.h6 Kland.led Kland.h5 Kland.dl Kland.la Kland.h9 Kland.tk9 := by
 have e9 : EpsOn := trivial
 unfold land_S lanc_st
 dsimp only
 intro B F X N hfs hf40 T hk hdp hun FG1 B1 X1 T1 l1 v1land v2land dR dF cF hv0 hrest hd0 hd2 hdk hdns cR cD F8 N8 l13 l2 FG BA XA TA hq9 he9 hs hz l12 FI NI hdl F9 N9 off9
 have o9 := off1_memN off9
 simp only [Off1] at off9
 k_steps
 refine stop_nd ?_
 rename_i h3 h2b od lod hdd hfd apd l1d h1b FB NB Tc kX hh oXq FX NX dX
 have ap5 : ∀ q ∈ (L1 + 1 + 1, oXq) :: (L1 + 1, oF) :: (fa, listOf (fs.map sV).toArray fct) :: (da, listOf ((d0 :: dr).map sV).toArray dc) :: rest', q.1 ≠ x ∧ q.1 ≠ dx ∧ q.1 ≠ sa ∧ q.1 ≠ la ∧ q.1 ≠ h3.objs.size := by
  have key : ∀ q ∈ (L1 + 1 + 1, oXq) :: (L1 + 1, oF) :: (fa, listOf (fs.map sV).toArray fct) :: (da, listOf ((d0 :: dr).map sV).toArray dc) :: rest', @LT.lt Nat _ q.1 dx ∧ q.1 ≠ la ∧ @LT.lt Nat _ q.1 h3.objs.size := fun q hq => by
   rcases List.mem_cons.mp hq with rfl | hq
   ·exact ⟨l13.1, o9 (L1 + 1 + 1, oRq) (by repeat (first | exact .head _ | apply List.mem_cons_of_mem)), l1d.2.2.2.2.1⟩
   ·rcases List.mem_cons.mp hq with rfl | hq
    ·exact ⟨l13.2.1, o9 (L1 + 1, oF) (by repeat (first | exact .head _ | apply List.mem_cons_of_mem)), l1d.2.2.2.2.2.1⟩
    ·rcases List.mem_cons.mp hq with rfl | hq
     ·exact ⟨l13.2.2.1, o9 (fa, listOf (fs.map sV).toArray fct) (by repeat (first | exact .head _ | apply List.mem_cons_of_mem)), l1d.2.2.2.2.2.2.1⟩
     ·rcases List.mem_cons.mp hq with rfl | hq
      ·exact ⟨l13.2.2.2.1, o9 (da, listOf ((d0 :: dr).map sV).toArray dc) (by repeat (first | exact .head _ | apply List.mem_cons_of_mem)), l1d.2.2.2.2.2.2.2.1⟩
      ·exact ⟨allLt_all l13.2.2.2.2 q hq, o9 q (by repeat (first | (with_reducible exact hq) | apply List.mem_cons_of_mem)), allLt_all l1d.2.2.2.2.2.2.2.2 q hq⟩
  intro q hq
  obtain ⟨h1, h2, h4⟩ := key q hq
  have h2' : @LT.lt Nat _ dx x := l2
  have h3' : @LT.lt Nat _ x sa := l12.1
  exact ⟨by intro e; rw [e] at h1; omega, by intro e; rw [e] at h1; omega, by intro e; rw [e] at h1; omega, h2, Nat.ne_of_lt h4⟩
 have nig : x ≠ h3.objs.size ∧ dx ≠ h3.objs.size ∧ sa ≠ h3.objs.size ∧ la ≠ h3.objs.size := ⟨Nat.ne_of_lt l1d.2.2.1, Nat.ne_of_lt l1d.2.2.2.1, Nat.ne_of_lt l1d.2.1, Nat.ne_of_lt l1d.1⟩
 obtain ⟨dlc, hlc⟩ : ∃ dlc, dlc = (dl.map sV).length := ⟨_, rfl⟩
 obtain ⟨e1, e2, e3, t1, t2, t3, NY⟩ : ∃ e1 e2 e3 t1 t2 t3, News g1 L1 hh ((h3.objs.size, od) :: (la, listOf (dl.map sV).toArray dlc) :: (sa, noSet led) :: (x, instObj 321 dx) :: (dx, dictOf (rdD sa la h3.objs.size e1 e2 e3 t1 t2 t3) 3) :: (L1 + 1 + 1, oXq) :: (L1 + 1, oF) :: (fa, listOf (fs.map sV).toArray fct) :: (da, listOf ((d0 :: dr).map sV).toArray dc) :: rest') := ⟨_, _, _, _, _, _, by rw [hlc]; exact NX⟩
 clear NX
 obtain ⟨t0, hdz⟩ : ∃ t0, Obj.IsDictOf (PySem.strKind prog w) od [(Str.ofString "<string>", .int 1 t0)] := ⟨_, hdd⟩
 clear hdd
 have hdl40 : ∀ q ∈ dl, q.1.length ≤ 40 := fun q hq => by
  have : q.1 ∈ dl.map (·.1) := List.mem_map_of_mem hq
  rw [hdl] at this
  obtain ⟨d, hd1, hd2⟩ := List.mem_map.mp this
  rw [← hd2]; exact (hdk d hd1).len
 rw [← hdns] at hdl
 generalize h3.objs.size = ig at ap5 nig NY lod
 rw [← hrest] at NY ap5
 rw [← hv0] at FX
 refine RdV.mk x dx sa la ig led od oXq dl dlc e1 e2 e3 t1 t2 t3 t0 _ _ FX NY ap5 nig lod hdz hdl hdl40 dX
end
section
open Klans
open Klanb
theorem lanc_all (x dx h8 gA LA h7 qk ek tk sa h6 led h5 gI k i dl I oIq C oC D m₂ h tk' E' d dt) : lanc_S x dx h8 gA LA h7 qk ek tk sa h6 led h5 gI k i dl I oIq C oC D m₂ h tk' E' d dt :=
 eps_all (S := lanc_u) lanc_c rfl (by have := lanc_1; with_unfolding_all assumption) ((x, dx, h8, gA, LA, h7), (qk, ek, tk, sa, h6, led), (h5, gI, k, i, dl, I), (oIq, C, oC, D, m₂, h), (tk', E', d, dt))
theorem land_all (x dx h8 gA LA h7 qk ek tk sa h6 led h5 dl la h9 tk9) : land_S x dx h8 gA LA h7 qk ek tk sa h6 led h5 dl la h9 tk9 :=
 eps_all (S := land_u) land_c rfl (by have := land_1; with_unfolding_all assumption) ((x, dx, h8, gA, LA, h7), (qk, ek, tk, sa, h6, led), (h5, dl, la, h9, tk9))
theorem lanb_1 : lanb_S Klanb.g1 Klanb.L1 Klanb.hh1 Klanb.tk1 Klanb.oRq Klanb.oF Klanb.qk Klanb.ek Klanb.da Klanb.dc Klanb.rest' Klanb.d0 Klanb.dr :=
 stg_go2 lanc_st lanc_eq land_eq lanc_all land_all
end
section
open Klans
@[irreducible] def lan1_S := lana_st.r
theorem lan1_eq : lan1_S = lana_st.r := by unfold lan1_S; rfl
abbrev lan1_u (z9 : (Heap × Addr × Obj × Obj × (Flow → Shared → Prop) × (Value → Shared → Prop)) × (Addr × Addr × Addr × Addr × Addr × Bool) × (Obj × Obj × (List (Str × Tok)) × Nat × Int × Int) × (Int × Tok × Tok × Tok × Tok × Heap) × (Nat)) : Prop := u1 (u6 (u6 (u6 (u6 lan1_S z9.1) z9.2.1) z9.2.2.1) z9.2.2.2.1) z9.2.2.2.2
def lan1_c := eps (by walk_at "ne") lan1_u
namespace Klan1
@[irreducible] def g1 := lan1_c.1.1
@[irreducible] def L1 := lan1_c.1.2.1
@[irreducible] def oRq := lan1_c.1.2.2.1
@[irreducible] def oF := lan1_c.1.2.2.2.1
@[irreducible] def qk := lan1_c.1.2.2.2.2.1
@[irreducible] def ek := lan1_c.1.2.2.2.2.2
@[irreducible] def x := lan1_c.2.1.1
@[irreducible] def dx := lan1_c.2.1.2.1
@[irreducible] def sa := lan1_c.2.1.2.2.1
@[irreducible] def la := lan1_c.2.1.2.2.2.1
@[irreducible] def ig := lan1_c.2.1.2.2.2.2.1
@[irreducible] def led := lan1_c.2.1.2.2.2.2.2
@[irreducible] def od := lan1_c.2.2.1.1
@[irreducible] def oXq := lan1_c.2.2.1.2.1
@[irreducible] def dl := lan1_c.2.2.1.2.2.1
@[irreducible] def dlc := lan1_c.2.2.1.2.2.2.1
@[irreducible] def e1 := lan1_c.2.2.1.2.2.2.2.1
@[irreducible] def e2 := lan1_c.2.2.1.2.2.2.2.2
@[irreducible] def e3 := lan1_c.2.2.2.1.1
@[irreducible] def t1 := lan1_c.2.2.2.1.2.1
@[irreducible] def t2 := lan1_c.2.2.2.1.2.2.1
@[irreducible] def t3 := lan1_c.2.2.2.1.2.2.2.1
@[irreducible] def t0 := lan1_c.2.2.2.1.2.2.2.2.1
@[irreducible] def hh := lan1_c.2.2.2.1.2.2.2.2.2
@[irreducible] def tk := lan1_c.2.2.2.2
end Klan1
end
section
open Klans
open Klan1
def lan2_st : Stg2 (Heap → Nat → Tok → Tok → Tok → Heap → Nat → Nat → Addr → Obj → Addr → Obj → Addr → (Str → Option Value) → Heap → Nat → (Value → Shared → Prop) → Tok → Obj → (List (Str × Value)) → (List (Int × Tok)) → Prop) (Heap → Nat → Tok → Tok → Tok → Heap → Obj → (List (Str × Value)) → (List (Int × Tok)) → Addr → Heap → Nat → Prop) (fun p9 => ∀ hR tR t1R u1R v1R gg k i I oIq C oC D m₂ h tk' E' t od kvs as, p9 hR tR t1R u1R v1R gg k i I oIq C oC D m₂ h tk' E' t od kvs as) (fun p9 => ∀ hR tR t1R u1R v1R gg od kvs as Df h3 tk3, p9 hR tR t1R u1R v1R gg od kvs as Df h3 tk3) (lan1_S Klan1.g1 Klan1.L1 Klan1.oRq Klan1.oF Klan1.qk Klan1.ek Klan1.x Klan1.dx Klan1.sa Klan1.la Klan1.ig Klan1.led Klan1.od Klan1.oXq Klan1.dl Klan1.dlc Klan1.e1 Klan1.e2 Klan1.e3 Klan1.t1 Klan1.t2 Klan1.t3 Klan1.t0 Klan1.hh Klan1.tk) := by
 refine' Stg2.mk _ _ fun h9lan2 h9lan3 => ?hk9
 case hk9 =>
  have e9 : EpsOn := trivial
  unfold lan1_S lana_st
  dsimp only
  intro B F X N hfs hf40 T hk hdp hun ret FG1 B1 X1 T1 l1 hq9 he9 dR dF cF FX NY ap5 nig lod hdz hdl hdl40 dX
  (try dsimp only)
  k_steps
  refine stop_nd ?_
  refine LCg.Assign_ListComp_U (F₀ := by exact FX) (by rfl) (by with_unfolding_all rfl) (by with_unfolding_all rfl) (by decide) (by rfl) (by decide) (by rfl) (by rfl) (by rfl) ?_
  k_steps
  refine stop_nd ?_
  refine len_vals (vs := fs.map sV) (News.isList NY (by repeat (first | exact .head _ | apply List.mem_cons_of_mem))) (by rw [List.length_map]; omega) ?_
  rw [show (((fs.map sV).length : Nat) : Int) = 5 by rw [List.length_map, hfs]; rfl]
  clear e9
  k_steps
  refine stop_nd ?_
  rename_i hR tR t1R u1R v1R rgR FR NR kpR
  clear kpR
  refine LCg.CompSrc.range (n := 5) rfl FR NR rgR (by decide) (by first | rfl | decide) (by rw [sizeLine_eq]; exact Nat.le_of_ble_eq_true rfl) ?_
  intro gg
  refine comp_indP (n := 5) (P := fun i v => ∃ t, v = .int (0 + (i : Int)) t) (J := fun i ys news => ∃ (od : Obj) (kvs : List (Str × Value)) (as : List (Int × Tok)), ys = as.map iV ∧ as.map (·.1) = (List.range i).map (gX dns (fs.map (·.1))) ∧ od.IsDictOf (PySem.strKind prog w) kvs ∧ kvs.length ≤ i + 1 ∧
   (∀ j, j < i → ∃ t, valueAt kvs (mS j) = some (.int (gX dns (fs.map (·.1)) j) t)) ∧ (∀ j, i ≤ j → j < 5 → valueAt kvs (mS j) = none) ∧ news = (ig, od) :: (la, listOf (dl.map sV).toArray dlc) :: (sa, noSet led) :: (x, instObj 321 dx) :: (dx, dictOf (rdD sa la ig e1 e2 e3 t1 t2 t3) 3) :: (L1 + 1 + 1, oXq) :: (L1 + 1, oF) :: (fa, listOf (fs.map sV).toArray fct) :: rest) ?fin ?step _ 0 [] _ (Nat.zero_add _) ⟨od, _, [], rfl, rfl, hdz, Nat.le_refl _, fun j hj => absurd hj (Nat.not_lt_zero _), fun j _ hj => m_new j hj _, rfl⟩
  case step =>
   intro k i ys news v W91 hi W92 ih I oIq C oC D m₂ h tk' E' hC hx F3 N3 off nes
   walk_at "hide"
   obtain ⟨t, rfl⟩ := W91
   obtain ⟨od, kvs, as, rfl, has, hod, hkl, hkv, hkn, rfl⟩ := W92
   walk_at "unhide"
   clear FR NR
   rename_i v1lan2 v2lan2
   revert B F X N hfs hf40 T hk hdp hun ret FG1 B1 X1 T1 l1 hq9 he9 dR dF cF v1lan2 v2lan2 ap5 nig lod hdz hdl hdl40 dX rgR hi ih hC F3 nes hx has hod hkl hkv hkn off N3
   exact h9lan2 hR tR t1R u1R v1R gg k i I oIq C oC D m₂ h tk' E' t od kvs as
  case fin =>
   intro ys news W93
   walk_at "hide"
   obtain ⟨od, kvs, as, rfl, has, hod, hkl, hkv, hkn, rfl⟩ := W93
   walk_at "unhide"
   unfold FinA
   intro Df h3 tk3 F3 N3 off3
   clear FR NR
   rename_i v1lan3 v2lan3
   revert B F X N hfs hf40 T hk hdp hun ret FG1 B1 X1 T1 l1 hq9 he9 dR dF cF v1lan3 v2lan3 ap5 nig lod hdz hdl hdl40 dX rgR has hod hkl hkv hkn F3 N3 off3
   exact h9lan3 hR tR t1R u1R v1R gg od kvs as Df h3 tk3
@[irreducible] def lan2_S := lan2_st.p
theorem lan2_eq : lan2_S = lan2_st.p := by unfold lan2_S; rfl
abbrev lan2_u (z9 : (Heap × Nat × Tok × Tok × Tok × Heap) × (Nat × Nat × Addr × Obj × Addr × Obj) × (Addr × (Str → Option Value) × Heap × Nat × (Value → Shared → Prop) × Tok) × (Obj × (List (Str × Value)) × (List (Int × Tok)))) : Prop := u3 (u6 (u6 (u6 lan2_S z9.1) z9.2.1) z9.2.2.1) z9.2.2.2
def lan2_c := eps (by walk_at "ne") lan2_u
namespace Klan2
@[irreducible] def hR := lan2_c.1.1
@[irreducible] def tR := lan2_c.1.2.1
@[irreducible] def t1R := lan2_c.1.2.2.1
@[irreducible] def u1R := lan2_c.1.2.2.2.1
@[irreducible] def v1R := lan2_c.1.2.2.2.2.1
@[irreducible] def gg := lan2_c.1.2.2.2.2.2
@[irreducible] def k := lan2_c.2.1.1
@[irreducible] def i := lan2_c.2.1.2.1
@[irreducible] def I := lan2_c.2.1.2.2.1
@[irreducible] def oIq := lan2_c.2.1.2.2.2.1
@[irreducible] def C := lan2_c.2.1.2.2.2.2.1
@[irreducible] def oC := lan2_c.2.1.2.2.2.2.2
@[irreducible] def D := lan2_c.2.2.1.1
@[irreducible] def m₂ := lan2_c.2.2.1.2.1
@[irreducible] def h := lan2_c.2.2.1.2.2.1
@[irreducible] def tk' := lan2_c.2.2.1.2.2.2.1
@[irreducible] def E' := lan2_c.2.2.1.2.2.2.2.1
@[irreducible] def t := lan2_c.2.2.1.2.2.2.2.2
@[irreducible] def od := lan2_c.2.2.2.1
@[irreducible] def kvs := lan2_c.2.2.2.2.1
@[irreducible] def as := lan2_c.2.2.2.2.2
end Klan2
end
section
open Klans
open Mine.Klan1 hiding od
open Klan2
theorem lan2_1 : lan2_S Klan2.hR Klan2.tR Klan2.t1R Klan2.u1R Klan2.v1R Klan2.gg Klan2.k Klan2.i Klan2.I Klan2.oIq Klan2.C Klan2.oC Klan2.D Klan2.m₂ Klan2.h Klan2.tk' Klan2.E' Klan2.t Klan2.od Klan2.kvs Klan2.as := by
 have e9 : EpsOn := trivial
 unfold lan2_S lan2_st
 dsimp only
 intro B F X N hfs hf40 T hk hdp hun ret FG1 B1 X1 T1 l1 hq9 he9 dR dF cF v1lan2 v2lan2 ap5 nig lod hdz hdl hdl40 dX rgR hi ih hC F3 nes hx has hod hkl hkv hkn off N3
 (try dsimp only)
 k_steps
 refine stop_nd ?_
 obtain ⟨f0, hf0⟩ : ∃ f0, fs[i]? = some f0 := ⟨_, List.getElem?_eq_getElem (by omega)⟩
 revert f0
 intro f0 hf0
 refine kim_list (l := fs.map sV) (lo := listOf (fs.map sV).toArray fct) N3 (by repeat (first | exact .head _ | apply List.mem_cons_of_mem)) rfl rfl (by omega) (by omega) (x := sV f0) (by rw [Int.zero_add, Int.toNat_natCast, List.getElem?_map, hf0]; rfl) ?_
 k_steps
 refine stop_nd ?_
 rename_i tS kS bS
 have ap : Apart [(x, instObj 321 dx), (dx, dictOf (rdD sa la ig e1 e2 e3 t1 t2 t3) 3), (sa, noSet led), (la, listOf (dl.map sV).toArray dlc), (ig, od)] ((I, oIq) :: (C, oC) :: (D, lst (as.map iV)) :: (L1 + 1 + 1, oXq) :: (L1 + 1, oF) :: (fa, listOf (fs.map sV).toArray fct) :: rest) := by
  intro p hp q hq
  have key : ∀ q ∈ [(x, instObj 321 dx), (dx, dictOf (rdD sa la ig e1 e2 e3 t1 t2 t3) 3), (sa, noSet led), (la, listOf (dl.map sV).toArray dlc), (ig, od)], q ∈ (ig, od) :: (la, listOf (dl.map sV).toArray dlc) :: (sa, noSet led) :: (x, instObj 321 dx) :: (dx, dictOf (rdD sa la ig e1 e2 e3 t1 t2 t3) 3) :: (L1 + 1 + 1, oXq) :: (L1 + 1, oF) :: (fa, listOf (fs.map sV).toArray fct) :: rest := fun q hq => by
   refine sub_of ?_ hq
   (try dsimp only [List.cons_append, List.nil_append])
   walk_at "sub"
  have oq := off.mem q (key q hq)
  rcases List.mem_cons.mp hp with rfl | hp
  ·exact oq.1.symm
  ·rcases List.mem_cons.mp hp with rfl | hp
   ·exact oq.2.1.symm
   ·rcases List.mem_cons.mp hp with rfl | hp
    ·exact oq.2.2.symm
    ·have h5 := ap5 p hp
     simp only [List.mem_cons, List.not_mem_nil, or_false] at hq
     rcases hq with rfl | rfl | rfl | rfl | rfl
     ·exact h5.1
     ·exact h5.2.1
     ·exact h5.2.2.1
     ·exact h5.2.2.2.1
     ·exact h5.2.2.2.2
 have hvn := hkn i (Nat.le_refl _) hi
 have hfx : (bif igA dl f0.1 then 1 else 0 : Int) = gX dns (fs.map (·.1)) i := by
  unfold gX
  rw [igN_of, hdl, List.getD_eq_getElem?_getD, List.getElem?_map, hf0]; rfl
 refine rnew (od := od) (kvs := kvs) (mn := mS i) (fn := f0.1) (ft := f0.2) (rest := (I, oIq) :: (C, oC) :: (D, lst (as.map iV)) :: (L1 + 1 + 1, oXq) :: (L1 + 1, oF) :: (fa, listOf (fs.map sV).toArray fct) :: rest) B1 F3 X1 (fun q hq => N3 q ?pm) ap lod hdl40 (hf40 f0 (List.mem_of_getElem? hf0)) hod hvn (by omega) nig.1 nig.2.1 nig.2.2.1 nig.2.2.2 T1 rfl (by show dp + 1 < 350; omega) (by show un + 3 < 300; omega) ?_
 case pm => exact perm5 hq
 intro h7 tk7 o7 t7 tv7 F7 N7 hd7
 rw [hfx] at hd7 ⊢
 (try dsimp only)
 k_steps
 refine stop_nd ?_
 rw [stored_absent hvn] at hd7
 refine CompEnd.intro F7 N7 _ (fun q hq => perm5' hq) off trivial (ih _ _ ⟨o7, _, as ++ [(gX dns (fs.map (·.1)) i, t7)], by rw [List.map_append]; rfl, by rw [List.map_append, has, List.range_succ, List.map_append]; rfl, hd7, by rw [List.length_append]; exact Nat.succ_le_succ hkl, fun j hj => ?_, fun j hj1 hj2 => ?_, rfl⟩)
 ·rw [valueAt_snoc]
  by_cases e : j = i
  ·subst e
   rw [hvn, if_pos rfl]
   exact ⟨_, rfl⟩
  ·obtain ⟨tj, htj⟩ := hkv j (by omega)
   rw [htj]
   exact ⟨_, rfl⟩
 ·rw [valueAt_snoc, hkn j (by omega) hj2, if_neg (fun e => by have := m_inj i hi j hj2 e; omega)]
  rfl
end
section
open Klans
open Klan1
@[irreducible] def lan3_S := lan2_st.q
theorem lan3_eq : lan3_S = lan2_st.q := by unfold lan3_S; rfl
abbrev lan3_u (z9 : (Heap × Nat × Tok × Tok × Tok × Heap) × (Obj × (List (Str × Value)) × (List (Int × Tok)) × Addr × Heap × Nat)) : Prop := u6 (u6 lan3_S z9.1) z9.2
def lan3_c := eps (by walk_at "ne") lan3_u
namespace Klan3
@[irreducible] def hR := lan3_c.1.1
@[irreducible] def tR := lan3_c.1.2.1
@[irreducible] def t1R := lan3_c.1.2.2.1
@[irreducible] def u1R := lan3_c.1.2.2.2.1
@[irreducible] def v1R := lan3_c.1.2.2.2.2.1
@[irreducible] def gg := lan3_c.1.2.2.2.2.2
@[irreducible] def od := lan3_c.2.1
@[irreducible] def kvs := lan3_c.2.2.1
@[irreducible] def as := lan3_c.2.2.2.1
@[irreducible] def Df := lan3_c.2.2.2.2.1
@[irreducible] def h3 := lan3_c.2.2.2.2.2.1
@[irreducible] def tk3 := lan3_c.2.2.2.2.2.2
end Klan3
end
section
open Klans
open Mine.Klan1 hiding od
open Klan3
def lan4_st : Stg2 (Heap → Nat → Tok → Tok → Tok → Heap → Nat → Nat → Addr → Obj → Addr → Obj → Addr → (Str → Option Value) → Heap → Nat → (Value → Shared → Prop) → Tok → (List (Int × Tok)) → Prop) (Heap → Nat → Tok → Tok → Tok → Heap → (List (Int × Tok)) → Addr → Heap → Nat → Prop) (fun p9 => ∀ hR2 tR2 t1R2 u1R2 v1R2 gg2 k i I oIq C oC D m₂ h tk' E' t bs, p9 hR2 tR2 t1R2 u1R2 v1R2 gg2 k i I oIq C oC D m₂ h tk' E' t bs) (fun p9 => ∀ hR2 tR2 t1R2 u1R2 v1R2 gg2 bs D2 h5 tk5, p9 hR2 tR2 t1R2 u1R2 v1R2 gg2 bs D2 h5 tk5) (lan3_S Klan3.hR Klan3.tR Klan3.t1R Klan3.u1R Klan3.v1R Klan3.gg Klan3.od Klan3.kvs Klan3.as Klan3.Df Klan3.h3 Klan3.tk3) := by
 refine' Stg2.mk _ _ fun h9lan4 h9lan5 => ?hk9
 case hk9 =>
  have e9 : EpsOn := trivial
  unfold lan3_S lan2_st
  dsimp only
  intro B F X N hfs hf40 T hk hdp hun ret FG1 B1 X1 T1 l1 hq9 he9 dR dF cF v1lan3 v2lan3 ap5 nig lod hdz hdl hdl40 dX rgR has hod hkl hkv hkn F3 N3 off3
  (try dsimp only)
  k_steps
  refine stop_nd ?_
  refine LCg.ListComp_U (F₀ := by exact F3) (by with_unfolding_all rfl) (by decide) (by rfl) (by decide) (by rfl) ?_
  k_steps
  refine stop_nd ?_
  refine len_vals (vs := fs.map sV) (News.isList N3 (by repeat (first | exact .head _ | apply List.mem_cons_of_mem))) (by rw [List.length_map]; omega) ?_
  rw [show (((fs.map sV).length : Nat) : Int) = 5 by rw [List.length_map, hfs]; rfl]
  clear e9
  k_steps
  refine stop_nd ?_
  rename_i hR2 tR2 t1R2 u1R2 v1R2 rgR2 FR2 NR2 kpR2
  clear kpR2
  refine LCg.CompSrc.range (n := 5) rfl FR2 NR2 rgR2 (by decide) (by first | rfl | decide) (by rw [sizeLine_eq]; exact Nat.le_of_ble_eq_true rfl) ?_
  intro gg2
  refine comp_indP (n := 5) (P := fun i v => ∃ t, v = .int (0 + (i : Int)) t) (J := fun i ys news => ∃ bs : List (Int × Tok), ys = bs.map iV ∧ bs.map (·.1) = (List.range i).map (gX dns (fs.map (·.1))) ∧
   news = (Df, lst (as.map iV)) :: (ig, od) :: (la, listOf (dl.map sV).toArray dlc) :: (sa, noSet led) :: (x, instObj 321 dx) :: (dx, dictOf (rdD sa la ig e1 e2 e3 t1 t2 t3) 3) :: (L1 + 1 + 1, oXq) :: (L1 + 1, oF) :: (fa, listOf (fs.map sV).toArray fct) :: rest) ?fin2 ?step2 _ 0 [] _ (Nat.zero_add _) ⟨[], rfl, rfl, rfl⟩
  case step2 =>
   intro k i ys news v W94 hi W95 ih I oIq C oC D m₂ h tk' E' hC hx F4 N4 off4 nes
   walk_at "hide"
   obtain ⟨t, rfl⟩ := W94
   obtain ⟨bs, rfl, hbs, rfl⟩ := W95
   walk_at "unhide"
   clear FR2 NR2
   rename_i v1lan4 v2lan4
   revert B F X N hfs hf40 T hk hdp hun ret FG1 B1 X1 T1 l1 hq9 he9 dR dF cF v1lan3 v2lan3 ap5 nig lod hdz hdl hdl40 dX rgR has hod hkl hkv hkn v1lan4 v2lan4 off3 rgR2 hi ih hC F4 nes hx hbs off4 N4
   exact h9lan4 hR2 tR2 t1R2 u1R2 v1R2 gg2 k i I oIq C oC D m₂ h tk' E' t bs
  case fin2 =>
   intro ys news W96
   walk_at "hide"
   obtain ⟨bs, rfl, hbs, rfl⟩ := W96
   walk_at "unhide"
   unfold FinE
   intro D2 h5 tk5 F5 N5 off5
   clear FR2 NR2
   rename_i v1lan5 v2lan5
   revert B F X N hfs hf40 T hk hdp hun ret FG1 B1 X1 T1 l1 hq9 he9 dR dF cF v1lan3 v2lan3 ap5 nig lod hdz hdl hdl40 dX rgR has hod hkl hkv hkn v1lan5 v2lan5 off3 rgR2 hbs F5 N5 off5
   exact h9lan5 hR2 tR2 t1R2 u1R2 v1R2 gg2 bs D2 h5 tk5
@[irreducible] def lan4_S := lan4_st.p
theorem lan4_eq : lan4_S = lan4_st.p := by unfold lan4_S; rfl
abbrev lan4_u (z9 : (Heap × Nat × Tok × Tok × Tok × Heap) × (Nat × Nat × Addr × Obj × Addr × Obj) × (Addr × (Str → Option Value) × Heap × Nat × (Value → Shared → Prop) × Tok) × ((List (Int × Tok)))) : Prop := u1 (u6 (u6 (u6 lan4_S z9.1) z9.2.1) z9.2.2.1) z9.2.2.2
def lan4_c := eps (by walk_at "ne") lan4_u
namespace Klan4
@[irreducible] def hR2 := lan4_c.1.1
@[irreducible] def tR2 := lan4_c.1.2.1
@[irreducible] def t1R2 := lan4_c.1.2.2.1
@[irreducible] def u1R2 := lan4_c.1.2.2.2.1
@[irreducible] def v1R2 := lan4_c.1.2.2.2.2.1
@[irreducible] def gg2 := lan4_c.1.2.2.2.2.2
@[irreducible] def k := lan4_c.2.1.1
@[irreducible] def i := lan4_c.2.1.2.1
@[irreducible] def I := lan4_c.2.1.2.2.1
@[irreducible] def oIq := lan4_c.2.1.2.2.2.1
@[irreducible] def C := lan4_c.2.1.2.2.2.2.1
@[irreducible] def oC := lan4_c.2.1.2.2.2.2.2
@[irreducible] def D := lan4_c.2.2.1.1
@[irreducible] def m₂ := lan4_c.2.2.1.2.1
@[irreducible] def h := lan4_c.2.2.1.2.2.1
@[irreducible] def tk' := lan4_c.2.2.1.2.2.2.1
@[irreducible] def E' := lan4_c.2.2.1.2.2.2.2.1
@[irreducible] def t := lan4_c.2.2.1.2.2.2.2.2
@[irreducible] def bs := lan4_c.2.2.2
end Klan4
end
section
open Klans
open Mine.Klan1 hiding od
open Klan3
open Klan4
theorem lan4_1 : lan4_S Klan4.hR2 Klan4.tR2 Klan4.t1R2 Klan4.u1R2 Klan4.v1R2 Klan4.gg2 Klan4.k Klan4.i Klan4.I Klan4.oIq Klan4.C Klan4.oC Klan4.D Klan4.m₂ Klan4.h Klan4.tk' Klan4.E' Klan4.t Klan4.bs := by
 have e9 : EpsOn := trivial
 unfold lan4_S lan4_st
 dsimp only
 intro B F X N hfs hf40 T hk hdp hun ret FG1 B1 X1 T1 l1 hq9 he9 dR dF cF v1lan3 v2lan3 ap5 nig lod hdz hdl hdl40 dX rgR has hod hkl hkv hkn v1lan4 v2lan4 off3 rgR2 hi ih hC F4 nes hx hbs off4 N4
 (try dsimp only)
 k_steps
 refine stop_nd ?_
 rename_i tS kS bS
 have o3 := off1_memN off3
 have key : ∀ q ∈ [(x, instObj 321 dx), (dx, dictOf (rdD sa la ig e1 e2 e3 t1 t2 t3) 3), (sa, noSet led), (la, listOf (dl.map sV).toArray dlc), (ig, od)], q ∈ (ig, od) :: (la, listOf (dl.map sV).toArray dlc) :: (sa, noSet led) :: (x, instObj 321 dx) :: (dx, dictOf (rdD sa la ig e1 e2 e3 t1 t2 t3) 3) :: (L1 + 1 + 1, oXq) :: (L1 + 1, oF) :: (fa, listOf (fs.map sV).toArray fct) :: rest := fun q hq => by
  refine sub_of ?_ hq
  (try dsimp only [List.cons_append, List.nil_append])
  walk_at "sub"
 have ap : Apart [(x, instObj 321 dx), (dx, dictOf (rdD sa la ig e1 e2 e3 t1 t2 t3) 3), (sa, noSet led), (la, listOf (dl.map sV).toArray dlc), (ig, od)] ((I, oIq) :: (C, oC) :: (D, lst (bs.map iV)) :: (Df, lst (as.map iV)) :: (L1 + 1 + 1, oXq) :: (L1 + 1, oF) :: (fa, listOf (fs.map sV).toArray fct) :: rest) := by
  intro p hp q hq
  have oq := off4.mem q (.tail _ (key q hq))
  rcases List.mem_cons.mp hp with rfl | hp
  ·exact oq.1.symm
  ·rcases List.mem_cons.mp hp with rfl | hp
   ·exact oq.2.1.symm
   ·rcases List.mem_cons.mp hp with rfl | hp
    ·exact oq.2.2.symm
    ·rcases List.mem_cons.mp hp with rfl | hp
     ·exact (o3 q (key q hq)).symm
     ·have h5 := ap5 p hp
      simp only [List.mem_cons, List.not_mem_nil, or_false] at hq
      rcases hq with rfl | rfl | rfl | rfl | rfl
      ·exact h5.1
      ·exact h5.2.1
      ·exact h5.2.2.1
      ·exact h5.2.2.2.1
      ·exact h5.2.2.2.2
 obtain ⟨tv, hvs⟩ := hkv i hi
 refine rold (od := od) (kvs := kvs) (mn := mS i) (rest := (I, oIq) :: (C, oC) :: (D, lst (bs.map iV)) :: (Df, lst (as.map iV)) :: (L1 + 1 + 1, oXq) :: (L1 + 1, oF) :: (fa, listOf (fs.map sV).toArray fct) :: rest) B1 F4 X1 (fun q hq => N4 q ?pm) ap lod hdl40 (by decide +kernel) hod hvs (by omega) nig.1 nig.2.1 nig.2.2.1 nig.2.2.2 T1 rfl (by show dp + 1 < 350; omega) (by show un + 3 < 300; omega) ?_
 case pm => exact perm6 hq
 intro h7 tk7 F7 N7
 (try dsimp only)
 k_steps
 refine stop_nd ?_
 refine CompEnd.intro F7 N7 _ (fun q hq => perm6' hq) off4 trivial (ih _ _ ⟨bs ++ [(gX dns (fs.map (·.1)) i, tv)], by rw [List.map_append]; rfl, by rw [List.map_append, hbs, List.range_succ, List.map_append]; rfl, rfl⟩)
end
section
open Klans
open Mine.Klan1 hiding od
open Klan3
@[irreducible] def lan5_S := lan4_st.q
theorem lan5_eq : lan5_S = lan4_st.q := by unfold lan5_S; rfl
abbrev lan5_u (z9 : (Heap × Nat × Tok × Tok × Tok × Heap) × ((List (Int × Tok)) × Addr × Heap × Nat)) : Prop := u4 (u6 lan5_S z9.1) z9.2
def lan5_c := eps (by walk_at "ne") lan5_u
namespace Klan5
@[irreducible] def hR2 := lan5_c.1.1
@[irreducible] def tR2 := lan5_c.1.2.1
@[irreducible] def t1R2 := lan5_c.1.2.2.1
@[irreducible] def u1R2 := lan5_c.1.2.2.2.1
@[irreducible] def v1R2 := lan5_c.1.2.2.2.2.1
@[irreducible] def gg2 := lan5_c.1.2.2.2.2.2
@[irreducible] def bs := lan5_c.2.1
@[irreducible] def D2 := lan5_c.2.2.1
@[irreducible] def h5 := lan5_c.2.2.2.1
@[irreducible] def tk5 := lan5_c.2.2.2.2
end Klan5
end
section
open Klans
open Mine.Klan1 hiding od
open Klan3
open Klan5
theorem lan5_1 : lan5_S Klan5.hR2 Klan5.tR2 Klan5.t1R2 Klan5.u1R2 Klan5.v1R2 Klan5.gg2 Klan5.bs Klan5.D2 Klan5.h5 Klan5.tk5 := by
 have e9 : EpsOn := trivial
 unfold lan5_S lan4_st
 dsimp only
 intro B F X N hfs hf40 T hk hdp hun ret FG1 B1 X1 T1 l1 hq9 he9 dR dF cF v1lan3 v2lan3 ap5 nig lod hdz hdl hdl40 dX rgR has hod hkl hkv hkn v1lan5 v2lan5 off3 rgR2 hbs F5 N5 off5
 have hal : as.length = 5 := by have := congrArg List.length has; rw [List.length_map, List.length_map, List.length_range] at this; exact this
 have hbl : bs.length = 5 := by have := congrArg List.length hbs; rw [List.length_map, List.length_map, List.length_range] at this; exact this
 (try dsimp only)
 k_steps
 refine stop_nd ?_
 show wpAny _ _ (binaryOp .Add (.ref Df) (.ref D2)) _ _ _
 refine kmk_add_lit (its := (as.map iV).toArray) (its2 := (bs.map iV).toArray) (zs := (as ++ bs).map iV) F5 N5 (News.isList N5 (.tail _ (.head _))) (News.isList N5 (.head _)) (by simp) ?_ (by rw [sizeLine_eq]; simp only [List.length_map]; omega)
 intro Dz hz5 FZ NZ lZ
 (try dsimp only)
 k_steps
 with_reducible rename Fr h₀ L _ m => kF
 with_reducible rename News h₀ L _ _ => kN
 refine ret _ _ Dz (as ++ bs) 0 kF (fun q hq => ?_) (fun q hq => Nat.ne_of_lt (lZ q (tl4 (tl4 (.tail _ hq))))) (by rw [List.map_append, has, hbs])
 rcases List.mem_cons.mp hq with rfl | hq
 ·exact kN _ (.head _)
 ·exact kN q (tl4 (tl4 (tl2 hq)))
end
section
open Klans
open Mine.Klan1 hiding od
open Klan3
theorem lan4_all (hR2 tR2 t1R2 u1R2 v1R2 gg2 k i I oIq C oC D m₂ h tk' E' t bs) : lan4_S hR2 tR2 t1R2 u1R2 v1R2 gg2 k i I oIq C oC D m₂ h tk' E' t bs :=
 eps_all (S := lan4_u) lan4_c rfl (by have := lan4_1; with_unfolding_all assumption) ((hR2, tR2, t1R2, u1R2, v1R2, gg2), (k, i, I, oIq, C, oC), (D, m₂, h, tk', E', t), (bs))
theorem lan5_all (hR2 tR2 t1R2 u1R2 v1R2 gg2 bs D2 h5 tk5) : lan5_S hR2 tR2 t1R2 u1R2 v1R2 gg2 bs D2 h5 tk5 :=
 eps_all (S := lan5_u) lan5_c rfl (by have := lan5_1; with_unfolding_all assumption) ((hR2, tR2, t1R2, u1R2, v1R2, gg2), (bs, D2, h5, tk5))
theorem lan3_1 : lan3_S Klan3.hR Klan3.tR Klan3.t1R Klan3.u1R Klan3.v1R Klan3.gg Klan3.od Klan3.kvs Klan3.as Klan3.Df Klan3.h3 Klan3.tk3 :=
 stg_go2 lan4_st lan4_eq lan5_eq lan4_all lan5_all
end
section
open Klans
open Klan1
theorem lan2_all (hR tR t1R u1R v1R gg k i I oIq C oC D m₂ h tk' E' t od kvs as) : lan2_S hR tR t1R u1R v1R gg k i I oIq C oC D m₂ h tk' E' t od kvs as :=
 eps_all (S := lan2_u) lan2_c rfl (by have := lan2_1; with_unfolding_all assumption) ((hR, tR, t1R, u1R, v1R, gg), (k, i, I, oIq, C, oC), (D, m₂, h, tk', E', t), (od, kvs, as))
theorem lan3_all (hR tR t1R u1R v1R gg od kvs as Df h3 tk3) : lan3_S hR tR t1R u1R v1R gg od kvs as Df h3 tk3 :=
 eps_all (S := lan3_u) lan3_c rfl (by have := lan3_1; with_unfolding_all assumption) ((hR, tR, t1R, u1R, v1R, gg), (od, kvs, as, Df, h3, tk3))
theorem lan1_1 : lan1_S Klan1.g1 Klan1.L1 Klan1.oRq Klan1.oF Klan1.qk Klan1.ek Klan1.x Klan1.dx Klan1.sa Klan1.la Klan1.ig Klan1.led Klan1.od Klan1.oXq Klan1.dl Klan1.dlc Klan1.e1 Klan1.e2 Klan1.e3 Klan1.t1 Klan1.t2 Klan1.t3 Klan1.t0 Klan1.hh Klan1.tk :=
 stg_go2 lan2_st lan2_eq lan3_eq lan2_all lan3_all
end
section
open Klans
theorem lana_all (g1 L1 hh1 tk1 oRq oF qk ek) : lana_S g1 L1 hh1 tk1 oRq oF qk ek :=
 eps_all (S := lana_u) lana_c rfl (by have := lana_1; with_unfolding_all assumption) ((g1, L1, hh1, tk1, oRq, oF), (qk, ek))
theorem lanb_all (g1 L1 hh1 tk1 oRq oF qk ek da dc rest' d0 dr) : lanb_S g1 L1 hh1 tk1 oRq oF qk ek da dc rest' d0 dr :=
 eps_all (S := lanb_u) lanb_c rfl (by have := lanb_1; with_unfolding_all assumption) ((g1, L1, hh1, tk1, oRq, oF), (qk, ek, da, dc, rest', d0), (dr))
theorem lan1_all (g1 L1 oRq oF qk ek x dx sa la ig led od oXq dl dlc e1 e2 e3 t1 t2 t3 t0 hh tk) : lan1_S g1 L1 oRq oF qk ek x dx sa la ig led od oXq dl dlc e1 e2 e3 t1 t2 t3 t0 hh tk :=
 eps_all (S := lan1_u) lan1_c rfl (by have := lan1_1; with_unfolding_all assumption) ((g1, L1, oRq, oF, qk, ek), (x, dx, sa, la, ig, led), (od, oXq, dl, dlc, e1, e2), (e3, t1, t2, t3, t0, hh), (tk))
theorem lans_0 : @lans_S prog w p loose mean mg mb dp un gd cn cs a ccd cl outer A₀ base h₀ L m s Q E fa v fs dns fct rest :=
 stg_go3 lana_st lana_eq lanb_eq lan1_eq lana_all lanb_all lan1_all
end
theorem lans {prog w p loose mean mg mb dp un gd cn cs a ccd cl outer A₀ base h₀ L m s Q E fa v fs dns fct rest} : @lans_S prog w p loose mean mg mb dp un gd cn cs a ccd cl outer A₀ base h₀ L m s Q E fa v fs dns fct rest :=
 eps_all (S := lans_u) lans_c rfl (by have := lans_0; with_unfolding_all assumption) ((prog, w, p, loose, mean, mg), (mb, dp, un, gd, cn, cs), (a, ccd, cl, outer, A₀, base), (h₀, L, m, s, Q, E), (fa, v, fs, dns, fct, rest))
end
end Mine
namespace Mine
open TI PyProof.Rows.LCg PyProof.Rows.LCt
namespace SL10
def h9s_eval_ListComp := sT
def h9s_exec_Assign_cons_ListComp := sT
end SL10
open SL10
theorem nOk : namesOk vw (looseW vw lsK) (namesW vw lsK) = true := by
 rw [PySem.W.Fast.te17448422675489707002, PySem.W.Fast.te821141287760084731]; kernel_rfl
theorem iOk : importsNone vw = true := by
 rw [PySem.W.Fast.te2458874890965802552]; kernel_rfl
local macro_rules | `(tactic| k_qdec) => `(tactic| with_reducible first | exact nOk | exact iOk)
theorem ints_back {vs : List Value} {ns : List Int} (h : IntsAre vs ns) : ∃ cu : List (Int × Tok), vs = cu.map iV ∧ cu.map (·.1) = ns := by
 induction h with
 | nil => exact ⟨[], rfl, rfl⟩
 | cons n t _ ih =>
  obtain ⟨cu, rfl, e⟩ := ih
  exact ⟨(n, t) :: cu, rfl, by rw [List.map_cons, e]⟩
def a1_st : Stg (World → Shared → Shared → (Str → Option Value) → (Str → Option Value) → Addr → Value → Value → Addr → Obj → Addr → (List Int) → (List Addr) → Addr → (List Value) → Nat → Obj → Obj → Obj → Obj → Addr → Addr → Addr → Obj → Obj → Nat → Addr → Heap → Obj → Nat → (Str → Option Value) → (List (Int × Tok)) → Prop) (fun p9 => ∀ w s₀ s₁ mg mb fa pm doc wa wo wb sc wd wf vs tk1 o7 o6 o5 o4 D1 l1a D2 qB qA tkA lK hA qL tk m0 cu, p9 w s₀ s₁ mg mb fa pm doc wa wo wb sc wd wf vs tk1 o7 o6 o5 o4 D1 l1a D2 qB qA tkA lK hA qL tk m0 cu) (hdP.1) := by
 refine' Stg.mk _ fun h9a1 => ?hk9
 case hk9 =>
  k_go0
  all_goals try k_fold
  k_steps
  rename_i w s₀ s₁ mg mb G Y fa o pm doc ho hg KX X V GL T B TE TW wa wo M wb wc hcd sc hs hlay hL1 hr1 hl2 wd we wf vs wg hL ra w1 r0 hI hr hc63 hct K0 hD h1 tk1 o7 o6 o5 o4 o3 o2 o1 l5 l4 l3 l2 l1 lf lr X0 D1 ws ha hI5 hC5 hL5 lt1 l1a hb lt2 D2 hc lt3 hd1 hd2 qB dB hd3 qA dA tkA lK hd4 lt4 hA qL FA NA dL
  replace l5 : o7.data = .cell none := l5
  replace l4 : o6.data = .cell none := l4
  replace l3 : o5.data = .cell none := l3
  replace l2 : o4.data = .cell none := l2
  obtain ⟨m0, FA⟩ : ∃ m0, Fr s₁.heap s₁.heap.objs.size hA m0 := ⟨_, FA⟩
  obtain ⟨cu, rfl, hcu⟩ := ints_back hI5
  have hcl : cu.length ≤ 5 := by
   have := congrArg List.length hcu
   rw [List.length_map] at this
   omega
  clear l1 lf lr X0 hcd hD hI5 hL5
  clear X V GL ho hs hlay hL1 hr1 hl2 ra w1 hr G Y
  rename_i v1a1
  revert hg KX T B TE TW M hL r0 hI hc63 hct K0 hC5 lt1 lt2 lt3 dB dA lt4 v1a1 dL l5 l4 l3 l2 FA hcu NA hcl
  exact h9a1 w s₀ s₁ mg mb fa pm doc wa wo wb sc wd wf vs tk1 o7 o6 o5 o4 D1 l1a D2 qB qA tkA lK hA qL tk m0 cu
end Mine
namespace Mine
open TI PyProof.Rows.LCg PyProof.Rows.LCt
namespace SL11
def h9s_eval_ListComp := sT
def h9s_exec_Assign_cons_ListComp := sT
def h9s_CompSrc := sT
def h9s_binaryOp_Add_ref_ref := sT
def h9s_subscriptTail_Name_Slice_ref_ref := sT
end SL11
open SL11
theorem pick_from (vs : List Value) (k : Nat) : (slicePick vs.toArray (some (k : Int)) none none) = (vs.drop k).toArray := slicePick_from' _ _
def lkS (x : Int) : List Str := [vLinks.getD (x.fmod 7).toNat (Str.ofString ""), vLinks.getD ((x.fdiv 7).fmod 7).toNat (Str.ofString "")]
theorem lk_get {lks : List (Str × Tok)} (h : lks.map (·.1) = vLinks) (k : Int) : 0 ≤ k.fmod 7 ∧ k.fmod 7 < 2 ^ 63 ∧ ∃ p t, lks[(k.fmod 7).toNat]? = some (p, t) ∧ p = vLinks.getD (k.fmod 7).toNat (Str.ofString "") := by
 have e : k.fmod 7 = k % 7 := Int.fmod_eq_emod_of_nonneg _ (by decide)
 have h0 : 0 ≤ k.fmod 7 := by rw [e]; exact Int.emod_nonneg _ (by decide)
 have h1 : k.fmod 7 < 7 := by rw [e]; exact Int.emod_lt_of_pos _ (by decide)
 have hl : lks.length = 7 := by have := congrArg List.length h; rw [List.length_map] at this; exact this
 refine ⟨h0, by omega, ?_⟩
 obtain ⟨q, hq⟩ : ∃ q, lks[(k.fmod 7).toNat]? = some q := ⟨_, List.getElem?_eq_getElem (by omega)⟩
 refine ⟨q.1, q.2, hq, ?_⟩
 rw [← h, List.getD_eq_getElem?_getD, List.getElem?_map, hq]; rfl
theorem getD_mem {α : Type} {l : List α} {n : Nat} {d : α} (h : n < l.length) : l.getD n d ∈ l := by
 rw [List.getD_eq_getElem?_getD, List.getElem?_eq_getElem h]
 exact List.getElem_mem h
theorem lk_mem (x : Int) (l : Str) (h : l ∈ lkS x) : l ∈ vLinks := by
 have key : ∀ k : Int, vLinks.getD (k.fmod 7).toNat (Str.ofString "") ∈ vLinks := fun k => by
  have e : k.fmod 7 = k % 7 := Int.fmod_eq_emod_of_nonneg _ (by decide)
  have h0 : 0 ≤ k.fmod 7 := by rw [e]; exact Int.emod_nonneg _ (by decide)
  have h1 : k.fmod 7 < 7 := by rw [e]; exact Int.emod_lt_of_pos _ (by decide)
  exact getD_mem (by show (k.fmod 7).toNat < 7; omega)
 simp only [lkS, List.mem_cons, List.not_mem_nil, or_false] at h
 rcases h with rfl | rfl
 ·exact key x
 ·exact key _
@[irreducible] def a1_S := a1_st.p
theorem a1_eq : a1_S = a1_st.p := by unfold a1_S; rfl
abbrev a1_u (z9 : (World × Shared × Shared × (Str → Option Value) × (Str → Option Value) × Addr) × (Value × Value × Addr × Obj × Addr × (List Int)) × ((List Addr) × Addr × (List Value) × Nat × Obj × Obj) × (Obj × Obj × Addr × Addr × Addr × Obj) × (Obj × Nat × Addr × Heap × Obj × Nat) × ((Str → Option Value) × (List (Int × Tok)))) : Prop := u2 (u6 (u6 (u6 (u6 (u6 a1_S z9.1) z9.2.1) z9.2.2.1) z9.2.2.2.1) z9.2.2.2.2.1) z9.2.2.2.2.2
def a1_c := eps (by walk_at "ne") a1_u
namespace Ka1
@[irreducible] def w := a1_c.1.1
@[irreducible] def s₀ := a1_c.1.2.1
@[irreducible] def s₁ := a1_c.1.2.2.1
@[irreducible] def mg := a1_c.1.2.2.2.1
@[irreducible] def mb := a1_c.1.2.2.2.2.1
@[irreducible] def fa := a1_c.1.2.2.2.2.2
@[irreducible] def pm := a1_c.2.1.1
@[irreducible] def doc := a1_c.2.1.2.1
@[irreducible] def wa := a1_c.2.1.2.2.1
@[irreducible] def wo := a1_c.2.1.2.2.2.1
@[irreducible] def wb := a1_c.2.1.2.2.2.2.1
@[irreducible] def sc := a1_c.2.1.2.2.2.2.2
@[irreducible] def wd := a1_c.2.2.1.1
@[irreducible] def wf := a1_c.2.2.1.2.1
@[irreducible] def vs := a1_c.2.2.1.2.2.1
@[irreducible] def tk1 := a1_c.2.2.1.2.2.2.1
@[irreducible] def o7 := a1_c.2.2.1.2.2.2.2.1
@[irreducible] def o6 := a1_c.2.2.1.2.2.2.2.2
@[irreducible] def o5 := a1_c.2.2.2.1.1
@[irreducible] def o4 := a1_c.2.2.2.1.2.1
@[irreducible] def D1 := a1_c.2.2.2.1.2.2.1
@[irreducible] def l1a := a1_c.2.2.2.1.2.2.2.1
@[irreducible] def D2 := a1_c.2.2.2.1.2.2.2.2.1
@[irreducible] def qB := a1_c.2.2.2.1.2.2.2.2.2
@[irreducible] def qA := a1_c.2.2.2.2.1.1
@[irreducible] def tkA := a1_c.2.2.2.2.1.2.1
@[irreducible] def lK := a1_c.2.2.2.2.1.2.2.1
@[irreducible] def hA := a1_c.2.2.2.2.1.2.2.2.1
@[irreducible] def qL := a1_c.2.2.2.2.1.2.2.2.2.1
@[irreducible] def tk := a1_c.2.2.2.2.1.2.2.2.2.2
@[irreducible] def m0 := a1_c.2.2.2.2.2.1
@[irreducible] def cu := a1_c.2.2.2.2.2.2
end Ka1
section
open Ka1
def a2_st : Stg ((List (Int × Tok)) → Addr → Heap → (List (Int × Tok)) → (List (Str × Tok)) → (List (Str × Tok)) → Prop) (fun p9 => ∀ cv Dx hx xs lks fs, p9 cv Dx hx xs lks fs) (a1_S Ka1.w Ka1.s₀ Ka1.s₁ Ka1.mg Ka1.mb Ka1.fa Ka1.pm Ka1.doc Ka1.wa Ka1.wo Ka1.wb Ka1.sc Ka1.wd Ka1.wf Ka1.vs Ka1.tk1 Ka1.o7 Ka1.o6 Ka1.o5 Ka1.o4 Ka1.D1 Ka1.l1a Ka1.D2 Ka1.qB Ka1.qA Ka1.tkA Ka1.lK Ka1.hA Ka1.qL Ka1.tk Ka1.m0 Ka1.cu) := by
 refine' Stg.mk _ fun h9a2 => ?hk9
 case hk9 =>
  unfold a1_S a1_st
  dsimp only
  intro hg KX T B TE TW M hL r0 hI hc63 hct K0 hC5 lt1 lt2 lt3 dB dA lt4 v1a1 dL l5 l4 l3 l2 FA hcu NA hcl
  show wpAny _ _ (exec (Stmt.Assign _ _ _) _) _ _ _
  refine LCg.Assign_ListComp_U (F₀ := by k_asm) (by rfl) (by with_unfolding_all rfl) (by with_unfolding_all rfl) (by decide) (by rfl) (by decide) (by rfl) (by rfl) (by rfl) ?_
  k_steps
  show wpAny _ _ (call (.builtin "len") [.ref D1]) _ _ _
  refine len_vals (vs := cu.map iV) (by kmk_list) (by rw [List.length_map]; omega) ?_
  k_steps
  show wpAny _ _ (subscriptTail _ (Expr.Slice (some _) none none _) (.ref _) (.ref _)) _ _ _
  with_reducible rename Fr _ _ _ _ => FA
  with_reducible rename News _ _ _ _ => NA
  rename_i Da lta hz1
  have ecl : ((List.map iV cu).length : Int) = (cu.length : Int) := by rw [List.length_map]
  obtain ⟨cv, hcv⟩ : ∃ cv : List (Int × Tok), cv = ([(22, tk), (44, tk + 1), (33, tk + 1 + 1), (46, tk + 1 + 1 + 1), (48, tk + 1 + 1 + 1 + 1)] : List (Int × Tok)).drop cu.length := ⟨_, rfl⟩
  refine kmk_slice_lit (its := ([(22, tk), (44, tk + 1), (33, tk + 1 + 1), (46, tk + 1 + 1 + 1), (48, tk + 1 + 1 + 1 + 1)] : List (Int × Tok)).map iV |>.toArray) (lo := some (cu.length : Int)) (hi := none) (zs := cv.map iV) FA NA (News.isList NA (.head _)) (by rw [ecl]; kmk_part) (by kmk_part) (by rw [pick_from, hcv, List.map_drop]) ?_ (by with_unfolding_all rfl) (by kmk_pure) (by rw [List.size_toArray, List.length_map, sizeLine_eq]; exact Nat.le_of_ble_eq_true rfl)
  intro D5 hy FB NB lb
  have hxl : (cu ++ cv).length = 5 := by
   rw [List.length_append, hcv, List.length_drop]
   simp only [List.length_cons, List.length_nil]
   omega
  have hcvl : cv.length ≤ 5 := by rw [List.length_append] at hxl; omega
  clear FA NA
  k_steps
  show wpAny _ _ (binaryOp .Add (.ref D1) (.ref D5)) _ _ _
  refine kmk_add_lit (its := (cu.map iV).toArray) (its2 := (cv.map iV).toArray) (zs := (cu ++ cv).map iV) FB NB (by kmk_list) (by kmk_list) (by simp) ?_ (by rw [sizeLine_eq]; simp only [List.length_map]; omega)
  intro Dx hx FX NX lX
  generalize hxs : cu ++ cv = xs at *
  have elK : (listOf #[Value.str (Str.ofString "x") tkA, Value.str (Str.ofString "y") (tkA + 1), Value.str (Str.ofString "../b/x") (tkA + 1 + 1), Value.str (Str.ofString "/bz") (tkA + 1 + 1 + 1), Value.str (Str.ofString "/a/../z") (tkA + 1 + 1 + 1 + 1), Value.str (Str.ofString "../a/./y") (tkA + 1 + 1 + 1 + 1 + 1), Value.str (Str.ofString "q") (tkA + 1 + 1 + 1 + 1 + 1 + 1)] 0 : Obj) = listOf (([(Str.ofString "x", tkA), (Str.ofString "y", tkA + 1), (Str.ofString "../b/x", tkA + 1 + 1), (Str.ofString "/bz", tkA + 1 + 1 + 1), (Str.ofString "/a/../z", tkA + 1 + 1 + 1 + 1), (Str.ofString "../a/./y", tkA + 1 + 1 + 1 + 1 + 1), (Str.ofString "q", tkA + 1 + 1 + 1 + 1 + 1 + 1)] : List (Str × Tok)).map sV).toArray 0 := rfl
  have elF : (listOf #[Value.str (Str.ofString "/a/x") (tk1 + 1), Value.str (Str.ofString "/a/y") (tk1 + 1 + 1), Value.str (Str.ofString "/b/x") (tk1 + 1 + 1 + 1), Value.str (Str.ofString "/bz") (tk1 + 1 + 1 + 1 + 1), Value.str (Str.ofString "/z") (tk1 + 1 + 1 + 1 + 1 + 1)] 0 : Obj) = listOf (([(Str.ofString "/a/x", tk1 + 1), (Str.ofString "/a/y", tk1 + 1 + 1), (Str.ofString "/b/x", tk1 + 1 + 1 + 1), (Str.ofString "/bz", tk1 + 1 + 1 + 1 + 1), (Str.ofString "/z", tk1 + 1 + 1 + 1 + 1 + 1)] : List (Str × Tok)).map sV).toArray 0 := rfl
  rw [elK, elF] at NX
  obtain ⟨lks, hlks, elks⟩ : ∃ lks : List (Str × Tok), lks.map (·.1) = vLinks ∧ lks = ([(Str.ofString "x", tkA), (Str.ofString "y", tkA + 1), (Str.ofString "../b/x", tkA + 1 + 1), (Str.ofString "/bz", tkA + 1 + 1 + 1), (Str.ofString "/a/../z", tkA + 1 + 1 + 1 + 1), (Str.ofString "../a/./y", tkA + 1 + 1 + 1 + 1 + 1), (Str.ofString "q", tkA + 1 + 1 + 1 + 1 + 1 + 1)] : List (Str × Tok)) := ⟨_, rfl, rfl⟩
  obtain ⟨fs, hfs, efs⟩ : ∃ fs : List (Str × Tok), fs.map (·.1) = vFiles ∧ fs = ([(Str.ofString "/a/x", tk1 + 1), (Str.ofString "/a/y", tk1 + 1 + 1), (Str.ofString "/b/x", tk1 + 1 + 1 + 1), (Str.ofString "/bz", tk1 + 1 + 1 + 1 + 1), (Str.ofString "/z", tk1 + 1 + 1 + 1 + 1 + 1)] : List (Str × Tok)) := ⟨_, rfl, rfl⟩
  rw [← elks, ← efs] at NX
  replace NX : News s₁.heap s₁.heap.objs.size hx [(Dx, listOf (xs.map iV).toArray 0), (lK, listOf (lks.map sV).toArray 0), (l1a, listOf (fs.map sV).toArray 0), (D1, listOf (cu.map iV).toArray 0), (s₁.heap.objs.size + 1 + 1 + 1 + 1 + 1 + 1 + 1, o7),
   (s₁.heap.objs.size + 1 + 1 + 1 + 1 + 1 + 1, o6), (s₁.heap.objs.size + 1 + 1 + 1 + 1 + 1, o5), (s₁.heap.objs.size + 1 + 1 + 1 + 1, o4), (s₁.heap.objs.size + 1 + 1 + 1, qL), (s₁.heap.objs.size + 1 + 1, qA), (s₁.heap.objs.size + 1, qB)] := news_of NX NX (by k_subL)
  have ltx : @LT.lt Nat _ lK Dx ∧ @LT.lt Nat _ l1a lK ∧ @LT.lt Nat _ D1 l1a ∧ @LT.lt Nat _ (s₁.heap.objs.size + 1 + 1 + 1 + 1 + 1 + 1 + 1) D1 :=
   ⟨lX _ (tl2 (.head _)), lt4.2.1, lt2.1, lt1.1⟩
  clear elK elF elks efs lX lb FB NB lt1 lt2 lt3 lt4 hz1
  dsimp only
  revert hg KX T B TE TW M hL r0 hI hc63 hct K0 hC5 dB dA dL l5 l4 l3 l2 hcu hcl ecl hcv hcvl FX hxs hxl hlks hfs NX ltx
  exact h9a2 cv Dx hx xs lks fs
end
end Mine
namespace Mine
open TI PyProof.Rows.LCg PyProof.Rows.LCt
namespace SL12
def h9s_eval_ListComp := sT
def h9s_exec_Assign_cons_ListComp := sT
def h9s_exec_Assign_cons_DictComp := sT
def h9s_CompSrc := sT
def h9s_CompEnd := sT
def h9s_subscriptTail_Name_BinOp_ref_int := sT
end SL12
open SL12
theorem comp_snoc {h₀ : Heap} {L I C D R : Addr} {m : Str → Option Value} {s₁ : Shared} {oIq oC oD o : Obj} {S : List (Addr × Obj) → Prop} {rest : Value → List (Addr × Obj) → Prop} {y : Value} {h' : Heap} {tk : Nat} (Bs gl : List (Addr × Obj))
  (F : Fr h₀ L h' m) (N : News h₀ L h' ((R, o) :: (I, oIq) :: (C, oC) :: (D, oD) :: (Bs ++ gl))) (off : Off3 I C D (Bs ++ gl)) (hR : @Ne Nat R I ∧ @Ne Nat R C ∧ @Ne Nat R D) (hS : S (Bs ++ (gl ++ [(R, o)]))) (r : rest y (Bs ++ (gl ++ [(R, o)]))) :
  CompEnd h₀ L m s₁ I oIq C oC D oD S rest y { s₁ with heap := h', toks := tk } := by
 refine ⟨h', tk, _, rfl, F, fun q hq => ?_, Off3.of fun q hq => ?_, hS, r⟩
 ·rcases List.mem_cons.mp hq with rfl | hq
  ·exact N _ (.tail _ (.head _))
  ·rcases List.mem_cons.mp hq with rfl | hq
   ·exact N _ (tl2 (.head _))
   ·rcases List.mem_cons.mp hq with rfl | hq
    ·exact N _ (tl3 (.head _))
    ·rcases List.mem_append.mp hq with hq | hq
     ·exact N q (tl4 (List.mem_append_left _ hq))
     ·rcases List.mem_append.mp hq with hq | hq
      ·exact N q (tl4 (List.mem_append_right _ hq))
      ·rw [List.mem_singleton.mp hq]; exact N _ (.head _)
 ·rcases List.mem_append.mp hq with hq | hq
  ·exact off.mem q (List.mem_append_left _ hq)
  ·rcases List.mem_append.mp hq with hq | hq
   ·exact off.mem q (List.mem_append_right _ hq)
   ·rw [List.mem_singleton.mp hq]; exact hR
theorem stop_un {P : Prop} (h : P) : Stop P := h
theorem gls_snoc (rl : List GL) (g : GL) : glsOf (rl ++ [g]) = glsOf rl ++ [(g.ad, g.ob)] := by unfold glsOf; rw [List.map_append]; rfl
theorem takeS {α : Type} {l : List α} {i : Nat} {q : α} (h : l[i]? = some q) : l.take (i + 1) = l.take i ++ [q] := by rw [List.take_add_one, h]; rfl
@[irreducible] def a2_S := a2_st.p
theorem a2_eq : a2_S = a2_st.p := by unfold a2_S; rfl
abbrev a2_u (z9 : (List (Int × Tok)) × Addr × Heap × (List (Int × Tok)) × (List (Str × Tok)) × (List (Str × Tok))) : Prop := u6 a2_S z9
def a2_c := eps (by walk_at "ne") a2_u
namespace Ka2
@[irreducible] def cv := a2_c.1
@[irreducible] def Dx := a2_c.2.1
@[irreducible] def hx := a2_c.2.2.1
@[irreducible] def xs := a2_c.2.2.2.1
@[irreducible] def lks := a2_c.2.2.2.2.1
@[irreducible] def fs := a2_c.2.2.2.2.2
end Ka2
section
open Ka1
open Ka2
def a3_st : Stg ((List GL) → Addr → Heap → Nat → Prop) (fun p9 => ∀ rl Dr h3 tk3, p9 rl Dr h3 tk3) (a2_S Ka2.cv Ka2.Dx Ka2.hx Ka2.xs Ka2.lks Ka2.fs) := by
 refine' Stg.mk _ fun h9a3 => ?hk9
 case hk9 =>
  unfold a2_S a2_st
  dsimp only
  intro hg KX T B TE TW M hL r0 hI hc63 hct K0 hC5 dB dA dL l5 l4 l3 l2 hcu hcl ecl hcv hcvl FX hxs hxl hlks hfs NX ltx
  refine LCg.CompSrc.ledger rfl FX NX (.head _) (by rw [List.size_toArray, List.length_map, sizeLine_eq]; omega) ?_
  intro gg
  refine comp_ind (its := (xs.map iV).toArray) (J := fun i ys news => ∃ rl : List GL, rl.length = i ∧ ys = glVs rl ∧ glNs rl = (xs.take i).map (fun p => lkS p.1) ∧ news = (Dx, listOf (xs.map iV).toArray 0) :: (lK, listOf (lks.map sV).toArray 0) :: (l1a, listOf (fs.map sV).toArray 0) :: (D1, listOf (cu.map iV).toArray 0) :: (s₁.heap.objs.size + 1 + 1 + 1 + 1 + 1 + 1 + 1, o7) :: (s₁.heap.objs.size + 1 + 1 + 1 + 1 + 1 + 1, o6) :: (s₁.heap.objs.size + 1 + 1 + 1 + 1 + 1, o5) :: (s₁.heap.objs.size + 1 + 1 + 1 + 1, o4) :: (s₁.heap.objs.size + 1 + 1 + 1, qL) :: (s₁.heap.objs.size + 1 + 1, qA) :: (s₁.heap.objs.size + 1, qB) :: glsOf rl ∧ ∀ q ∈ glsOf rl, @LT.lt Nat _ (s₁.heap.objs.size + 1 + 1 + 1 + 1 + 1 + 1 + 1) q.1) ?fin ?step _ 0 [] _ (Nat.zero_add _) ⟨[], rfl, rfl, rfl, rfl, fun _ h => (nomatch h)⟩
  case step =>
   intro k i ys news v hv W91 ih I oIq C oC D m₂ h tk' E' hC hx F3 N3 off nes
   walk_at "hide"
   obtain ⟨rl, hrl, rfl, hgl, rfl, hlo⟩ := W91
   walk_at "unhide"
   obtain ⟨q0, hq0, rfl⟩ : ∃ q0, xs[i]? = some q0 ∧ v = iV q0 := by
    rw [List.getElem?_toArray, List.getElem?_map, Option.map_eq_some_iff] at hv
    obtain ⟨q, h1, h2⟩ := hv
    exact ⟨q, h1, h2.symm⟩
   obtain ⟨k0, kt⟩ := q0
   clear FX NX
   (try dsimp only)
   k_steps
   show wpAny _ _ (subscriptTail _ _ (.ref lK) (.int (k0.fmod 7) _)) _ _ _
   walk_at "hide"
   obtain ⟨a0, a1, p1, t1, hp1, ep1⟩ := lk_get hlks k0
   walk_at "unhide"
   refine kim_list (l := lks.map sV) (lo := listOf (lks.map sV).toArray 0) N3 (tl4 (.head _)) rfl rfl a0 a1 (x := sV (p1, t1)) (by rw [List.getElem?_map, hp1]; rfl) ?_
   k_steps
   show wpAny _ _ (subscriptTail _ _ (.ref lK) (.int ((k0.fdiv 7).fmod 7) _)) _ _ _
   walk_at "hide"
   obtain ⟨b0, b1, p2, t2, hp2, ep2⟩ := lk_get hlks (Int.fdiv k0 7)
   walk_at "unhide"
   refine kim_list (l := lks.map sV) (lo := listOf (lks.map sV).toArray 0) N3 (tl4 (.head _)) rfl rfl b0 b1 (x := sV (p2, t2)) (by rw [List.getElem?_map, hp2]; rfl) ?_
   k_steps
   refine stop_un ?_
   rename_i R hR FR NR lR
   refine comp_snoc [(Dx, listOf (xs.map iV).toArray 0), (lK, listOf (lks.map sV).toArray 0), (l1a, listOf (fs.map sV).toArray 0), (D1, listOf (cu.map iV).toArray 0), (s₁.heap.objs.size + 1 + 1 + 1 + 1 + 1 + 1 + 1, o7), (s₁.heap.objs.size + 1 + 1 + 1 + 1 + 1 + 1, o6), (s₁.heap.objs.size + 1 + 1 + 1 + 1 + 1, o5), (s₁.heap.objs.size + 1 + 1 + 1 + 1, o4), (s₁.heap.objs.size + 1 + 1 + 1, qL), (s₁.heap.objs.size + 1 + 1, qA), (s₁.heap.objs.size + 1, qB)] (glsOf rl) FR NR off ⟨Nat.ne_of_gt lR.1, Nat.ne_of_gt lR.2.1, Nat.ne_of_gt lR.2.2.1⟩ (.inr ⟨_, .head _, rfl, _, rfl⟩) (ih _ _ ⟨rl ++ [⟨R, [(p1, t1), (p2, t2)], 0⟩], by rw [List.length_append, hrl]; rfl, by unfold glVs; rw [List.map_append]; rfl, ?_, by rw [gls_snoc]; rfl, fun q hq => ?_⟩)
   rotate_left
   ·rw [gls_snoc] at hq
    rcases List.mem_append.mp hq with hq | hq
    ·exact hlo q hq
    ·rw [List.mem_singleton.mp hq]; exact lR.2.2.2.2.2.2.2.1
   rw [takeS hq0, List.map_append, ← hgl, ep1, ep2]
   unfold glNs
   rw [List.map_append]
   rfl
  case fin =>
   intro ys news W92
   walk_at "hide"
   obtain ⟨rl, hrl, rfl, hgl, rfl, hlo⟩ := W92
   walk_at "unhide"
   unfold FinA
   intro Dr h3 tk3 F3 N3 off3
   rw [List.size_toArray, List.length_map] at hrl hgl
   rw [List.take_of_length_le (Nat.le_refl _)] at hgl
   rw [hxl] at hrl
   clear FX NX
   obtain ⟨_, odr⟩ := off3
   replace N3 : News s₁.heap s₁.heap.objs.size h3 ((Dr, listOf (glVs rl).toArray (glVs rl).length) :: (lK, listOf (lks.map sV).toArray 0) :: (l1a, listOf (fs.map sV).toArray 0) :: (D1, listOf (cu.map iV).toArray 0) :: (s₁.heap.objs.size + 1 + 1 + 1 + 1 + 1 + 1 + 1, o7) :: (s₁.heap.objs.size + 1 + 1 + 1 + 1 + 1 + 1, o6) :: (s₁.heap.objs.size + 1 + 1 + 1 + 1 + 1, o5) :: (s₁.heap.objs.size + 1 + 1 + 1 + 1, o4) :: (s₁.heap.objs.size + 1 + 1 + 1, qL) :: (s₁.heap.objs.size + 1 + 1, qA) :: (s₁.heap.objs.size + 1, qB) :: glsOf rl) := fun q hq => by
    rcases List.mem_cons.mp hq with rfl | hq
    ·exact N3 _ (.head _)
    ·exact N3 q (tl2 hq)
   replace ltx := ltx.2
   dsimp only
   rename_i v1a3
   revert hg KX T B TE TW M hL r0 hI hc63 hct K0 hC5 dB dA dL l5 l4 l3 l2 hcu hcl ecl hcv hcvl hxs hxl hlks hfs hrl hgl hlo F3 v1a3 odr N3 ltx
   exact h9a3 rl Dr h3 tk3
end
end Mine
namespace Mine
open TI PyProof.Rows.LCg PyProof.Rows.LCt
namespace SL13
def h9s_eval_ListComp := sT
def h9s_exec_Assign_cons_ListComp := sT
def h9s_exec_Assign_cons_DictComp := sT
def h9s_CompSrc := sT
def h9s_CompEnd := sT
def h9s_ZEnd := sT
def h9s_call_type_zip := sT
theorem h9r0 : StopRef 249 := trivial
theorem h9r1 : StopRef 235 := trivial
theorem h9r2 : StopRef 256 := trivial
end SL13
open SL13
theorem off1_mem {D : Addr} : ∀ {l : List (Addr × Obj)}, Off1 D l → ∀ p ∈ l, p.1 ≠ D
 | [], _, _, h => nomatch h
 | _ :: _, x, p, h => by
  rcases List.mem_cons.mp h with rfl | h
  ·exact x.1
  ·exact off1_mem x.2 p h
theorem zend_snoc {h₀ : Heap} {L C K D D2 : Addr} {m : Str → Option Value} {s₁ : Shared} {oC oK oD o : Obj} {hid keep A G ld : List (Addr × Obj)} {rest : Value → List (Addr × Obj) → Prop} {v : Value} {h' : Heap} {tk : Nat}
  (F : Fr h₀ L h' m) (N : News h₀ L h' ((D2, o) :: (C, oC) :: (K, oK) :: (D, oD) :: (A ++ (G ++ (ld ++ hid))))) (o1 : Off1 D2 ((C, oC) :: (K, oK) :: (D, oD) :: (A ++ (G ++ (ld ++ hid))))) (off : ZOff C K D hid (A ++ (G ++ ld)))
  (hk : ∀ q ∈ keep, q ∈ A) (r : rest v (A ++ (G ++ (ld ++ [(D2, o)])))) : ZEnd h₀ L m s₁ C oC K oK D oD hid keep rest v { s₁ with heap := h', toks := tk } := by
 have o1 := off1_mem o1
 refine ⟨h', tk, _, rfl, F, fun q hq => ?_, fun q hq => ?_, fun q hq => List.mem_append_left _ (hk q hq), r⟩
 ·simp only [List.mem_cons, List.mem_append, List.not_mem_nil, or_false] at hq
  have key : ∀ q ∈ A ++ (G ++ (ld ++ hid)), News h₀ L h' [q] := fun q hq q' hq' => by
   rw [List.mem_singleton.mp hq']; exact N q (tl4 hq)
  rcases hq with rfl | rfl | rfl | (hq | hq | hq | rfl) | hq
  ·exact N _ (.tail _ (.head _))
  ·exact N _ (tl2 (.head _))
  ·exact N _ (tl3 (.head _))
  ·exact key q (List.mem_append_left _ hq) _ (.head _)
  ·exact key q (List.mem_append_right _ (List.mem_append_left _ hq)) _ (.head _)
  ·exact key q (List.mem_append_right _ (List.mem_append_right _ (List.mem_append_left _ hq))) _ (.head _)
  ·exact N _ (.head _)
  ·exact key q (List.mem_append_right _ (List.mem_append_right _ (List.mem_append_right _ hq))) _ (.head _)
 ·simp only [List.mem_append, List.mem_cons, List.not_mem_nil, or_false] at hq
  rcases hq with hq | hq | hq | rfl
  ·exact off q (List.mem_append_left _ hq)
  ·exact off q (List.mem_append_right _ (List.mem_append_left _ hq))
  ·exact off q (List.mem_append_right _ (List.mem_append_right _ hq))
  ·exact ⟨(o1 _ (.head _)).symm, (o1 _ (.tail _ (.head _))).symm, (o1 _ (tl2 (.head _))).symm, fun q hq => (o1 q (tl3 (List.mem_append_right _ (List.mem_append_right _ (List.mem_append_right _ hq))))).symm⟩
def NC (L : Addr) (l : List (Addr × Obj)) : Prop := ∀ q ∈ l, q.1 ≠ L + 1 + 1 + 1 + 1 + 1 + 1 + 1 ∧ q.1 ≠ L + 1 + 1 + 1 + 1 + 1 + 1 ∧ q.1 ≠ L + 1 + 1 + 1 + 1 + 1 ∧ q.1 ≠ L + 1 + 1 + 1 + 1
theorem NC.append {L : Addr} {a b : List (Addr × Obj)} (h : NC L a) (h' : NC L b) : NC L (a ++ b) := fun q hq => (List.mem_append.mp hq).elim (h q) (h' q)
theorem NC.one {L D : Addr} {o : Obj} (h1 : D ≠ L + 1 + 1 + 1 + 1 + 1 + 1 + 1) (h2 : D ≠ L + 1 + 1 + 1 + 1 + 1 + 1) (h3 : D ≠ L + 1 + 1 + 1 + 1 + 1) (h4 : D ≠ L + 1 + 1 + 1 + 1) : NC L [(D, o)] := fun q hq => by
 rw [List.mem_singleton.mp hq]; exact ⟨h1, h2, h3, h4⟩
theorem stored_new {kvs : List (Str × Value)} {k : Str} {v : Value} (h : k ∉ kvs.map (·.1)) : stored kvs k v = kvs ++ [(k, v)] := by
 unfold stored
 rw [if_neg]
 intro e
 obtain ⟨kv, h1, h2⟩ := List.any_eq_true.mp e
 exact h (List.mem_map.mpr ⟨kv, h1, by simpa using h2⟩)
theorem not_mem_take {l : List Str} (hn : l.Nodup) {i : Nat} {f : Str} (h : l[i]? = some f) : f ∉ l.take i := by
 intro hm
 obtain ⟨j, hj⟩ := List.mem_iff_getElem?.mp hm
 have hji : j < i := by
  have := (List.getElem?_eq_some_iff.mp hj).1
  rw [List.length_take] at this
  omega
 rw [List.getElem?_take_of_lt hji] at hj
 have := (List.getElem?_inj (List.getElem?_eq_some_iff.mp hj).1 hn).mp (hj.trans h.symm)
 omega
theorem vf_nodup : vFiles.Nodup := by decide +kernel
@[irreducible] def a3_S := a3_st.p
theorem a3_eq : a3_S = a3_st.p := by unfold a3_S; rfl
abbrev a3_u (z9 : (List GL) × Addr × Heap × Nat) : Prop := u4 a3_S z9
def a3_c := eps (by walk_at "ne") a3_u
namespace Ka3
@[irreducible] def rl := a3_c.1
@[irreducible] def Dr := a3_c.2.1
@[irreducible] def h3 := a3_c.2.2.1
@[irreducible] def tk3 := a3_c.2.2.2
end Ka3
section
open Ka1
open Ka2
open Ka3
def c13_st : Stg2 (Addr → Addr → Addr → Addr → Addr → Nat → Addr → Obj → Addr → Obj → Addr → Obj → (Str → Option Value) → Heap → Nat → (List (Addr × Obj)) → (Value → Shared → Prop) → (List LD) → GL → Str → Tok → (Int × Tok) → Prop) (Addr → Obj → Heap → Nat → (List LD) → Prop) (fun p9 => ∀ z TI TO i1 i2 i C oC K oK D oD m₂ h tk' hid E' lds r0 f ft q1, p9 z TI TO i1 i2 i C oC K oK D oD m₂ h tk' hid E' lds r0 f ft q1) (fun p9 => ∀ Dl oD hl tkl lds, p9 Dl oD hl tkl lds) (a3_S Ka3.rl Ka3.Dr Ka3.h3 Ka3.tk3) := by
 refine' Stg2.mk _ _ fun h9c13 h9a4 => ?hk9
 case hk9 =>
  unfold a3_S a3_st
  dsimp only
  intro hg KX T B TE TW M hL r0 hI hc63 hct K0 hC5 dB dA dL l5 l4 l3 l2 hcu hcl ecl hcv hcvl hxs hxl hlks hfs hrl hgl hlo F3 v1a3 odr N3 ltx
  k_steps
  refine stop_un ?_
  refine Assign_DictComp_Z (h₀ := s₁.heap) (L := s₁.heap.objs.size) (m := fun z => if z = Str.ofString "rows" then some (.ref Dr) else m0 z) (by rfl) (by with_unfolding_all rfl) (by with_unfolding_all rfl) (fun _ => by rfl) (fun _ => by rfl) (by rfl) (by decide) (by with_unfolding_all rfl) (by rfl) (by rfl) (by rfl) ?_
  k_steps
  show wpAny _ _ (call (.type "zip") [.ref l1a, .ref Dr]) _ _ _
  refine zip_call F3 N3 (tl2 (.head _)) (.head _) ?_
  intro hz z TI TO i1 i2 Z FZ NZ
  refine ⟨z, TI, TO, i1, i2, l1a, Dr, _, _, _, _, _, fun i kvs nw => ∃ lds : List LD, lds.length = i ∧ kvs = ldKvs lds ∧ lds.map (fun d => (d.fl, d.gs.map (·.1))) = ((vFiles.zip (xs.map (·.1))).take i).map (fun p => (p.1, (lkS p.2).map (LG p.1))) ∧
   nw = (Dr, listOf (glVs rl).toArray (glVs rl).length) :: (lK, listOf (lks.map sV).toArray 0) :: (l1a, listOf (fs.map sV).toArray 0) :: (D1, listOf (cu.map iV).toArray 0) :: (s₁.heap.objs.size + 1 + 1 + 1 + 1 + 1 + 1 + 1, o7) :: (s₁.heap.objs.size + 1 + 1 + 1 + 1 + 1 + 1, o6) :: (s₁.heap.objs.size + 1 + 1 + 1 + 1 + 1, o5) :: (s₁.heap.objs.size + 1 + 1 + 1 + 1, o4) :: (s₁.heap.objs.size + 1 + 1 + 1, qL) :: (s₁.heap.objs.size + 1 + 1, qA) :: (s₁.heap.objs.size + 1, qB) :: (glsOf rl ++ ldsOf lds) ∧ NC s₁.heap.objs.size (ldsOf lds), rfl, rfl, Z, tl2 (.head _), .head _, ?sz, ?sl, FZ, NZ, T.nolimit, ⟨[], rfl, rfl, rfl, by rw [show ldsOf [] = [] from rfl, List.append_nil], fun _ h => (nomatch h)⟩, ?step, ?fin⟩
  case sz =>
   have e1 := congrArg List.length hfs
   rw [List.length_map] at e1
   rw [List.size_toArray, List.size_toArray, List.length_map, e1]
   unfold glVs
   rw [List.length_map, hrl]; rfl
  case sl =>
   have e1 := congrArg List.length hfs
   rw [List.length_map] at e1
   rw [List.size_toArray, List.length_map, e1, sizeLine_eq]
   exact Nat.le_of_ble_eq_true rfl
  case step =>
   clear F3 N3 FZ NZ Z
   intro i x y C oC K oK D oD m₂ h tk' kvs nw hid E' hx hy hC hK hm2 hoD hid1 hCD F3 N3 off3 hkeep W91
   walk_at "hide"
   obtain ⟨lds, hll, rfl, hlg, rfl, hlo2⟩ := W91
   walk_at "unhide"
   (try simp only [List.cons_append, List.append_assoc] at N3)
   obtain ⟨q0, hq0, rfl⟩ : ∃ q0, fs[i]? = some q0 ∧ x = sV q0 := by
    rw [List.getElem?_toArray, List.getElem?_map, Option.map_eq_some_iff] at hx
    obtain ⟨q, h1, h2⟩ := hx
    exact ⟨q, h1, h2.symm⟩
   obtain ⟨r0, hr0, rfl⟩ : ∃ r0, rl[i]? = some r0 ∧ y = .ref r0.ad := by
    unfold glVs at hy
    rw [List.getElem?_toArray, List.getElem?_map, Option.map_eq_some_iff] at hy
    obtain ⟨q, h1, h2⟩ := hy
    exact ⟨q, h1, h2.symm⟩
   obtain ⟨f, ft⟩ := q0
   have hvf : vFiles[i]? = some f := by rw [← hfs, List.getElem?_map, hq0]; rfl
   have hfm : f ∈ vFiles := List.mem_of_getElem? hvf
   obtain ⟨q1, hq1, hrg⟩ : ∃ q1, xs[i]? = some q1 ∧ r0.gs.map (·.1) = lkS q1.1 := by
    have e := congrArg (fun l => l[i]?) hgl
    unfold glNs at e
    simp only [List.getElem?_map, hr0, Option.map_some] at e
    obtain ⟨q, h1, h2⟩ := Option.map_eq_some_iff.mp e.symm
    exact ⟨q, h1, h2.symm⟩
   have hrl2 : r0.gs.length = 2 := by
    have := congrArg List.length hrg
    rw [List.length_map] at this
    exact this
   clear hx hy
   (try dsimp only)
   rename_i v1c13
   revert hg KX T B TE TW M hL v1c13 hI hc63 hct K0 hC5 dB dA dL l5 l4 l3 l2 hcu hcl ecl hcv hcvl hxs hxl hlks hfs hrl hgl hlo v1a3 odr ltx hC hid1 hCD F3 hll hoD hlg hlo2 off3 hkeep N3 hr0 hm2 hq0 hK hvf hfm hq1 hrg hrl2
   exact h9c13 z TI TO i1 i2 i C oC K oK D oD m₂ h tk' hid E' lds r0 f ft q1
  case fin =>
   clear F3 N3 FZ NZ Z
   intro Dl oD hl tkl kvs nw FD ND hoD hsD hnD W94
   walk_at "hide"
   obtain ⟨lds, hll, rfl, hlg, rfl, hlo2⟩ := W94
   walk_at "unhide"
   rw [List.size_toArray, List.length_map] at hll hlg
   have e5 : fs.length = 5 := by
    have := congrArg List.length hfs
    rw [List.length_map] at this
    exact this
   rw [e5] at hll hlg
   rw [List.take_of_length_le (by rw [List.length_zip, List.length_map, hxl]; decide)] at hlg
   have hNC : NC s₁.heap.objs.size (glsOf rl ++ ldsOf lds) := NC.append (fun q hq => by
    have : @LT.lt Nat _ (s₁.heap.objs.size + 1 + 1 + 1 + 1 + 1 + 1 + 1) q.1 := hlo q hq
    exact ⟨Nat.ne_of_gt this, by intro e; rw [e] at this; exact absurd this (by omega), by intro e; rw [e] at this; exact absurd this (by omega), by intro e; rw [e] at this; exact absurd this (by omega)⟩) hlo2
   have nDl : (@Ne Nat (s₁.heap.objs.size + 1 + 1 + 1 + 1 + 1 + 1 + 1) Dl) ∧ (@Ne Nat (s₁.heap.objs.size + 1 + 1 + 1 + 1 + 1 + 1) Dl) ∧ (@Ne Nat (s₁.heap.objs.size + 1 + 1 + 1 + 1 + 1) Dl) ∧ (@Ne Nat (s₁.heap.objs.size + 1 + 1 + 1 + 1) Dl) :=
    ⟨hnD _ (tl4 (.head _)), hnD _ (tl4 (.tail _ (.head _))), hnD _ (tl4 (tl2 (.head _))), hnD _ (tl4 (tl3 (.head _))) ⟩
   have nDr : (@Ne Nat (s₁.heap.objs.size + 1 + 1 + 1 + 1 + 1 + 1 + 1) Dr) ∧ (@Ne Nat (s₁.heap.objs.size + 1 + 1 + 1 + 1 + 1 + 1) Dr) ∧ (@Ne Nat (s₁.heap.objs.size + 1 + 1 + 1 + 1 + 1) Dr) ∧ (@Ne Nat (s₁.heap.objs.size + 1 + 1 + 1 + 1) Dr) :=
    ⟨odr.2.2.2.1, odr.2.2.2.2.1, odr.2.2.2.2.2.1, odr.2.2.2.2.2.2.1⟩
   clear hnD odr
   dsimp only
   revert hg KX T B TE TW M hL r0 hI hc63 hct K0 hC5 dB dA dL l5 l4 l3 l2 hcu hcl ecl hcv hcvl hxs hxl hlks hfs hrl hgl hlo v1a3 ltx FD hsD hll hoD hlg hlo2 ND e5 hNC nDl nDr
   exact h9a4 Dl oD hl tkl lds
@[irreducible] def c13_S := c13_st.p
theorem c13_eq : c13_S = c13_st.p := by unfold c13_S; rfl
abbrev c13_u (z9 : (Addr × Addr × Addr × Addr × Addr × Nat) × (Addr × Obj × Addr × Obj × Addr × Obj) × ((Str → Option Value) × Heap × Nat × (List (Addr × Obj)) × (Value → Shared → Prop) × (List LD)) × (GL × Str × Tok × (Int × Tok))) : Prop := u4 (u6 (u6 (u6 c13_S z9.1) z9.2.1) z9.2.2.1) z9.2.2.2
def c13_c := eps (by walk_at "ne") c13_u
namespace Kc13
@[irreducible] def z := c13_c.1.1
@[irreducible] def TI := c13_c.1.2.1
@[irreducible] def TO := c13_c.1.2.2.1
@[irreducible] def i1 := c13_c.1.2.2.2.1
@[irreducible] def i2 := c13_c.1.2.2.2.2.1
@[irreducible] def i := c13_c.1.2.2.2.2.2
@[irreducible] def C := c13_c.2.1.1
@[irreducible] def oC := c13_c.2.1.2.1
@[irreducible] def K := c13_c.2.1.2.2.1
@[irreducible] def oK := c13_c.2.1.2.2.2.1
@[irreducible] def D := c13_c.2.1.2.2.2.2.1
@[irreducible] def oD := c13_c.2.1.2.2.2.2.2
@[irreducible] def m₂ := c13_c.2.2.1.1
@[irreducible] def h := c13_c.2.2.1.2.1
@[irreducible] def tk' := c13_c.2.2.1.2.2.1
@[irreducible] def hid := c13_c.2.2.1.2.2.2.1
@[irreducible] def E' := c13_c.2.2.1.2.2.2.2.1
@[irreducible] def lds := c13_c.2.2.1.2.2.2.2.2
@[irreducible] def r0 := c13_c.2.2.2.1
@[irreducible] def f := c13_c.2.2.2.2.1
@[irreducible] def ft := c13_c.2.2.2.2.2.1
@[irreducible] def q1 := c13_c.2.2.2.2.2.2
end Kc13
end
section
open Ka1
open Ka2
open Ka3
open Kc13
def d13_st : Stg (Heap → Nat → Nat → Addr → Obj → Addr → Obj → Addr → (Str → Option Value) → Heap → Nat → (Value → Shared → Prop) → (List (Str × Tok)) → Str → Tok → Prop) (fun p9 => ∀ gg2 k2 i2 I2 oI2 C2 oC2 D2 m3 h2 tk2 E2 gq l lt, p9 gg2 k2 i2 I2 oI2 C2 oC2 D2 m3 h2 tk2 E2 gq l lt) (c13_S Kc13.z Kc13.TI Kc13.TO Kc13.i1 Kc13.i2 Kc13.i Kc13.C Kc13.oC Kc13.K Kc13.oK Kc13.D Kc13.oD Kc13.m₂ Kc13.h Kc13.tk' Kc13.hid Kc13.E' Kc13.lds Kc13.r0 Kc13.f Kc13.ft Kc13.q1) := by
 refine' Stg.mk _ fun h9d13 => ?hk9
 case hk9 =>
  unfold c13_S c13_st
  dsimp only
  intro hg KX T B TE TW M hL v1c13 hI hc63 hct K0 hC5 dB dA dL l5 l4 l3 l2 hcu hcl ecl hcv hcvl hxs hxl hlks hfs hrl hgl hlo v1a3 odr ltx hC hid1 hCD F3 hll hoD hlg hlo2 off3 hkeep N3 hr0 hm2 hq0 hK hvf hfm hq1 hrg hrl2
  k_steps
  refine stop_un ?_
  refine LCg.ListComp_U (F₀ := by exact F3) (by with_unfolding_all rfl) (by decide) (by rfl) (by decide) (by rfl) ?_
  k_steps
  refine stop_un ?_
  have hjm : (r0.ad, r0.ob) ∈ (C, oC) :: (K, oK) :: (D, oD) :: (Dr, listOf (glVs rl).toArray (glVs rl).length) :: (lK, listOf (lks.map sV).toArray 0) :: (l1a, listOf (fs.map sV).toArray 0) :: (D1, listOf (cu.map iV).toArray 0) :: (s₁.heap.objs.size + 1 + 1 + 1 + 1 + 1 + 1 + 1, o7) :: (s₁.heap.objs.size + 1 + 1 + 1 + 1 + 1 + 1, o6) :: (s₁.heap.objs.size + 1 + 1 + 1 + 1 + 1, o5) :: (s₁.heap.objs.size + 1 + 1 + 1 + 1, o4) :: (s₁.heap.objs.size + 1 + 1 + 1, qL) :: (s₁.heap.objs.size + 1 + 1, qA) :: (s₁.heap.objs.size + 1, qB) :: (glsOf rl ++ (ldsOf lds ++ hid)) := tl4 (tl4 (tl4 (tl2 (List.mem_append_left _ (List.mem_map.mpr ⟨r0, List.mem_of_getElem? hr0, rfl⟩)))))
  refine LCg.CompSrc.ledger rfl F3 N3 hjm (by rw [List.size_toArray, List.length_map, hrl2, sizeLine_eq]; exact Nat.le_of_ble_eq_true rfl) ?_
  intro gg2
  refine comp_ind (its := (r0.gs.map sV).toArray) (J := fun i2 ys2 news2 => ∃ gq : List (Str × Tok), ys2 = gq.map sV ∧ gq.map (·.1) = (r0.gs.take i2).map (fun p => LG f p.1) ∧ news2 = (C, oC) :: (K, oK) :: (D, oD) :: (Dr, listOf (glVs rl).toArray (glVs rl).length) :: (lK, listOf (lks.map sV).toArray 0) :: (l1a, listOf (fs.map sV).toArray 0) :: (D1, listOf (cu.map iV).toArray 0) :: (s₁.heap.objs.size + 1 + 1 + 1 + 1 + 1 + 1 + 1, o7) :: (s₁.heap.objs.size + 1 + 1 + 1 + 1 + 1 + 1, o6) :: (s₁.heap.objs.size + 1 + 1 + 1 + 1 + 1, o5) :: (s₁.heap.objs.size + 1 + 1 + 1 + 1, o4) :: (s₁.heap.objs.size + 1 + 1 + 1, qL) :: (s₁.heap.objs.size + 1 + 1, qA) :: (s₁.heap.objs.size + 1, qB) :: (glsOf rl ++ (ldsOf lds ++ hid))) ?fin2 ?step2 _ 0 [] _ (Nat.zero_add _) ⟨[], rfl, by rw [List.take_zero]; simp only [List.map_nil], rfl⟩
  case step2 =>
   intro k2 i2 ys2 news2 v2 hv2 W92 ih2 I2 oI2 C2 oC2 D2 m3 h2 tk2 E2 hC2 hx2 F4 N4 off4 nes4
   walk_at "hide"
   obtain ⟨gq, rfl, hgq, rfl⟩ := W92
   walk_at "unhide"
   obtain ⟨q2, hq2, rfl⟩ : ∃ q2, r0.gs[i2]? = some q2 ∧ v2 = sV q2 := by
    rw [List.getElem?_toArray, List.getElem?_map, Option.map_eq_some_iff] at hv2
    obtain ⟨q, h1, h2⟩ := hv2
    exact ⟨q, h1, h2.symm⟩
   obtain ⟨l, lt⟩ := q2
   have hlm : l ∈ vLinks := lk_mem q1.1 l (by rw [← hrg]; exact List.mem_map.mpr ⟨_, List.mem_of_getElem? hq2, rfl⟩)
   have hll20 := (llen l hlm).1
   clear F3 N3
   (try dsimp only)
   revert hg KX T B TE TW M hL v1c13 hI hc63 hct K0 hC5 dB dA dL l5 l4 l3 l2 hcu hcl ecl hcv hcvl hxs hxl hlks hfs hrl hgl hlo v1a3 odr ltx hC hid1 hCD hll hoD hlg hlo2 off3 hkeep hr0 hm2 hq0 hK hvf hfm hq1 hrg hrl2 hjm ih2 hC2 F4 nes4 hgq off4 N4 hq2 hv2 hx2 hlm hll20
   exact h9d13 gg2 k2 i2 I2 oI2 C2 oC2 D2 m3 h2 tk2 E2 gq l lt
  case fin2 =>
   intro ys2 news2 W93
   walk_at "hide"
   obtain ⟨gq, rfl, hgq, rfl⟩ := W93
   walk_at "unhide"
   unfold FinE
   intro D2 h2 tk2 F4 N4 off4
   rw [List.size_toArray, List.length_map, List.take_length] at hgq
   clear F3 N3
   refine zend_snoc (A := [(Dr, listOf (glVs rl).toArray (glVs rl).length), (lK, listOf (lks.map sV).toArray 0), (l1a, listOf (fs.map sV).toArray 0), (D1, listOf (cu.map iV).toArray 0), (s₁.heap.objs.size + 1 + 1 + 1 + 1 + 1 + 1 + 1, o7), (s₁.heap.objs.size + 1 + 1 + 1 + 1 + 1 + 1, o6), (s₁.heap.objs.size + 1 + 1 + 1 + 1 + 1, o5), (s₁.heap.objs.size + 1 + 1 + 1 + 1, o4), (s₁.heap.objs.size + 1 + 1 + 1, qL), (s₁.heap.objs.size + 1 + 1, qA), (s₁.heap.objs.size + 1, qB)]) (G := glsOf rl) (ld := ldsOf lds) F4 N4 off4 off3 (fun q hq => ?_) ⟨f, strKind_is _ _ _ _, lds ++ [⟨f, D2, gq, (gq.map sV).length⟩], ?_, ?_, ?_, ?_, ?_⟩
   ·simp only [List.mem_cons, List.not_mem_nil, or_false] at hq
    rcases hq with rfl | rfl
    ·exact tl2 (.head _)
    ·exact .head _
   ·rw [List.length_append, hll]; rfl
   ·have hk : (ldKvs lds).map (·.1) = vFiles.take i := by
     have e := congrArg (fun l => l.map (·.1)) hlg
     rw [List.map_map, List.map_map] at e
     rw [show (ldKvs lds).map (·.1) = lds.map (fun d => d.fl) by unfold ldKvs; rw [List.map_map]; rfl]
     refine Eq.trans e ?_
     rw [show (Prod.fst ∘ fun p : Str × Int => (p.1, (lkS p.2).map (LG p.1))) = (fun p : Str × Int => p.1) from rfl, List.map_take, List.map_fst_zip (by rw [List.length_map, hxl]; decide)]
    rw [stored_new (by rw [hk]; exact not_mem_take vf_nodup hvf)]
    unfold ldKvs
    rw [List.map_append]; rfl
   ·have hz : (vFiles.zip (xs.map (·.1)))[i]? = some (f, q1.1) := by
     rw [List.getElem?_zip_eq_some]
     exact ⟨hvf, by rw [List.getElem?_map, hq1]; rfl⟩
    have hgq' : gq.map (·.1) = (lkS q1.1).map (LG f) := by
     rw [hgq, ← hrg, List.map_map]; rfl
    rw [takeS hz, List.map_append, List.map_append, hlg, List.map_cons, List.map_cons, List.map_nil, List.map_nil, hgq']
   ·unfold ldsOf
    rw [List.map_append]; rfl
   ·have e : ldsOf (lds ++ [⟨f, D2, gq, (gq.map sV).length⟩]) = ldsOf lds ++ [(D2, listOf (gq.map sV).toArray (gq.map sV).length)] := by
     unfold ldsOf
     rw [List.map_append]; rfl
    rw [e]
    have o4 := off1_mem off4
    exact NC.append hlo2 (NC.one (fun e => o4 _ (tl4 (tl3 (.head _))) e.symm) (fun e => o4 _ (tl4 (tl4 (.head _))) e.symm) (fun e => o4 _ (tl4 (tl4 (.tail _ (.head _)))) e.symm)
     (fun e => o4 _ (tl4 (tl4 (tl2 (.head _)))) e.symm))
@[irreducible] def d13_S := d13_st.p
theorem d13_eq : d13_S = d13_st.p := by unfold d13_S; rfl
abbrev d13_u (z9 : (Heap × Nat × Nat × Addr × Obj × Addr) × (Obj × Addr × (Str → Option Value) × Heap × Nat × (Value → Shared → Prop)) × ((List (Str × Tok)) × Str × Tok)) : Prop := u3 (u6 (u6 d13_S z9.1) z9.2.1) z9.2.2
def d13_c := eps (by walk_at "ne") d13_u
namespace Kd13
@[irreducible] def gg2 := d13_c.1.1
@[irreducible] def k2 := d13_c.1.2.1
@[irreducible] def i2 := d13_c.1.2.2.1
@[irreducible] def I2 := d13_c.1.2.2.2.1
@[irreducible] def oI2 := d13_c.1.2.2.2.2.1
@[irreducible] def C2 := d13_c.1.2.2.2.2.2
@[irreducible] def oC2 := d13_c.2.1.1
@[irreducible] def D2 := d13_c.2.1.2.1
@[irreducible] def m3 := d13_c.2.1.2.2.1
@[irreducible] def h2 := d13_c.2.1.2.2.2.1
@[irreducible] def tk2 := d13_c.2.1.2.2.2.2.1
@[irreducible] def E2 := d13_c.2.1.2.2.2.2.2
@[irreducible] def gq := d13_c.2.2.1
@[irreducible] def l := d13_c.2.2.2.1
@[irreducible] def lt := d13_c.2.2.2.2
end Kd13
end
section
open Mine.Ka1 hiding D2
open Ka2
open Ka3
open Mine.Kc13 hiding i2
open Kd13
theorem d13_1 : d13_S Kd13.gg2 Kd13.k2 Kd13.i2 Kd13.I2 Kd13.oI2 Kd13.C2 Kd13.oC2 Kd13.D2 Kd13.m3 Kd13.h2 Kd13.tk2 Kd13.E2 Kd13.gq Kd13.l Kd13.lt := by
 unfold d13_S d13_st
 dsimp only
 intro hg KX T B TE TW M hL v1c13 hI hc63 hct K0 hC5 dB dA dL l5 l4 l3 l2 hcu hcl ecl hcv hcvl hxs hxl hlks hfs hrl hgl hlo v1a3 odr ltx hC hid1 hCD hll hoD hlg hlo2 off3 hkeep hr0 hm2 hq0 hK hvf hfm hq1 hrg hrl2 hjm ih2 hC2 F4 nes4 hgq off4 N4 hq2 hv2 hx2 hlm hll20
 k_steps
 refine stop_un ?_
 refine dnmF (fok f hfm) K0 F4 KX N4 T rfl (by decide) (by decide) ?_
 clear F4 N4
 intro h4 tk4 t4 F4 N4
 k_steps
 refine stop_un ?_
 refine jnF (fok f hfm) (Nat.le_trans hll20 (by decide)) K0 F4 KX N4 T rfl (by decide) (by decide) ?_
 clear F4 N4
 intro h5 tk5 t5 F4 N4
 k_steps
 refine stop_un ?_
 refine nrmF (lok f hfm l hlm) K0 F4 KX N4 T rfl (by decide) (by decide) ?_
 clear F4 N4
 intro h6 tk6 t6 F4 N4
 k_steps
 refine stop_un ?_
 refine CompEnd.intro F4 N4 _ (fun _ h => h) off4 (.inr ⟨_, hjm, rfl, _, rfl⟩) (ih2 _ _ ⟨gq ++ [(LG f l, t6)], by rw [List.map_append]; rfl, ?_, rfl⟩)
 rw [takeS hq2, List.map_append, List.map_append, hgq]
 simp only [List.map_cons, List.map_nil]
end
section
open Ka1
open Ka2
open Ka3
open Kc13
theorem d13_all (gg2 k2 i2 I2 oI2 C2 oC2 D2 m3 h2 tk2 E2 gq l lt) : d13_S gg2 k2 i2 I2 oI2 C2 oC2 D2 m3 h2 tk2 E2 gq l lt :=
 eps_all (S := d13_u) d13_c rfl (by have := d13_1; with_unfolding_all assumption) ((gg2, k2, i2, I2, oI2, C2), (oC2, D2, m3, h2, tk2, E2), (gq, l, lt))
theorem c13_1 : c13_S Kc13.z Kc13.TI Kc13.TO Kc13.i1 Kc13.i2 Kc13.i Kc13.C Kc13.oC Kc13.K Kc13.oK Kc13.D Kc13.oD Kc13.m₂ Kc13.h Kc13.tk' Kc13.hid Kc13.E' Kc13.lds Kc13.r0 Kc13.f Kc13.ft Kc13.q1 :=
 stg_go d13_st d13_eq d13_all
end
section
open Ka1
open Ka2
open Ka3
theorem c13_all (z TI TO i1 i2 i C oC K oK D oD m₂ h tk' hid E' lds r0 f ft q1) : c13_S z TI TO i1 i2 i C oC K oK D oD m₂ h tk' hid E' lds r0 f ft q1 :=
 eps_all (S := c13_u) c13_c rfl (by have := c13_1; with_unfolding_all assumption) ((z, TI, TO, i1, i2, i), (C, oC, K, oK, D, oD), (m₂, h, tk', hid, E', lds), (r0, f, ft, q1))
def a4_st : Stg (Addr → Obj → Heap → Nat → (List LD) → Prop) (fun p9 => ∀ Dl oD hl tkl lds, p9 Dl oD hl tkl lds) (a3_S Ka3.rl Ka3.Dr Ka3.h3 Ka3.tk3) := Stg.mk c13_st.q (stg_h2 c13_st c13_eq c13_all)
end
end Mine
namespace Mine
open TI PyProof.Rows.LCg PyProof.Rows.LCt
namespace SL14
def h9s_eval_ListComp := sT
def h9s_exec_Assign_cons_ListComp := sT
def h9s_CompSrc := sT
def h9s_CompSrcT := sT
def h9s_CompEnd := sT
def h9s_ZEnd := sT
def h9s_call_type_zip := sT
theorem h9r0 : StopRef 344 := trivial
end SL14
open SL14
@[irreducible] def a4_S := a4_st.p
theorem a4_eq : a4_S = a4_st.p := by unfold a4_S; rfl
abbrev a4_u (z9 : Addr × Obj × Heap × Nat × (List LD)) : Prop := u5 a4_S z9
def a4_c := eps (by walk_at "ne") a4_u
namespace Ka4
@[irreducible] def Dl := a4_c.1
@[irreducible] def oD := a4_c.2.1
@[irreducible] def hl := a4_c.2.2.1
@[irreducible] def tkl := a4_c.2.2.2.1
@[irreducible] def lds := a4_c.2.2.2.2
end Ka4
section
open Ka1
open Ka2
open Ka3
open Ka4
def a5_st : Stg (Addr → Heap → Obj → Nat → (List GL) → Prop) (fun p9 => ∀ Wy hz7 oWq tk wl, p9 Wy hz7 oWq tk wl) (a4_S Ka4.Dl Ka4.oD Ka4.hl Ka4.tkl Ka4.lds) := by
 refine' Stg.mk _ fun h9a5 => ?hk9
 case hk9 =>
  unfold a4_S a4_st c13_st
  dsimp only
  intro hg KX T B TE TW M hL r0 hI hc63 hct K0 hC5 dB dA dL l5 l4 l3 l2 hcu hcl ecl hcv hcvl hxs hxl hlks hfs hrl hgl hlo v1a3 ltx FD hsD hll hoD hlg hlo2 ND e5 hNC nDl nDr
  walk_at "hide"
  obtain ⟨z1, z2, z3, z4, z5⟩ := (fun c _ => by and_intros <;> exact neN (by omega) : ∀ c, c = s₁.heap.objs.size + 1 + 1 + 1 + 1 → Dl ≠ c ∧ Dr ≠ c ∧ lK ≠ c ∧ l1a ≠ c ∧ D1 ≠ c) _ rfl
  walk_at "unhide"
  have c4 : ∀ q ∈ glsOf rl ++ ldsOf lds, q.1 ≠ s₁.heap.objs.size + 1 + 1 + 1 + 1 := fun q hq => (hNC q hq).2.2.2
  k_steps
  refine stop_un ?_
  with_reducible rename Fr s₁.heap s₁.heap.objs.size _ _ => FA
  with_reducible rename News s₁.heap s₁.heap.objs.size _ _ => NA
  rename_i w1 hz1 q1 w2 hz2 q2 w3 hz3 q3 w4 hz4 q4 w5 hz5 q5 Wy hz6 q6 hz7 oWq dW
  obtain ⟨wl, ewl⟩ : ∃ wl : List GL, wl = [⟨w1, [(Str.ofString "a", tkl), (Str.ofString "x", tkl + 1)], 0⟩, ⟨w2, [(Str.ofString "a", tkl + 1 + 1), (Str.ofString "y", tkl + 1 + 1 + 1)], 0⟩, ⟨w3, [(Str.ofString "b", tkl + 1 + 1 + 1 + 1), (Str.ofString "x", tkl + 1 + 1 + 1 + 1 + 1)], 0⟩, ⟨w4, [(Str.ofString "bz", tkl + 1 + 1 + 1 + 1 + 1 + 1)], 0⟩, ⟨w5, [(Str.ofString "z", tkl + 1 + 1 + 1 + 1 + 1 + 1 + 1)], 0⟩] := ⟨_, rfl⟩
  have hwl : glNs wl = wayS := by rw [ewl]; rfl
  have NB : News s₁.heap s₁.heap.objs.size hz7 ((Wy, listOf (glVs wl).toArray 0) :: (Dl, oD) :: (Dr, listOf (glVs rl).toArray (glVs rl).length) :: (lK, listOf (lks.map sV).toArray 0) :: (l1a, listOf (fs.map sV).toArray 0) :: (D1, listOf (cu.map iV).toArray 0) :: (s₁.heap.objs.size + 1 + 1 + 1 + 1 + 1 + 1 + 1, o7) :: (s₁.heap.objs.size + 1 + 1 + 1 + 1 + 1 + 1, o6) :: (s₁.heap.objs.size + 1 + 1 + 1 + 1 + 1, o5) :: (s₁.heap.objs.size + 1 + 1 + 1 + 1, oWq) :: (s₁.heap.objs.size + 1 + 1 + 1, qL) :: (s₁.heap.objs.size + 1 + 1, qA) :: (s₁.heap.objs.size + 1, qB) :: (glsOf rl ++ (ldsOf lds ++ glsOf wl))) := by
   intro q hq
   rw [ewl] at hq
   rcases List.mem_cons.mp hq with rfl | hq
   ·exact NA _ (.head _)
   ·have NT := fun q hq => NA q (tl4 (tl2 hq))
    have hq : q ∈ [(Dl, oD), (Dr, listOf (glVs rl).toArray (glVs rl).length), (lK, listOf (lks.map sV).toArray 0), (l1a, listOf (fs.map sV).toArray 0), (D1, listOf (cu.map iV).toArray 0), (s₁.heap.objs.size + 1 + 1 + 1 + 1 + 1 + 1 + 1, o7), (s₁.heap.objs.size + 1 + 1 + 1 + 1 + 1 + 1, o6), (s₁.heap.objs.size + 1 + 1 + 1 + 1 + 1, o5), (s₁.heap.objs.size + 1 + 1 + 1 + 1, oWq), (s₁.heap.objs.size + 1 + 1 + 1, qL), (s₁.heap.objs.size + 1 + 1, qA), (s₁.heap.objs.size + 1, qB)] ++ (glsOf rl ++ (ldsOf lds ++ glsOf [⟨w1, [(Str.ofString "a", tkl), (Str.ofString "x", tkl + 1)], 0⟩, ⟨w2, [(Str.ofString "a", tkl + 1 + 1), (Str.ofString "y", tkl + 1 + 1 + 1)], 0⟩, ⟨w3, [(Str.ofString "b", tkl + 1 + 1 + 1 + 1), (Str.ofString "x", tkl + 1 + 1 + 1 + 1 + 1)], 0⟩, ⟨w4, [(Str.ofString "bz", tkl + 1 + 1 + 1 + 1 + 1 + 1)], 0⟩, ⟨w5, [(Str.ofString "z", tkl + 1 + 1 + 1 + 1 + 1 + 1 + 1)], 0⟩])) := hq
    rcases List.mem_append.mp hq with hq | hq
    ·exact NT q (List.mem_append_left (bs := glsOf rl ++ ldsOf lds) hq)
    ·rw [← List.append_assoc] at hq
     rcases List.mem_append.mp hq with hq | hq
     ·exact NT q (List.mem_append_right [(Dl, oD), (Dr, listOf (glVs rl).toArray (glVs rl).length), (lK, listOf (lks.map sV).toArray 0), (l1a, listOf (fs.map sV).toArray 0), (D1, listOf (cu.map iV).toArray 0), (s₁.heap.objs.size + 1 + 1 + 1 + 1 + 1 + 1 + 1, o7), (s₁.heap.objs.size + 1 + 1 + 1 + 1 + 1 + 1, o6), (s₁.heap.objs.size + 1 + 1 + 1 + 1 + 1, o5), (s₁.heap.objs.size + 1 + 1 + 1 + 1, oWq), (s₁.heap.objs.size + 1 + 1 + 1, qL), (s₁.heap.objs.size + 1 + 1, qA), (s₁.heap.objs.size + 1, qB)] hq)
     ·simp only [glsOf, List.map_cons, List.map_nil, List.mem_cons, List.not_mem_nil, or_false] at hq
      rcases hq with rfl | rfl | rfl | rfl | rfl
      ·exact NA _ (tl4 (.tail _ (.head _)))
      ·exact NA _ (tl4 (.head _))
      ·exact NA _ (tl3 (.head _))
      ·exact NA _ (tl2 (.head _))
      ·exact NA _ (.tail _ (.head _))
  have hNW : NC s₁.heap.objs.size (glsOf rl ++ (ldsOf lds ++ glsOf wl)) := by
   rw [← List.append_assoc]
   refine NC.append hNC ?_
   have k : ∀ {W : Nat}, @LT.lt Nat _ (s₁.heap.objs.size + 1 + 1 + 1 + 1 + 1 + 1 + 1) W → W ≠ s₁.heap.objs.size + 1 + 1 + 1 + 1 + 1 + 1 + 1 ∧ W ≠ s₁.heap.objs.size + 1 + 1 + 1 + 1 + 1 + 1 ∧ W ≠ s₁.heap.objs.size + 1 + 1 + 1 + 1 + 1 ∧ W ≠ s₁.heap.objs.size + 1 + 1 + 1 + 1 := fun h => by omega
   intro q hq
   rw [ewl] at hq
   simp only [glsOf, List.map_cons, List.map_nil, List.mem_cons, List.not_mem_nil, or_false] at hq
   rcases hq with rfl | rfl | rfl | rfl | rfl
   ·exact k q1.2.2.2.2.2.1
   ·exact k q2.2.2.2.2.2.2.1
   ·exact k q3.2.2.2.2.2.2.2.1
   ·exact k q4.2.2.2.2.2.2.2.2.1
   ·exact k q5.2.2.2.2.2.2.2.2.2.1
  have nWy : @LT.lt Nat _ (s₁.heap.objs.size + 1 + 1 + 1 + 1 + 1 + 1 + 1) Wy := q6.2.2.2.2.2.2.2.2.2.2.1
  clear NA ewl q1 q2 q3 q4 q5 q6 c4 hNC
  revert hg KX T B TE TW M hL r0 hI hc63 hct K0 hC5 dB dA dL l5 l4 l3 l2 hcu hcl ecl hcv hcvl hxs hxl hlks hfs hrl hgl hlo v1a3 ltx hsD hll hoD hlg hlo2 e5 nDl nDr FA dW hwl NB hNW nWy
  exact h9a5 Wy hz7 oWq tk wl
end
end Mine
namespace Mine
open TI PyProof.Rows.LCg PyProof.Rows.LCt
namespace SL15
def h9s_eval_ListComp := sT
def h9s_exec_Assign_cons_ListComp := sT
def h9s_CompSrc := sT
def h9s_CompSrcT := sT
def h9s_CompEnd := sT
def h9s_ZEnd := sT
def h9s_call_type_zip := sT
def h9s_compareOp_In_ref_ref := sT
def h9s_call_builtin_list_index := sT
theorem h9r0 : StopRef 344 := trivial
end SL15
open SL15
theorem sub_mid {q : Addr × Obj} {P a b c d e f : List (Addr × Obj)} (h : q ∈ P ++ (a ++ ((b ++ (c ++ d)) ++ e))) : q ∈ P ++ (a ++ (b ++ (c ++ (d ++ (e ++ f))))) := by
 refine sub_of ?_ h
 (try dsimp only [List.cons_append, List.nil_append])
 walk_at "sub"
theorem zend_snoc' {h₀ : Heap} {L C K D D2 : Addr} {m : Str → Option Value} {s₁ : Shared} {oC oK oD o : Obj} {hid keep A G ld : List (Addr × Obj)} {rest : Value → List (Addr × Obj) → Prop} {v : Value} {h' : Heap} {tk : Nat}
  (F : Fr h₀ L h' m) (N : News h₀ L h' ((D2, o) :: (C, oC) :: (K, oK) :: (D, oD) :: (A ++ (G ++ (ld ++ hid))))) (o1 : ∀ q ∈ (C, oC) :: (K, oK) :: (D, oD) :: (A ++ (G ++ (ld ++ hid))), q.1 ≠ D2) (off : ZOff C K D hid (A ++ (G ++ ld)))
  (hk : ∀ q ∈ keep, q ∈ A) (r : rest v (A ++ (G ++ (ld ++ [(D2, o)])))) : ZEnd h₀ L m s₁ C oC K oK D oD hid keep rest v { s₁ with heap := h', toks := tk } := by
 have mk : ∀ l : List (Addr × Obj), (∀ q ∈ l, q.1 ≠ D2) → Off1 D2 l := fun l => by
  induction l with
  | nil => exact fun _ => trivial
  | cons p r ih => exact fun h => ⟨h p (.head _), ih fun q hq => h q (.tail _ hq)⟩
 exact zend_snoc F N (mk _ o1) off hk r
def ndS (w : List Str) (x : Int) : List Int := (((lkS x).map (goalOf w)).filter fun g => decide (g ∈ wayS)).map fun g => ((wayS.idxOf g : Nat) : Int)
@[irreducible] def a5_S := a5_st.p
theorem a5_eq : a5_S = a5_st.p := by unfold a5_S; rfl
abbrev a5_u (z9 : Addr × Heap × Obj × Nat × (List GL)) : Prop := u5 a5_S z9
def a5_c := eps (by walk_at "ne") a5_u
namespace Ka5
@[irreducible] def Wy := a5_c.1
@[irreducible] def hz7 := a5_c.2.1
@[irreducible] def oWq := a5_c.2.2.1
@[irreducible] def tk := a5_c.2.2.2.1
@[irreducible] def wl := a5_c.2.2.2.2
end Ka5
section
open Mine.Ka1 hiding tk
open Ka2
open Ka3
open Ka4
open Ka5
def c15_st : Stg2 (Addr → Addr → Addr → Addr → Addr → Nat → Addr → Obj → Addr → Obj → Addr → (Str → Option Value) → Heap → Nat → (List (Addr × Obj)) → (Value → Shared → Prop) → (List NL) → GL → GL → (Int × Tok) → Prop) (Addr → Heap → Nat → (List NL) → Prop) (fun p9 => ∀ z TI TO i1 i2 i C oC K oK D m₂ h tk' hid E' nl w0 r0 q1, p9 z TI TO i1 i2 i C oC K oK D m₂ h tk' hid E' nl w0 r0 q1) (fun p9 => ∀ DN hn tkn nl, p9 DN hn tkn nl) (a5_S Ka5.Wy Ka5.hz7 Ka5.oWq Ka5.tk Ka5.wl) := by
 refine' Stg2.mk _ _ fun h9c15 h9a6 => ?hk9
 case hk9 =>
  unfold a5_S a5_st
  dsimp only
  intro hg KX T B TE TW M hL r0 hI hc63 hct K0 hC5 dB dA dL l5 l4 l3 l2 hcu hcl ecl hcv hcvl hxs hxl hlks hfs hrl hgl hlo v1a3 ltx hsD hll hoD hlg hlo2 e5 nDl nDr FA dW hwl NB hNW nWy
  refine wpAny_Assign_Name ?_ (by with_unfolding_all rfl)
  refine ListComp_Z (h₀ := s₁.heap) (L := s₁.heap.objs.size) (m := fun v => if v = Str.ofString "leads" then some (.ref Dl) else (fun z => if z = Str.ofString "rows" then some (.ref Dr) else m0 z) v) (by with_unfolding_all rfl) (fun _ => by rfl) (fun _ => by rfl) (by rfl) (by decide) (by with_unfolding_all rfl) (by rfl) ?_
  k_steps
  show wpAny _ _ (call (.type "zip") [.ref Wy, .ref Dr]) _ _ _
  refine zip_call FA NB (.head _) (tl2 (.head _)) ?_
  intro hz z TI TO i1 i2 Z FZ NZ
  have hwl5 : wl.length = 5 := by
   have := congrArg List.length hwl
   unfold glNs at this
   rw [List.length_map] at this
   exact this
  refine ⟨z, TI, TO, i1, i2, Wy, Dr, _, _, _, _, _, fun i ys nw => ∃ nl : List NL, nl.length = i ∧ ys = nlVs nl ∧ nlNs nl = ((wayS.zip (xs.map (·.1))).take i).map (fun p => ndS p.1 p.2) ∧ (∀ q ∈ nl, q.js.length ≤ 8) ∧
   nw = (Wy, listOf (glVs wl).toArray 0) :: (Dl, oD) :: (Dr, listOf (glVs rl).toArray (glVs rl).length) :: (lK, listOf (lks.map sV).toArray 0) :: (l1a, listOf (fs.map sV).toArray 0) :: (D1, listOf (cu.map iV).toArray 0) :: (s₁.heap.objs.size + 1 + 1 + 1 + 1 + 1 + 1 + 1, o7) :: (s₁.heap.objs.size + 1 + 1 + 1 + 1 + 1 + 1, o6) :: (s₁.heap.objs.size + 1 + 1 + 1 + 1 + 1, o5) :: (s₁.heap.objs.size + 1 + 1 + 1 + 1, oWq) :: (s₁.heap.objs.size + 1 + 1 + 1, qL) :: (s₁.heap.objs.size + 1 + 1, qA) :: (s₁.heap.objs.size + 1, qB) :: (glsOf rl ++ (ldsOf lds ++ (glsOf wl ++ nlsOf nl))) ∧ NC s₁.heap.objs.size (nlsOf nl), rfl, rfl, Z, .head _, tl2 (.head _), ?sz, ?sl, FZ, NZ, T.nolimit, ⟨[], rfl, rfl, by rw [List.take_zero]; simp only [List.map_nil]; rfl, fun _ h => (nomatch h), by rw [show nlsOf [] = [] from rfl, List.append_nil], fun _ h => (nomatch h)⟩, ?step, ?fin⟩
  case sz =>
   rw [List.size_toArray, List.size_toArray]
   unfold glVs
   rw [List.length_map, List.length_map, hrl, hwl5]
  case sl =>
   rw [List.size_toArray]
   unfold glVs
   rw [List.length_map, hwl5, sizeLine_eq]
   exact Nat.le_of_ble_eq_true rfl
  case step =>
   clear FA NB FZ NZ Z
   intro i x y C oC K oK D m₂ h tk' acc nw hid E' hx hy hC hK hm2 hid1 hCD F3 N3 off3 hkeep W91
   walk_at "hide"
   obtain ⟨nl, hll, rfl, hlg, hl8, rfl, hNN⟩ := W91
   walk_at "unhide"
   (try simp only [List.cons_append, List.append_assoc] at N3)
   obtain ⟨w0, hw0, rfl⟩ : ∃ w0, wl[i]? = some w0 ∧ x = .ref w0.ad := by
    unfold glVs at hx
    rw [List.getElem?_toArray, List.getElem?_map, Option.map_eq_some_iff] at hx
    obtain ⟨q, h1, h2⟩ := hx
    exact ⟨q, h1, h2.symm⟩
   obtain ⟨r0, hr0, rfl⟩ : ∃ r0, rl[i]? = some r0 ∧ y = .ref r0.ad := by
    unfold glVs at hy
    rw [List.getElem?_toArray, List.getElem?_map, Option.map_eq_some_iff] at hy
    obtain ⟨q, h1, h2⟩ := hy
    exact ⟨q, h1, h2.symm⟩
   have hvw : wayS[i]? = some (w0.gs.map (·.1)) := by rw [← hwl]; unfold glNs; rw [List.getElem?_map, hw0]; rfl
   have hwm : w0.gs.map (·.1) ∈ wayS := List.mem_of_getElem? hvw
   obtain ⟨q1, hq1, hrg⟩ : ∃ q1, xs[i]? = some q1 ∧ r0.gs.map (·.1) = lkS q1.1 := by
    have e := congrArg (fun l => l[i]?) hgl
    unfold glNs at e
    simp only [List.getElem?_map, hr0, Option.map_some] at e
    obtain ⟨q, h1, h2⟩ := Option.map_eq_some_iff.mp e.symm
    exact ⟨q, h1, h2.symm⟩
   have hrl2 : r0.gs.length = 2 := by
    have := congrArg List.length hrg
    rw [List.length_map] at this
    exact this
   clear hx hy
   (try dsimp only)
   rename_i v1c15 v2c15 v3c15
   revert hg KX T B TE TW M hL v1c15 hI hc63 hct K0 hC5 dB dA dL l5 l4 l3 l2 hcu hcl ecl hcv hcvl hxs hxl hlks hfs hrl hgl hlo v1a3 ltx hsD v2c15 hoD v3c15 hlo2 e5 nDl nDr dW hwl hNW nWy hwl5 hC hid1 hCD F3 hll hlg hl8 hNN off3 hkeep N3 hw0 hK hr0 hm2 hvw hwm hq1 hrg hrl2
   exact h9c15 z TI TO i1 i2 i C oC K oK D m₂ h tk' hid E' nl w0 r0 q1
  case fin =>
   clear FA NB FZ NZ Z
   intro DN hn tkn acc nw F4 N4 hnD W96
   walk_at "hide"
   obtain ⟨nl, hll, rfl, hlg, hl8, rfl, hNN⟩ := W96
   walk_at "unhide"
   rw [List.size_toArray, show (glVs wl).length = wl.length by unfold glVs; rw [List.length_map], hwl5] at hll hlg
   rw [List.take_of_length_le (by rw [List.length_zip, List.length_map, hxl]; decide)] at hlg
   have nDN : (@Ne Nat (s₁.heap.objs.size + 1 + 1 + 1 + 1 + 1 + 1 + 1) DN) ∧ (@Ne Nat (s₁.heap.objs.size + 1 + 1 + 1 + 1 + 1 + 1) DN) ∧ (@Ne Nat (s₁.heap.objs.size + 1 + 1 + 1 + 1 + 1) DN) ∧ (@Ne Nat (s₁.heap.objs.size + 1 + 1 + 1 + 1) DN) :=
    ⟨hnD (s₁.heap.objs.size + 1 + 1 + 1 + 1 + 1 + 1 + 1, o7) (by repeat (first | exact .head _ | apply List.mem_cons_of_mem)), hnD (s₁.heap.objs.size + 1 + 1 + 1 + 1 + 1 + 1, o6) (by repeat (first | exact .head _ | apply List.mem_cons_of_mem)), hnD (s₁.heap.objs.size + 1 + 1 + 1 + 1 + 1, o5) (by repeat (first | exact .head _ | apply List.mem_cons_of_mem)), hnD (s₁.heap.objs.size + 1 + 1 + 1 + 1, oWq) (by repeat (first | exact .head _ | apply List.mem_cons_of_mem))⟩
   have hNA : NC s₁.heap.objs.size (ldsOf lds ++ nlsOf nl) := fun q hq => by
    rcases List.mem_append.mp hq with hq | hq
    ·exact hNW q (List.mem_append_right _ (List.mem_append_left _ hq))
    ·exact hNN q hq
   replace N4 : News s₁.heap s₁.heap.objs.size hn ((DN, listOf (nlVs nl).toArray (nlVs nl).length) :: (Wy, listOf (glVs wl).toArray 0) :: (Dl, oD) :: (lK, listOf (lks.map sV).toArray 0) :: (l1a, listOf (fs.map sV).toArray 0) :: (D1, listOf (cu.map iV).toArray 0) :: (s₁.heap.objs.size + 1 + 1 + 1 + 1 + 1 + 1 + 1, o7) :: (s₁.heap.objs.size + 1 + 1 + 1 + 1 + 1 + 1, o6) :: (s₁.heap.objs.size + 1 + 1 + 1 + 1 + 1, o5) :: (s₁.heap.objs.size + 1 + 1 + 1 + 1, oWq) :: (s₁.heap.objs.size + 1 + 1 + 1, qL) :: (s₁.heap.objs.size + 1 + 1, qA) :: (s₁.heap.objs.size + 1, qB) :: (ldsOf lds ++ (nlsOf nl ++ glsOf wl))) := fun q hq => by
    rcases List.mem_cons.mp hq with rfl | hq
    ·exact N4 _ (.head _)
    ·rcases List.mem_cons.mp hq with rfl | hq
     ·exact N4 _ (.tail _ (.head _))
     ·rcases List.mem_cons.mp hq with rfl | hq
      ·exact N4 _ (tl2 (.head _))
      ·have hq : q ∈ [(lK, listOf (lks.map sV).toArray 0), (l1a, listOf (fs.map sV).toArray 0), (D1, listOf (cu.map iV).toArray 0), (s₁.heap.objs.size + 1 + 1 + 1 + 1 + 1 + 1 + 1, o7), (s₁.heap.objs.size + 1 + 1 + 1 + 1 + 1 + 1, o6), (s₁.heap.objs.size + 1 + 1 + 1 + 1 + 1, o5), (s₁.heap.objs.size + 1 + 1 + 1 + 1, oWq), (s₁.heap.objs.size + 1 + 1 + 1, qL), (s₁.heap.objs.size + 1 + 1, qA), (s₁.heap.objs.size + 1, qB)] ++ (ldsOf lds ++ (nlsOf nl ++ glsOf wl)) := hq
       have key : q ∈ [(lK, listOf (lks.map sV).toArray 0), (l1a, listOf (fs.map sV).toArray 0), (D1, listOf (cu.map iV).toArray 0), (s₁.heap.objs.size + 1 + 1 + 1 + 1 + 1 + 1 + 1, o7), (s₁.heap.objs.size + 1 + 1 + 1 + 1 + 1 + 1, o6), (s₁.heap.objs.size + 1 + 1 + 1 + 1 + 1, o5), (s₁.heap.objs.size + 1 + 1 + 1 + 1, oWq), (s₁.heap.objs.size + 1 + 1 + 1, qL), (s₁.heap.objs.size + 1 + 1, qA), (s₁.heap.objs.size + 1, qB)] ++ (glsOf rl ++ (ldsOf lds ++ (glsOf wl ++ nlsOf nl))) := by
        rcases List.mem_append.mp hq with hq | hq
        ·exact List.mem_append_left _ hq
        ·refine List.mem_append_right _ (List.mem_append_right _ ?_)
         refine sub_of ?_ hq
         (try dsimp only [List.cons_append, List.nil_append])
         walk_at "sub"
       exact N4 q (tl4 key)
   clear hnD
   dsimp only
   rename_i v1a6 v2a6
   revert hg KX T B TE TW M hL r0 hI hc63 hct K0 hC5 dB dA dL l5 l4 l3 l2 hcu hcl ecl hcv hcvl hxs hxl hlks hfs hrl hgl hlo v1a3 ltx hsD v1a6 hoD v2a6 hlo2 e5 nDl nDr dW hwl hNW nWy hwl5 F4 hll hlg hl8 hNN nDN hNA N4
   exact h9a6 DN hn tkn nl
@[irreducible] def c15_S := c15_st.p
theorem c15_eq : c15_S = c15_st.p := by unfold c15_S; rfl
abbrev c15_u (z9 : (Addr × Addr × Addr × Addr × Addr × Nat) × (Addr × Obj × Addr × Obj × Addr × (Str → Option Value)) × (Heap × Nat × (List (Addr × Obj)) × (Value → Shared → Prop) × (List NL) × GL) × (GL × (Int × Tok))) : Prop := u2 (u6 (u6 (u6 c15_S z9.1) z9.2.1) z9.2.2.1) z9.2.2.2
def c15_c := eps (by walk_at "ne") c15_u
namespace Kc15
@[irreducible] def z := c15_c.1.1
@[irreducible] def TI := c15_c.1.2.1
@[irreducible] def TO := c15_c.1.2.2.1
@[irreducible] def i1 := c15_c.1.2.2.2.1
@[irreducible] def i2 := c15_c.1.2.2.2.2.1
@[irreducible] def i := c15_c.1.2.2.2.2.2
@[irreducible] def C := c15_c.2.1.1
@[irreducible] def oC := c15_c.2.1.2.1
@[irreducible] def K := c15_c.2.1.2.2.1
@[irreducible] def oK := c15_c.2.1.2.2.2.1
@[irreducible] def D := c15_c.2.1.2.2.2.2.1
@[irreducible] def m₂ := c15_c.2.1.2.2.2.2.2
@[irreducible] def h := c15_c.2.2.1.1
@[irreducible] def tk' := c15_c.2.2.1.2.1
@[irreducible] def hid := c15_c.2.2.1.2.2.1
@[irreducible] def E' := c15_c.2.2.1.2.2.2.1
@[irreducible] def nl := c15_c.2.2.1.2.2.2.2.1
@[irreducible] def w0 := c15_c.2.2.1.2.2.2.2.2
@[irreducible] def r0 := c15_c.2.2.2.1
@[irreducible] def q1 := c15_c.2.2.2.2
end Kc15
end
section
open Mine.Ka1 hiding tk
open Ka2
open Ka3
open Ka4
open Ka5
open Kc15
def d15_st : Stg2 (Heap → Nat → Nat → Addr → Obj → Addr → Obj → Addr → (Str → Option Value) → Heap → Nat → (Value → Shared → Prop) → (List GL) → Str → Tok → Prop) ((List GL) → Addr → Heap → Nat → Heap → Nat → Nat → Addr → Obj → Addr → Obj → Addr → (Str → Option Value) → Heap → Nat → (Value → Shared → Prop) → (List (Int × Tok)) → GL → Str → Prop) (fun p9 => ∀ gg2 k2 i2 I2 oI2 C2 oC2 D2 m3 h2 tk2 E2 gl2 l lt, p9 gg2 k2 i2 I2 oI2 C2 oC2 D2 m3 h2 tk2 E2 gl2 l lt) (fun p9 => ∀ gl2 DG h2 tk2 gg3 k3 i3 I3 oI3 C3 oC3 D3 m3 h3 tk3 E3 js g0 l, p9 gl2 DG h2 tk2 gg3 k3 i3 I3 oI3 C3 oC3 D3 m3 h3 tk3 E3 js g0 l) (c15_S Kc15.z Kc15.TI Kc15.TO Kc15.i1 Kc15.i2 Kc15.i Kc15.C Kc15.oC Kc15.K Kc15.oK Kc15.D Kc15.m₂ Kc15.h Kc15.tk' Kc15.hid Kc15.E' Kc15.nl Kc15.w0 Kc15.r0 Kc15.q1) := by
 refine' Stg2.mk _ _ fun h9d15 h9e15 => ?hk9
 case hk9 =>
  unfold c15_S c15_st
  dsimp only
  intro hg KX T B TE TW M hL v1c15 hI hc63 hct K0 hC5 dB dA dL l5 l4 l3 l2 hcu hcl ecl hcv hcvl hxs hxl hlks hfs hrl hgl hlo v1a3 ltx hsD v2c15 hoD v3c15 hlo2 e5 nDl nDr dW hwl hNW nWy hwl5 hC hid1 hCD F3 hll hlg hl8 hNN off3 hkeep N3 hw0 hK hr0 hm2 hvw hwm hq1 hrg hrl2
  k_steps
  refine stop_un ?_
  refine LCt.ListComp_T (F₀ := by exact F3) (by with_unfolding_all rfl) (by decide) (by rfl) (by decide) (by rfl) ?_
  k_steps
  refine stop_un ?_
  refine LCg.ListComp_U (F₀ := by exact F3) (by with_unfolding_all rfl) (by decide) (by rfl) (by decide) (by rfl) ?_
  k_steps
  refine stop_un ?_
  have hrm : (r0.ad, r0.ob) ∈ glsOf rl := List.mem_map.mpr ⟨r0, List.mem_of_getElem? hr0, rfl⟩
  have hwm0 : (w0.ad, w0.ob) ∈ glsOf wl := List.mem_map.mpr ⟨w0, List.mem_of_getElem? hw0, rfl⟩
  refine LCg.CompSrc.ledger rfl F3 N3 (its := (r0.gs.map sV).toArray) (k := r0.c) (by (repeat (first | (with_reducible exact List.mem_append_left _ hrm) | apply List.mem_cons_of_mem))) (by rw [List.size_toArray, List.length_map, hrl2, sizeLine_eq]; exact Nat.le_of_ble_eq_true rfl) ?_
  intro gg2
  refine comp_ind (its := (r0.gs.map sV).toArray) (J := fun i2 ys2 news2 => ∃ gl2 : List GL, ys2 = glVs gl2 ∧ glNs gl2 = (r0.gs.take i2).map (fun p => goalOf (w0.gs.map (·.1)) p.1) ∧ news2 = (C, oC) :: (K, oK) :: (D, lst (nlVs nl)) :: (Wy, listOf (glVs wl).toArray 0) :: (Dl, oD) :: (Dr, listOf (glVs rl).toArray (glVs rl).length) :: (lK, listOf (lks.map sV).toArray 0) :: (l1a, listOf (fs.map sV).toArray 0) :: (D1, listOf (cu.map iV).toArray 0) :: (s₁.heap.objs.size + 1 + 1 + 1 + 1 + 1 + 1 + 1, o7) :: (s₁.heap.objs.size + 1 + 1 + 1 + 1 + 1 + 1, o6) :: (s₁.heap.objs.size + 1 + 1 + 1 + 1 + 1, o5) :: (s₁.heap.objs.size + 1 + 1 + 1 + 1, oWq) :: (s₁.heap.objs.size + 1 + 1 + 1, qL) :: (s₁.heap.objs.size + 1 + 1, qA) :: (s₁.heap.objs.size + 1, qB) :: (glsOf rl ++ (ldsOf lds ++ (glsOf wl ++ (nlsOf nl ++ (hid ++ glsOf gl2)))))) ?fin2 ?step2 _ 0 [] _ (Nat.zero_add _) ⟨[], rfl, by rw [List.take_zero]; simp only [List.map_nil]; rfl, by rw [show glsOf [] = [] from rfl, List.append_nil]⟩
  case step2 =>
   intro k2 i2 ys2 news2 v2 hv2 W92 ih2 I2 oI2 C2 oC2 D2 m3 h2 tk2 E2 hC2 hx2 F4 N4 off4 nes4
   walk_at "hide"
   obtain ⟨gl2, rfl, hgq, rfl⟩ := W92
   walk_at "unhide"
   obtain ⟨q2, hq2, rfl⟩ : ∃ q2, r0.gs[i2]? = some q2 ∧ v2 = sV q2 := by
    rw [List.getElem?_toArray, List.getElem?_map, Option.map_eq_some_iff] at hv2
    obtain ⟨q, h1, h2⟩ := hv2
    exact ⟨q, h1, h2.symm⟩
   obtain ⟨l, lt⟩ := q2
   have hlm : l ∈ vLinks := lk_mem q1.1 l (by rw [← hrg]; exact List.mem_map.mpr ⟨_, List.mem_of_getElem? hq2, rfl⟩)
   have hll20 := llen l hlm
   have hw8 : w0.gs.length ≤ 8 := by
    have := (goal_lay _ hwm l hlm).2
    rw [List.length_map] at this
    exact this
   clear F3 N3
   (try dsimp only)
   revert hg KX T B TE TW M hL v1c15 hI hc63 hct K0 hC5 dB dA dL l5 l4 l3 l2 hcu hcl ecl hcv hcvl hxs hxl hlks hfs hrl hgl hlo v1a3 ltx hsD v2c15 hoD v3c15 hlo2 e5 nDl nDr dW hwl hNW nWy hwl5 hC hid1 hCD hll hlg hl8 hNN off3 hkeep hw0 hK hr0 hm2 hvw hwm hq1 hrg hrl2 hrm hwm0 ih2 hC2 F4 nes4 hgq off4 N4 hq2 hv2 hx2 hlm hll20 hw8
   exact h9d15 gg2 k2 i2 I2 oI2 C2 oC2 D2 m3 h2 tk2 E2 gl2 l lt
  case fin2 =>
   intro ys2 news2 W93
   walk_at "hide"
   obtain ⟨gl2, rfl, hgq, rfl⟩ := W93
   walk_at "unhide"
   unfold FinE
   intro DG h2 tk2 F4 N4 off4
   rw [List.size_toArray, List.length_map, List.take_length] at hgq
   clear F3 N3
   dsimp only
   have hg2 : gl2.length = 2 := by
    have := congrArg List.length hgq
    unfold glNs at this
    rw [List.length_map, List.length_map, hrl2] at this
    exact this
   refine LCt.CompSrcT.ledger rfl F4 N4 (its := (glVs gl2).toArray) (.head _) (by rw [List.size_toArray, sizeLine_eq]; unfold glVs; rw [List.length_map, hg2]; exact Nat.le_of_ble_eq_true rfl) ?_
   intro gg3
   refine compT_ind (its := (glVs gl2).toArray) (J := fun i3 ys3 news3 => news3 = (DG, lst (glVs gl2)) :: (C, oC) :: (K, oK) :: (D, lst (nlVs nl)) :: (Wy, listOf (glVs wl).toArray 0) :: (Dl, oD) :: (Dr, listOf (glVs rl).toArray (glVs rl).length) :: (lK, listOf (lks.map sV).toArray 0) :: (l1a, listOf (fs.map sV).toArray 0) :: (D1, listOf (cu.map iV).toArray 0) :: (s₁.heap.objs.size + 1 + 1 + 1 + 1 + 1 + 1 + 1, o7) :: (s₁.heap.objs.size + 1 + 1 + 1 + 1 + 1 + 1, o6) :: (s₁.heap.objs.size + 1 + 1 + 1 + 1 + 1, o5) :: (s₁.heap.objs.size + 1 + 1 + 1 + 1, oWq) :: (s₁.heap.objs.size + 1 + 1 + 1, qL) :: (s₁.heap.objs.size + 1 + 1, qA) :: (s₁.heap.objs.size + 1, qB) :: (glsOf rl ++ (ldsOf lds ++ (glsOf wl ++ (nlsOf nl ++ (hid ++ glsOf gl2))))) ∧ ∃ js : List (Int × Tok), ys3 = js.map iV ∧ js.length ≤ i3 ∧ js.map (·.1) = (((glNs gl2).take i3).filter fun g => decide (g ∈ wayS)).map fun g => ((wayS.idxOf g : Nat) : Int)) ?fin3 ?step3 _ 0 [] _ (Nat.zero_add _) ⟨rfl, [], rfl, Nat.le_refl _, by rw [List.take_zero]; rfl⟩
   case step3 =>
    intro k3 i3 ys3 news3 v3 hv3 W94 ih3 I3 oI3 C3 oC3 D3 m3 h3 tk3 E3 hC3 hx3 F5 N5 off5 nes5
    walk_at "hide"
    obtain ⟨rfl, js, rfl, hjl, hjs⟩ := W94
    walk_at "unhide"
    obtain ⟨g0, hg0, rfl⟩ : ∃ g0, gl2[i3]? = some g0 ∧ v3 = .ref g0.ad := by
     unfold glVs at hv3
     rw [List.getElem?_toArray, List.getElem?_map, Option.map_eq_some_iff] at hv3
     obtain ⟨q, h1, h2⟩ := hv3
     exact ⟨q, h1, h2.symm⟩
    have hgt : (glNs gl2)[i3]? = some (g0.gs.map (·.1)) := by unfold glNs; rw [List.getElem?_map, hg0]; rfl
    obtain ⟨l, hlm, hgo⟩ : ∃ l ∈ vLinks, g0.gs.map (·.1) = goalOf (w0.gs.map (·.1)) l := by
     rw [hgq, List.getElem?_map, Option.map_eq_some_iff] at hgt
     obtain ⟨p, h1, h2⟩ := hgt
     exact ⟨p.1, lk_mem q1.1 p.1 (by rw [← hrg]; exact List.mem_map.mpr ⟨_, List.mem_of_getElem? h1, rfl⟩), h2.symm⟩
    have hgm : (g0.ad, g0.ob) ∈ glsOf gl2 := List.mem_map.mpr ⟨g0, List.mem_of_getElem? hg0, rfl⟩
    have c2 : (slD (g0.gs.map (·.1))).canLay0 = true := by rw [hgo]; exact (goal_lay _ hwm l hlm).1
    have c1 : PyData.canLayAll0 ((glNs wl).map slD) = true := by rw [hwl]; exact way_lay
    have hgz : (g0.ad, g0.ob) ∈ (C, oC) :: (K, oK) :: (D, lst (nlVs nl)) :: (Wy, listOf (glVs wl).toArray 0) :: (Dl, oD) :: (Dr, listOf (glVs rl).toArray (glVs rl).length) :: (lK, listOf (lks.map sV).toArray 0) :: (l1a, listOf (fs.map sV).toArray 0) :: (D1, listOf (cu.map iV).toArray 0) :: (s₁.heap.objs.size + 1 + 1 + 1 + 1 + 1 + 1 + 1, o7) :: (s₁.heap.objs.size + 1 + 1 + 1 + 1 + 1 + 1, o6) :: (s₁.heap.objs.size + 1 + 1 + 1 + 1 + 1, o5) :: (s₁.heap.objs.size + 1 + 1 + 1 + 1, oWq) :: (s₁.heap.objs.size + 1 + 1 + 1, qL) :: (s₁.heap.objs.size + 1 + 1, qA) :: (s₁.heap.objs.size + 1, qB) :: (glsOf rl ++ (ldsOf lds ++ (glsOf wl ++ (nlsOf nl ++ (hid ++ glsOf gl2))))) := by (repeat (first | (with_reducible exact List.mem_append_right _ (List.mem_append_right _ (List.mem_append_right _ (List.mem_append_right _ (List.mem_append_right _ hgm))))) | apply List.mem_cons_of_mem))
    have hwz : ∀ g ∈ wl, (g.ad, g.ob) ∈ (C, oC) :: (K, oK) :: (D, lst (nlVs nl)) :: (Wy, listOf (glVs wl).toArray 0) :: (Dl, oD) :: (Dr, listOf (glVs rl).toArray (glVs rl).length) :: (lK, listOf (lks.map sV).toArray 0) :: (l1a, listOf (fs.map sV).toArray 0) :: (D1, listOf (cu.map iV).toArray 0) :: (s₁.heap.objs.size + 1 + 1 + 1 + 1 + 1 + 1 + 1, o7) :: (s₁.heap.objs.size + 1 + 1 + 1 + 1 + 1 + 1, o6) :: (s₁.heap.objs.size + 1 + 1 + 1 + 1 + 1, o5) :: (s₁.heap.objs.size + 1 + 1 + 1 + 1, oWq) :: (s₁.heap.objs.size + 1 + 1 + 1, qL) :: (s₁.heap.objs.size + 1 + 1, qA) :: (s₁.heap.objs.size + 1, qB) :: (glsOf rl ++ (ldsOf lds ++ (glsOf wl ++ (nlsOf nl ++ (hid ++ glsOf gl2))))) := fun g hg => by (repeat (first | (with_reducible exact List.mem_append_right _ (List.mem_append_right _ (List.mem_append_left _ (List.mem_map.mpr ⟨g, hg, rfl⟩)))) | apply List.mem_cons_of_mem))
    clear F4 N4
    (try dsimp only)
    revert hg KX T B TE TW M hL v1c15 hI hc63 hct K0 hC5 dB dA dL l5 l4 l3 l2 hcu hcl ecl hcv hcvl hxs hxl hlks hfs hrl hgl hlo v1a3 ltx hsD v2c15 hoD v3c15 hlo2 e5 nDl nDr dW hwl hNW nWy hwl5 hC hid1 hCD hll hlg hl8 hNN off3 hkeep hw0 hK hr0 hm2 hvw hwm hq1 hrg hrl2 hrm hwm0 hgq off4 hg2 ih3 hC3 F5 nes5 off5 N5 hjl hjs hg0 hv3 hx3 hgt hlm hgo hgm c2 c1 hgz hwz
    exact h9e15 gl2 DG h2 tk2 gg3 k3 i3 I3 oI3 C3 oC3 D3 m3 h3 tk3 E3 js g0 l
   case fin3 =>
    intro ys3 news3 W95
    walk_at "hide"
    obtain ⟨rfl, js, rfl, hjl, hjs⟩ := W95
    walk_at "unhide"
    intro DJ h5 tk5 F5 N5 off5
    rw [List.size_toArray, show (glVs gl2).length = gl2.length by unfold glVs; rw [List.length_map]] at hjl hjs
    rw [List.take_of_length_le (by unfold glNs; rw [List.length_map]; exact Nat.le_refl _)] at hjs
    clear F4 N4
    have oF := off1_mem off5
    have sub : ∀ q ∈ [(C, oC), (K, oK), (D, lst (nlVs nl)), (Wy, listOf (glVs wl).toArray 0), (Dl, oD), (Dr, listOf (glVs rl).toArray (glVs rl).length), (lK, listOf (lks.map sV).toArray 0), (l1a, listOf (fs.map sV).toArray 0), (D1, listOf (cu.map iV).toArray 0), (s₁.heap.objs.size + 1 + 1 + 1 + 1 + 1 + 1 + 1, o7), (s₁.heap.objs.size + 1 + 1 + 1 + 1 + 1 + 1, o6), (s₁.heap.objs.size + 1 + 1 + 1 + 1 + 1, o5), (s₁.heap.objs.size + 1 + 1 + 1 + 1, oWq), (s₁.heap.objs.size + 1 + 1 + 1, qL), (s₁.heap.objs.size + 1 + 1, qA), (s₁.heap.objs.size + 1, qB)] ++ (glsOf rl ++ ((ldsOf lds ++ (glsOf wl ++ nlsOf nl)) ++ hid)), q ∈ (DG, lst (glVs gl2)) :: (C, oC) :: (K, oK) :: (D, lst (nlVs nl)) :: (Wy, listOf (glVs wl).toArray 0) :: (Dl, oD) :: (Dr, listOf (glVs rl).toArray (glVs rl).length) :: (lK, listOf (lks.map sV).toArray 0) :: (l1a, listOf (fs.map sV).toArray 0) :: (D1, listOf (cu.map iV).toArray 0) :: (s₁.heap.objs.size + 1 + 1 + 1 + 1 + 1 + 1 + 1, o7) :: (s₁.heap.objs.size + 1 + 1 + 1 + 1 + 1 + 1, o6) :: (s₁.heap.objs.size + 1 + 1 + 1 + 1 + 1, o5) :: (s₁.heap.objs.size + 1 + 1 + 1 + 1, oWq) :: (s₁.heap.objs.size + 1 + 1 + 1, qL) :: (s₁.heap.objs.size + 1 + 1, qA) :: (s₁.heap.objs.size + 1, qB) :: (glsOf rl ++ (ldsOf lds ++ (glsOf wl ++ (nlsOf nl ++ (hid ++ glsOf gl2))))) := fun q hq => .tail _ (sub_mid (f := glsOf gl2) hq)
    refine zend_snoc' (o := listOf (js.map iV).toArray (js.map iV).length) (A := [(Wy, listOf (glVs wl).toArray 0), (Dl, oD), (Dr, listOf (glVs rl).toArray (glVs rl).length), (lK, listOf (lks.map sV).toArray 0), (l1a, listOf (fs.map sV).toArray 0), (D1, listOf (cu.map iV).toArray 0), (s₁.heap.objs.size + 1 + 1 + 1 + 1 + 1 + 1 + 1, o7), (s₁.heap.objs.size + 1 + 1 + 1 + 1 + 1 + 1, o6), (s₁.heap.objs.size + 1 + 1 + 1 + 1 + 1, o5), (s₁.heap.objs.size + 1 + 1 + 1 + 1, oWq), (s₁.heap.objs.size + 1 + 1 + 1, qL), (s₁.heap.objs.size + 1 + 1, qA), (s₁.heap.objs.size + 1, qB)]) (G := glsOf rl) (ld := ldsOf lds ++ (glsOf wl ++ nlsOf nl)) F5 (fun q hq => ?_) (fun q hq => oF q (sub q hq)) off3 (fun q hq => ?_) ⟨nl ++ [⟨DJ, js, (js.map iV).length⟩], ?_, ?_, ?_, ?_, ?_, ?_⟩
    ·rcases List.mem_cons.mp hq with rfl | hq
     ·exact N5 _ (.head _)
     ·exact N5 q (.tail _ (sub q hq))
    ·simp only [List.mem_cons, List.not_mem_nil, or_false] at hq
     rcases hq with rfl | rfl
     ·exact .head _
     ·exact tl2 (.head _)
    ·rw [List.length_append, hll]; rfl
    ·unfold nlVs
     rw [List.map_append]; rfl
    ·have hz : (wayS.zip (xs.map (·.1)))[i]? = some (w0.gs.map (·.1), q1.1) := by
      rw [List.getElem?_zip_eq_some]
      exact ⟨hvw, by rw [List.getElem?_map, hq1]; rfl⟩
     have hj' : js.map (·.1) = ndS (w0.gs.map (·.1)) q1.1 := by
      unfold ndS
      rw [hjs, hgq, ← hrg, List.map_map]; rfl
     rw [takeS hz, List.map_append, ← hlg]
     unfold nlNs
     rw [List.map_append, List.map_cons, List.map_nil, List.map_cons, List.map_nil, hj']
    ·intro q hq
     rcases List.mem_append.mp hq with hq | hq
     ·exact hl8 q hq
     ·rw [List.mem_singleton.mp hq]
      show js.length ≤ 8
      omega
    ·show _ = [(Wy, listOf (glVs wl).toArray 0), (Dl, oD), (Dr, listOf (glVs rl).toArray (glVs rl).length), (lK, listOf (lks.map sV).toArray 0), (l1a, listOf (fs.map sV).toArray 0), (D1, listOf (cu.map iV).toArray 0), (s₁.heap.objs.size + 1 + 1 + 1 + 1 + 1 + 1 + 1, o7), (s₁.heap.objs.size + 1 + 1 + 1 + 1 + 1 + 1, o6), (s₁.heap.objs.size + 1 + 1 + 1 + 1 + 1, o5), (s₁.heap.objs.size + 1 + 1 + 1 + 1, oWq), (s₁.heap.objs.size + 1 + 1 + 1, qL), (s₁.heap.objs.size + 1 + 1, qA), (s₁.heap.objs.size + 1, qB)] ++ _
     unfold nlsOf
     rw [List.map_append]
     simp only [List.append_assoc]
     rfl
    ·have e : nlsOf (nl ++ [⟨DJ, js, (js.map iV).length⟩]) = nlsOf nl ++ [(DJ, listOf (js.map iV).toArray (js.map iV).length)] := by
      unfold nlsOf
      rw [List.map_append]; rfl
     rw [e]
     refine NC.append hNN (NC.one (fun e => ?_) (fun e => ?_) (fun e => ?_) (fun e => ?_))
     ·exact oF (s₁.heap.objs.size + 1 + 1 + 1 + 1 + 1 + 1 + 1, o7) (by repeat (first | exact .head _ | apply List.mem_cons_of_mem)) e.symm
     ·exact oF (s₁.heap.objs.size + 1 + 1 + 1 + 1 + 1 + 1, o6) (by repeat (first | exact .head _ | apply List.mem_cons_of_mem)) e.symm
     ·exact oF (s₁.heap.objs.size + 1 + 1 + 1 + 1 + 1, o5) (by repeat (first | exact .head _ | apply List.mem_cons_of_mem)) e.symm
     ·exact oF (s₁.heap.objs.size + 1 + 1 + 1 + 1, oWq) (by repeat (first | exact .head _ | apply List.mem_cons_of_mem)) e.symm
@[irreducible] def d15_S := d15_st.p
theorem d15_eq : d15_S = d15_st.p := by unfold d15_S; rfl
abbrev d15_u (z9 : (Heap × Nat × Nat × Addr × Obj × Addr) × (Obj × Addr × (Str → Option Value) × Heap × Nat × (Value → Shared → Prop)) × ((List GL) × Str × Tok)) : Prop := u3 (u6 (u6 d15_S z9.1) z9.2.1) z9.2.2
def d15_c := eps (by walk_at "ne") d15_u
namespace Kd15
@[irreducible] def gg2 := d15_c.1.1
@[irreducible] def k2 := d15_c.1.2.1
@[irreducible] def i2 := d15_c.1.2.2.1
@[irreducible] def I2 := d15_c.1.2.2.2.1
@[irreducible] def oI2 := d15_c.1.2.2.2.2.1
@[irreducible] def C2 := d15_c.1.2.2.2.2.2
@[irreducible] def oC2 := d15_c.2.1.1
@[irreducible] def D2 := d15_c.2.1.2.1
@[irreducible] def m3 := d15_c.2.1.2.2.1
@[irreducible] def h2 := d15_c.2.1.2.2.2.1
@[irreducible] def tk2 := d15_c.2.1.2.2.2.2.1
@[irreducible] def E2 := d15_c.2.1.2.2.2.2.2
@[irreducible] def gl2 := d15_c.2.2.1
@[irreducible] def l := d15_c.2.2.2.1
@[irreducible] def lt := d15_c.2.2.2.2
end Kd15
end
section
open Mine.Ka1 hiding D2 tk
open Ka2
open Ka3
open Ka4
open Ka5
open Mine.Kc15 hiding i2
open Kd15
theorem d15_1 : d15_S Kd15.gg2 Kd15.k2 Kd15.i2 Kd15.I2 Kd15.oI2 Kd15.C2 Kd15.oC2 Kd15.D2 Kd15.m3 Kd15.h2 Kd15.tk2 Kd15.E2 Kd15.gl2 Kd15.l Kd15.lt := by
 unfold d15_S d15_st
 dsimp only
 intro hg KX T B TE TW M hL v1c15 hI hc63 hct K0 hC5 dB dA dL l5 l4 l3 l2 hcu hcl ecl hcv hcvl hxs hxl hlks hfs hrl hgl hlo v1a3 ltx hsD v2c15 hoD v3c15 hlo2 e5 nDl nDr dW hwl hNW nWy hwl5 hC hid1 hCD hll hlg hl8 hNN off3 hkeep hw0 hK hr0 hm2 hvw hwm hq1 hrg hrl2 hrm hwm0 ih2 hC2 F4 nes4 hgq off4 N4 hq2 hv2 hx2 hlm hll20 hw8
 k_steps
 refine stop_un ?_
 have hwz : (w0.ad, w0.ob) ∈ (C, oC) :: (K, oK) :: (D, lst (nlVs nl)) :: (Wy, listOf (glVs wl).toArray 0) :: (Dl, oD) :: (Dr, listOf (glVs rl).toArray (glVs rl).length) :: (lK, listOf (lks.map sV).toArray 0) :: (l1a, listOf (fs.map sV).toArray 0) :: (D1, listOf (cu.map iV).toArray 0) :: (s₁.heap.objs.size + 1 + 1 + 1 + 1 + 1 + 1 + 1, o7) :: (s₁.heap.objs.size + 1 + 1 + 1 + 1 + 1 + 1, o6) :: (s₁.heap.objs.size + 1 + 1 + 1 + 1 + 1, o5) :: (s₁.heap.objs.size + 1 + 1 + 1 + 1, oWq) :: (s₁.heap.objs.size + 1 + 1 + 1, qL) :: (s₁.heap.objs.size + 1 + 1, qA) :: (s₁.heap.objs.size + 1, qB) :: (glsOf rl ++ (ldsOf lds ++ (glsOf wl ++ (nlsOf nl ++ (hid ++ glsOf gl2))))) := by (repeat (first | (with_reducible exact List.mem_append_right _ (List.mem_append_right _ (List.mem_append_left _ hwm0))) | apply List.mem_cons_of_mem))
 refine lgoalF (ws := w0.gs) (wc := w0.c) K0 F4 KX N4 (tl3 hwz) hll20.1 hll20.2 hw8 T rfl (by decide) (by decide) ?_
 intro h5 tk5 g gs gc F5 N5 e1 e3
 have owz := off4.mem _ hwz
 clear F4 N4
 k_steps
 refine stop_un ?_
 refine comp_snoc [(C, oC), (K, oK), (D, lst (nlVs nl)), (Wy, listOf (glVs wl).toArray 0), (Dl, oD), (Dr, listOf (glVs rl).toArray (glVs rl).length), (lK, listOf (lks.map sV).toArray 0), (l1a, listOf (fs.map sV).toArray 0), (D1, listOf (cu.map iV).toArray 0), (s₁.heap.objs.size + 1 + 1 + 1 + 1 + 1 + 1 + 1, o7), (s₁.heap.objs.size + 1 + 1 + 1 + 1 + 1 + 1, o6), (s₁.heap.objs.size + 1 + 1 + 1 + 1 + 1, o5), (s₁.heap.objs.size + 1 + 1 + 1 + 1, oWq), (s₁.heap.objs.size + 1 + 1 + 1, qL), (s₁.heap.objs.size + 1 + 1, qA), (s₁.heap.objs.size + 1, qB)] (glsOf rl ++ (ldsOf lds ++ (glsOf wl ++ (nlsOf nl ++ (hid ++ glsOf gl2))))) F5 N5 off4 ⟨(e3 _ (.head _) (Ne.symm owz.1)).symm, (e3 _ (.tail _ (.head _)) (Ne.symm owz.2.1)).symm, (e3 _ (tl2 (.head _)) (Ne.symm owz.2.2)).symm⟩
  (.inr ⟨_, List.mem_append_right _ (List.mem_append_left _ (List.mem_append_left _ hrm)), rfl, _, rfl⟩) (ih2 _ _ ⟨gl2 ++ [⟨g, gs, gc⟩], by unfold glVs; rw [List.map_append]; rfl, ?_, by rw [gls_snoc]; simp only [List.append_assoc, List.cons_append, List.nil_append]⟩)
 rw [takeS hq2, List.map_append, ← hgq]
 unfold glNs
 rw [List.map_append, List.map_cons, List.map_nil, List.map_cons, List.map_nil, e1]
end
section
open Mine.Ka1 hiding tk
open Ka2
open Ka3
open Ka4
open Ka5
open Kc15
@[irreducible] def e15_S := d15_st.q
theorem e15_eq : e15_S = d15_st.q := by unfold e15_S; rfl
abbrev e15_u (z9 : ((List GL) × Addr × Heap × Nat × Heap × Nat) × (Nat × Addr × Obj × Addr × Obj × Addr) × ((Str → Option Value) × Heap × Nat × (Value → Shared → Prop) × (List (Int × Tok)) × GL) × (Str)) : Prop := u1 (u6 (u6 (u6 e15_S z9.1) z9.2.1) z9.2.2.1) z9.2.2.2
def e15_c := eps (by walk_at "ne") e15_u
namespace Ke15
@[irreducible] def gl2 := e15_c.1.1
@[irreducible] def DG := e15_c.1.2.1
@[irreducible] def h2 := e15_c.1.2.2.1
@[irreducible] def tk2 := e15_c.1.2.2.2.1
@[irreducible] def gg3 := e15_c.1.2.2.2.2.1
@[irreducible] def k3 := e15_c.1.2.2.2.2.2
@[irreducible] def i3 := e15_c.2.1.1
@[irreducible] def I3 := e15_c.2.1.2.1
@[irreducible] def oI3 := e15_c.2.1.2.2.1
@[irreducible] def C3 := e15_c.2.1.2.2.2.1
@[irreducible] def oC3 := e15_c.2.1.2.2.2.2.1
@[irreducible] def D3 := e15_c.2.1.2.2.2.2.2
@[irreducible] def m3 := e15_c.2.2.1.1
@[irreducible] def h3 := e15_c.2.2.1.2.1
@[irreducible] def tk3 := e15_c.2.2.1.2.2.1
@[irreducible] def E3 := e15_c.2.2.1.2.2.2.1
@[irreducible] def js := e15_c.2.2.1.2.2.2.2.1
@[irreducible] def g0 := e15_c.2.2.1.2.2.2.2.2
@[irreducible] def l := e15_c.2.2.2
end Ke15
end
section
open Mine.Ka1 hiding tk
open Ka2
open Mine.Ka3 hiding h3 tk3
open Ka4
open Ka5
open Kc15
open Ke15
theorem e15_1 : e15_S Ke15.gl2 Ke15.DG Ke15.h2 Ke15.tk2 Ke15.gg3 Ke15.k3 Ke15.i3 Ke15.I3 Ke15.oI3 Ke15.C3 Ke15.oC3 Ke15.D3 Ke15.m3 Ke15.h3 Ke15.tk3 Ke15.E3 Ke15.js Ke15.g0 Ke15.l := by
 unfold e15_S d15_st
 dsimp only
 intro hg KX T B TE TW M hL v1c15 hI hc63 hct K0 hC5 dB dA dL l5 l4 l3 l2 hcu hcl ecl hcv hcvl hxs hxl hlks hfs hrl hgl hlo v1a3 ltx hsD v2c15 hoD v3c15 hlo2 e5 nDl nDr dW hwl hNW nWy hwl5 hC hid1 hCD hll hlg hl8 hNN off3 hkeep hw0 hK hr0 hm2 hvw hwm hq1 hrg hrl2 hrm hwm0 hgq off4 hg2 ih3 hC3 F5 nes5 off5 N5 hjl hjs hg0 hv3 hx3 hgt hlm hgo hgm c2 c1 hgz hwz
 k_steps
 refine stop_un ?_
 have T4 : ∀ q ∈ (C, oC) :: (K, oK) :: (D, lst (nlVs nl)) :: (Wy, listOf (glVs wl).toArray 0) :: (Dl, oD) :: (Dr, listOf (glVs rl).toArray (glVs rl).length) :: (lK, listOf (lks.map sV).toArray 0) :: (l1a, listOf (fs.map sV).toArray 0) :: (D1, listOf (cu.map iV).toArray 0) :: (s₁.heap.objs.size + 1 + 1 + 1 + 1 + 1 + 1 + 1, o7) :: (s₁.heap.objs.size + 1 + 1 + 1 + 1 + 1 + 1, o6) :: (s₁.heap.objs.size + 1 + 1 + 1 + 1 + 1, o5) :: (s₁.heap.objs.size + 1 + 1 + 1 + 1, oWq) :: (s₁.heap.objs.size + 1 + 1 + 1, qL) :: (s₁.heap.objs.size + 1 + 1, qA) :: (s₁.heap.objs.size + 1, qB) :: (glsOf rl ++ (ldsOf lds ++ (glsOf wl ++ (nlsOf nl ++ (hid ++ glsOf gl2))))), q ∈ (I3, oI3) :: (C3, oC3) :: (D3, lst (js.map iV)) :: (DG, lst (glVs gl2)) :: (C, oC) :: (K, oK) :: (D, lst (nlVs nl)) :: (Wy, listOf (glVs wl).toArray 0) :: (Dl, oD) :: (Dr, listOf (glVs rl).toArray (glVs rl).length) :: (lK, listOf (lks.map sV).toArray 0) :: (l1a, listOf (fs.map sV).toArray 0) :: (D1, listOf (cu.map iV).toArray 0) :: (s₁.heap.objs.size + 1 + 1 + 1 + 1 + 1 + 1 + 1, o7) :: (s₁.heap.objs.size + 1 + 1 + 1 + 1 + 1 + 1, o6) :: (s₁.heap.objs.size + 1 + 1 + 1 + 1 + 1, o5) :: (s₁.heap.objs.size + 1 + 1 + 1 + 1, oWq) :: (s₁.heap.objs.size + 1 + 1 + 1, qL) :: (s₁.heap.objs.size + 1 + 1, qA) :: (s₁.heap.objs.size + 1, qB) :: (glsOf rl ++ (ldsOf lds ++ (glsOf wl ++ (nlsOf nl ++ (hid ++ glsOf gl2))))) := fun q hq => tl4 hq
 refine in_ways (wl := wl) (N5 _ (tl4 (tl3 (.head _)))).1 (fun g hg => (N5 _ (T4 _ (hwz g hg))).1) (N5 _ (T4 _ hgz)).1 c1 c2 (Nat.le_of_ble_eq_true rfl) ?_
 rw [hwl]
 have tk1 := takeF (p := fun g : List Str => decide (g ∈ wayS)) hgt
 by_cases hin : g0.gs.map (·.1) ∈ wayS
 ·rw [decide_eq_true hin]
  k_steps
  refine stop_un ?_
  refine idx_ways (wl := wl) (N5 _ (tl4 (tl3 (.head _)))).1 (fun g hg => (N5 _ (T4 _ (hwz g hg))).1) (N5 _ (T4 _ hgz)).1 c1 c2 (Nat.le_of_ble_eq_true rfl) (by rw [hwl]; exact hin) (by rw [hwl5]; decide) ?_
  rw [hwl]
  k_steps
  refine stop_un ?_
  refine CompEnd.intro F5 N5 _ (fun _ h => h) off5 (.inr ⟨_, .head _, rfl, _, rfl⟩) (ih3 _ _ ⟨rfl, js ++ [(((wayS.idxOf (g0.gs.map (·.1)) : Nat) : Int), _)], by rw [List.map_append]; rfl, by rw [List.length_append]; exact Nat.succ_le_succ hjl, ?_⟩)
  rw [tk1, if_pos (decide_eq_true hin), List.map_append, List.map_append, hjs]
  simp only [List.map_cons, List.map_nil]
 ·rw [decide_eq_false hin]
  k_steps
  refine stop_un ?_
  refine CompEnd.intro F5 N5 _ (fun _ h => h) off5 (.inr ⟨_, .head _, rfl, _, rfl⟩) (ih3 _ _ ⟨rfl, js, rfl, Nat.le_succ_of_le hjl, ?_⟩)
  rw [tk1, if_neg (by rw [decide_eq_false hin]; decide), List.append_nil, hjs]
end
section
open Mine.Ka1 hiding tk
open Ka2
open Ka3
open Ka4
open Ka5
open Kc15
theorem d15_all (gg2 k2 i2 I2 oI2 C2 oC2 D2 m3 h2 tk2 E2 gl2 l lt) : d15_S gg2 k2 i2 I2 oI2 C2 oC2 D2 m3 h2 tk2 E2 gl2 l lt :=
 eps_all (S := d15_u) d15_c rfl (by have := d15_1; with_unfolding_all assumption) ((gg2, k2, i2, I2, oI2, C2), (oC2, D2, m3, h2, tk2, E2), (gl2, l, lt))
theorem e15_all (gl2 DG h2 tk2 gg3 k3 i3 I3 oI3 C3 oC3 D3 m3 h3 tk3 E3 js g0 l) : e15_S gl2 DG h2 tk2 gg3 k3 i3 I3 oI3 C3 oC3 D3 m3 h3 tk3 E3 js g0 l :=
 eps_all (S := e15_u) e15_c rfl (by have := e15_1; with_unfolding_all assumption) ((gl2, DG, h2, tk2, gg3, k3), (i3, I3, oI3, C3, oC3, D3), (m3, h3, tk3, E3, js, g0), (l))
theorem c15_1 : c15_S Kc15.z Kc15.TI Kc15.TO Kc15.i1 Kc15.i2 Kc15.i Kc15.C Kc15.oC Kc15.K Kc15.oK Kc15.D Kc15.m₂ Kc15.h Kc15.tk' Kc15.hid Kc15.E' Kc15.nl Kc15.w0 Kc15.r0 Kc15.q1 :=
 stg_go2 d15_st d15_eq e15_eq d15_all e15_all
end
section
open Mine.Ka1 hiding tk
open Ka2
open Ka3
open Ka4
open Ka5
theorem c15_all (z TI TO i1 i2 i C oC K oK D m₂ h tk' hid E' nl w0 r0 q1) : c15_S z TI TO i1 i2 i C oC K oK D m₂ h tk' hid E' nl w0 r0 q1 :=
 eps_all (S := c15_u) c15_c rfl (by have := c15_1; with_unfolding_all assumption) ((z, TI, TO, i1, i2, i), (C, oC, K, oK, D, m₂), (h, tk', hid, E', nl, w0), (r0, q1))
def a6_st : Stg (Addr → Heap → Nat → (List NL) → Prop) (fun p9 => ∀ DN hn tkn nl, p9 DN hn tkn nl) (a5_S Ka5.Wy Ka5.hz7 Ka5.oWq Ka5.tk Ka5.wl) := Stg.mk c15_st.q (stg_h2 c15_st c15_eq c15_all)
end
end Mine
namespace Mine
open TI PyProof.Rows.LCg PyProof.Rows.LCt
namespace SL16
def h9s_eval_ListComp := sT
def h9s_exec_Assign_cons_ListComp := sT
def h9s_CompSrc := sT
def h9s_CompSrcT := sT
def h9s_CompEnd := sT
def h9s_subscriptTail_Name_Name_ref_int := sT
def h9s_subscriptTail_Subscript_Name_Name_Constant_ref_int := sT
def h9s_subscriptTail_List_BinOp_ref_int := sT
def h9s_subscriptTail_List := sT
def h9s_call_builtin_len := sT
def h9s_call_builtin_sum := sT
def h9s_compareOp_NotIn_str_str := sT
end SL16
open SL16
def fold4 : List Str := [Str.ofString "b", Str.ofString "a", Str.ofString "ab", Str.ofString ""]
def fIx (cu : List (Int × Tok)) : Nat := (Int.fmod (List.map (fun p : Int × Tok => p.1) cu).sum 4).toNat
def leftB (cu : List (Int × Tok)) (k : Nat) : Bool := decide ((wayS.getD k []).length = 1) || !(!(Builtin.Str.occurrences (fold4.getD (fIx cu) (Str.ofString "")) ((wayS.getD k []).headD (Str.ofString "")) 0 (fold4.getD (fIx cu) (Str.ofString "")).length 1).isEmpty)
section
variable {prog : Program} {w : World} {A : Around} {s : Shared} {h₀ : Heap} {L : Addr} {m : Str → Option Value} {env : Env} {ct elt : PySem.Expr} {x : Str} {scope : Scope} {cl : List (Str × Addr)} {S : List (Addr × Obj) → Prop} {Fin : List Value → List (Addr × Obj) → Prop} {n : Nat} {P : Nat → Value → Prop} {J : Nat → List Value → List (Addr × Obj) → Prop}
theorem compT_indP (fin : ∀ ys news, J n ys news → Fin ys news)
  (step : ∀ k i ys news v, P i v → i < n → J i ys news → (∀ ys' news', J (i + 1) ys' news' → CompRestT prog w A h₀ L m env ct elt x scope cl s S P Fin k (i + 1) ys' news') →
   ∀ I oIq C oC D m₂ h tk (E' : Value → Shared → Prop), NsObj oC m₂ → m₂ x = some v → Fr h₀ L h m → News h₀ L h ((I, oIq) :: (C, oC) :: (D, lst ys) :: news) → Off3 I C D news → ((@Ne Nat I C) ∧ (@Ne Nat I D) ∧ (@Ne Nat C D)) →
   wpAny (model prog w) A (isTrue ct (compEnvC scope cl C env) (eval ct (compEnvC scope cl C env))) (fun ok s' => if ok = true then
    wpAny (model prog w) A (eval elt (compEnvC scope cl C env)) (CompEnd h₀ L m { s with heap := h, toks := tk } I oIq C oC D (lst ys) S (fun y news' => CompRestT prog w A h₀ L m env ct elt x scope cl s S P Fin k (i + 1) (ys ++ [y]) news')) E' s'
    else CompEnd h₀ L m { s with heap := h, toks := tk } I oIq C oC D (lst ys) S (fun _ news' => CompRestT prog w A h₀ L m env ct elt x scope cl s S P Fin k (i + 1) ys news') Value.none s') E' { s with heap := h, toks := tk }) :
  ∀ k i ys news, i + k = n → J i ys news → CompRestT prog w A h₀ L m env ct elt x scope cl s S P Fin k i ys news
 | 0, i, ys, news, e, j => CompRestT.zero (fin ys news (by rw [← e]; exact j))
 | k + 1, i, ys, news, e, j => CompRestT.succ fun v I oIq C oC D m₂ h tk E' hv hC hx F N off ne =>
   step k i ys news v hv (by omega) j (fun ys' news' j' => compT_indP fin step k (i + 1) ys' news' (by omega) j') I oIq C oC D m₂ h tk E' hC hx F N off ne
end
theorem f4_get {fl : List (Str × Tok)} (h : fl.map (·.1) = fold4) (k : Int) : 0 ≤ k.fmod 4 ∧ k.fmod 4 < 2 ^ 63 ∧ ∃ p t, fl[(k.fmod 4).toNat]? = some (p, t) ∧ p = fold4.getD (k.fmod 4).toNat (Str.ofString "") := by
 have e : k.fmod 4 = k % 4 := Int.fmod_eq_emod_of_nonneg _ (by decide)
 have h0 : 0 ≤ k.fmod 4 := by rw [e]; exact Int.emod_nonneg _ (by decide)
 have h1 : k.fmod 4 < 4 := by rw [e]; exact Int.emod_lt_of_pos _ (by decide)
 have hl : fl.length = 4 := by have := congrArg List.length h; rw [List.length_map] at this; exact this
 refine ⟨h0, by omega, ?_⟩
 obtain ⟨q, hq⟩ : ∃ q, fl[(k.fmod 4).toNat]? = some q := ⟨_, List.getElem?_eq_getElem (by omega)⟩
 refine ⟨q.1, q.2, hq, ?_⟩
 rw [← h, List.getD_eq_getElem?_getD, List.getElem?_map, hq]; rfl
@[irreducible] def a6_S := a6_st.p
theorem a6_eq : a6_S = a6_st.p := by unfold a6_S; rfl
abbrev a6_u (z9 : Addr × Heap × Nat × (List NL)) : Prop := u4 a6_S z9
def a6_c := eps (by walk_at "ne") a6_u
namespace Ka6
@[irreducible] def DN := a6_c.1
@[irreducible] def hn := a6_c.2.1
@[irreducible] def tkn := a6_c.2.2.1
@[irreducible] def nl := a6_c.2.2.2
end Ka6
section
open Mine.Ka1 hiding tk
open Ka2
open Ka3
open Ka4
open Ka5
open Ka6
def c16_st : Stg2 (Heap → Obj → Nat → Heap → Nat → Tok → Tok → Tok → Heap → Nat → Nat → Addr → Obj → Addr → Obj → Addr → (Str → Option Value) → Heap → Nat → (Value → Shared → Prop) → Tok → (List (Int × Tok)) → Prop) (Heap → Obj → Nat → Heap → Tok → Tok → Tok → (List (Int × Tok)) → Addr → Heap → Nat → Prop) (fun p9 => ∀ hNa oN tk hR tR t1R u1R v1R gg k i I oIq C oC D m₂ h tk' E' t ks, p9 hNa oN tk hR tR t1R u1R v1R gg k i I oIq C oC D m₂ h tk' E' t ks) (fun p9 => ∀ hNa oN tk hR t1R u1R v1R ks DK h5 tk5, p9 hNa oN tk hR t1R u1R v1R ks DK h5 tk5) (a6_S Ka6.DN Ka6.hn Ka6.tkn Ka6.nl) := by
 refine' Stg2.mk _ _ fun h9c16 h9a7 => ?hk9
 case hk9 =>
  unfold a6_S a6_st c15_st
  dsimp only
  intro hg KX T B TE TW M hL r0 hI hc63 hct K0 hC5 dB dA dL l5 l4 l3 l2 hcu hcl ecl hcv hcvl hxs hxl hlks hfs hrl hgl hlo v1a3 ltx hsD v1a6 hoD v2a6 hlo2 e5 nDl nDr dW hwl hNW nWy hwl5 F4 hll hlg hl8 hNN nDN hNA N4
  have hNT : NC s₁.heap.objs.size (ldsOf lds ++ (nlsOf nl ++ glsOf wl)) := by
   rw [← List.append_assoc]
   exact NC.append hNA fun q hq => hNW q (List.mem_append_right _ (List.mem_append_right _ hq))
  walk_at "hide"
  obtain ⟨z1, z2, z3, z4, z5, z6⟩ := (fun c _ => by and_intros <;> exact neN (by omega) : ∀ c, c = s₁.heap.objs.size + 1 + 1 + 1 + 1 + 1 → DN ≠ c ∧ Wy ≠ c ∧ Dl ≠ c ∧ lK ≠ c ∧ l1a ≠ c ∧ D1 ≠ c) _ rfl
  walk_at "unhide"
  have c5 : ∀ q ∈ ldsOf lds ++ (nlsOf nl ++ glsOf wl), q.1 ≠ s₁.heap.objs.size + 1 + 1 + 1 + 1 + 1 := fun q hq => (hNT q hq).2.2.1
  clear hNW hNA hNN
  k_steps
  refine stop_un ?_
  with_reducible rename Fr s₁.heap s₁.heap.objs.size _ _ => FA
  with_reducible rename News s₁.heap s₁.heap.objs.size _ _ => NA
  refine wpAny_Assign_Name ?_ (by with_unfolding_all rfl)
  refine LCt.ListComp_T (F₀ := FA) (by with_unfolding_all rfl) (by decide) (by rfl) (by decide) (by rfl) ?_
  k_steps
  refine stop_un ?_
  rename_i hNa oN FA0 NA0 dN hR tR t1R u1R v1R rgR FR NR kpR
  clear kpR FA0 NA0
  refine LCt.CompSrcT.range (n := 5) rfl FR NR rgR (by decide) (by first | rfl | decide) (by rw [sizeLine_eq]; exact Nat.le_of_ble_eq_true rfl) ?_
  intro gg
  refine compT_indP (n := 5) (P := fun i v => ∃ t, v = .int (0 + (i : Int)) t) (J := fun i ys news => news = (DN, listOf (nlVs nl).toArray (nlVs nl).length) :: (Wy, listOf (glVs wl).toArray 0) :: (Dl, oD) :: (lK, listOf (lks.map sV).toArray 0) :: (l1a, listOf (fs.map sV).toArray 0) :: (D1, listOf (cu.map iV).toArray 0) :: (s₁.heap.objs.size + 1 + 1 + 1 + 1 + 1 + 1 + 1, o7) :: (s₁.heap.objs.size + 1 + 1 + 1 + 1 + 1 + 1, o6) :: (s₁.heap.objs.size + 1 + 1 + 1 + 1 + 1, oN) :: (s₁.heap.objs.size + 1 + 1 + 1 + 1, oWq) :: (s₁.heap.objs.size + 1 + 1 + 1, qL) :: (s₁.heap.objs.size + 1 + 1, qA) :: (s₁.heap.objs.size + 1, qB) :: (ldsOf lds ++ (nlsOf nl ++ glsOf wl)) ∧ ∃ ks : List (Int × Tok), ys = ks.map iV ∧ ks.map (·.1) = ((List.range i).filter (leftB cu)).map (fun k : Nat => (k : Int))) ?fin ?step _ 0 [] _ (Nat.zero_add _) ⟨rfl, [], rfl, rfl⟩
  case step =>
   intro k i ys news v W91 hi W92 ih I oIq C oC D m₂ h tk' E' hC hx F3 N3 off nes
   walk_at "hide"
   obtain ⟨t, rfl⟩ := W91
   obtain ⟨rfl, ks, rfl, hks⟩ := W92
   walk_at "unhide"
   clear FR NR
   (try dsimp only)
   revert hg KX T B TE TW M hL r0 hI hc63 hct K0 hC5 dB dA dL l5 l4 l3 l2 hcu hcl ecl hcv hcvl hxs hxl hlks hfs hrl hgl hlo v1a3 ltx hsD v1a6 hoD v2a6 hlo2 e5 nDl nDr dW hwl nWy hwl5 hll hlg hl8 nDN hNT c5 dN rgR hi ih hC F3 nes hx off hks N3
   exact h9c16 hNa oN tk hR tR t1R u1R v1R gg k i I oIq C oC D m₂ h tk' E' t ks
  case fin =>
   intro ys news W93
   walk_at "hide"
   obtain ⟨rfl, ks, rfl, hks⟩ := W93
   walk_at "unhide"
   unfold FinE
   intro DK h5 tk5 F5 N5 off5
   dsimp only
   revert hg KX T B TE TW M hL r0 hI hc63 hct K0 hC5 dB dA dL l5 l4 l3 l2 hcu hcl ecl hcv hcvl hxs hxl hlks hfs hrl hgl hlo v1a3 ltx hsD v1a6 hoD v2a6 hlo2 e5 nDl nDr dW hwl nWy hwl5 hll hlg hl8 nDN hNT c5 dN rgR FR NR hks F5 N5 off5
   exact h9a7 hNa oN tk hR t1R u1R v1R ks DK h5 tk5
@[irreducible] def c16_S := c16_st.p
theorem c16_eq : c16_S = c16_st.p := by unfold c16_S; rfl
abbrev c16_u (z9 : (Heap × Obj × Nat × Heap × Nat × Tok) × (Tok × Tok × Heap × Nat × Nat × Addr) × (Obj × Addr × Obj × Addr × (Str → Option Value) × Heap) × (Nat × (Value → Shared → Prop) × Tok × (List (Int × Tok)))) : Prop := u4 (u6 (u6 (u6 c16_S z9.1) z9.2.1) z9.2.2.1) z9.2.2.2
def c16_c := eps (by walk_at "ne") c16_u
namespace Kc16
@[irreducible] def hNa := c16_c.1.1
@[irreducible] def oN := c16_c.1.2.1
@[irreducible] def tk := c16_c.1.2.2.1
@[irreducible] def hR := c16_c.1.2.2.2.1
@[irreducible] def tR := c16_c.1.2.2.2.2.1
@[irreducible] def t1R := c16_c.1.2.2.2.2.2
@[irreducible] def u1R := c16_c.2.1.1
@[irreducible] def v1R := c16_c.2.1.2.1
@[irreducible] def gg := c16_c.2.1.2.2.1
@[irreducible] def k := c16_c.2.1.2.2.2.1
@[irreducible] def i := c16_c.2.1.2.2.2.2.1
@[irreducible] def I := c16_c.2.1.2.2.2.2.2
@[irreducible] def oIq := c16_c.2.2.1.1
@[irreducible] def C := c16_c.2.2.1.2.1
@[irreducible] def oC := c16_c.2.2.1.2.2.1
@[irreducible] def D := c16_c.2.2.1.2.2.2.1
@[irreducible] def m₂ := c16_c.2.2.1.2.2.2.2.1
@[irreducible] def h := c16_c.2.2.1.2.2.2.2.2
@[irreducible] def tk' := c16_c.2.2.2.1
@[irreducible] def E' := c16_c.2.2.2.2.1
@[irreducible] def t := c16_c.2.2.2.2.2.1
@[irreducible] def ks := c16_c.2.2.2.2.2.2
end Kc16
end
section
open Mine.Ka1 hiding tk
open Ka2
open Ka3
open Ka4
open Mine.Ka5 hiding tk
open Ka6
open Kc16
theorem c16_1 : c16_S Kc16.hNa Kc16.oN Kc16.tk Kc16.hR Kc16.tR Kc16.t1R Kc16.u1R Kc16.v1R Kc16.gg Kc16.k Kc16.i Kc16.I Kc16.oIq Kc16.C Kc16.oC Kc16.D Kc16.m₂ Kc16.h Kc16.tk' Kc16.E' Kc16.t Kc16.ks := by
 unfold c16_S c16_st
 dsimp only
 intro hg KX T B TE TW M hL r0 hI hc63 hct K0 hC5 dB dA dL l5 l4 l3 l2 hcu hcl ecl hcv hcvl hxs hxl hlks hfs hrl hgl hlo v1a3 ltx hsD v1a6 hoD v2a6 hlo2 e5 nDl nDr dW hwl nWy hwl5 hll hlg hl8 nDN hNT c5 dN rgR hi ih hC F3 nes hx off hks N3
 k_steps
 refine stop_un ?_
 obtain ⟨w0, hw0⟩ : ∃ w0, wl[i]? = some w0 := ⟨_, List.getElem?_eq_getElem (by omega)⟩
 have hvw : wayS[i]? = some (w0.gs.map (·.1)) := by rw [← hwl]; unfold glNs; rw [List.getElem?_map, hw0]; rfl
 have hws : wayS.getD i [] = w0.gs.map (·.1) := by rw [List.getD_eq_getElem?_getD, hvw]; rfl
 obtain ⟨p0, gr, hgs⟩ : ∃ p0 gr, w0.gs = p0 :: gr := by
  have h1 : ∀ w ∈ wayS, w ≠ [] := by decide +kernel
  have h2 := h1 _ (List.mem_of_getElem? hvw)
  cases hq : w0.gs with
  | nil => rw [hq] at h2; exact absurd rfl h2
  | cons a r => exact ⟨a, r, rfl⟩
 have hgl8 : w0.gs.length ≤ 8 := by
  have h1 : ∀ w ∈ wayS, w.length ≤ 8 := by decide +kernel
  have := h1 _ (List.mem_of_getElem? hvw)
  rw [List.length_map] at this
  exact this
 have hwm0 : (w0.ad, w0.ob) ∈ glsOf wl := List.mem_map.mpr ⟨w0, List.mem_of_getElem? hw0, rfl⟩
 have hwz : (w0.ad, w0.ob) ∈ (DN, listOf (nlVs nl).toArray (nlVs nl).length) :: (Wy, listOf (glVs wl).toArray 0) :: (Dl, oD) :: (lK, listOf (lks.map sV).toArray 0) :: (l1a, listOf (fs.map sV).toArray 0) :: (D1, listOf (cu.map iV).toArray 0) :: (s₁.heap.objs.size + 1 + 1 + 1 + 1 + 1 + 1 + 1, o7) :: (s₁.heap.objs.size + 1 + 1 + 1 + 1 + 1 + 1, o6) :: (s₁.heap.objs.size + 1 + 1 + 1 + 1 + 1, oN) :: (s₁.heap.objs.size + 1 + 1 + 1 + 1, oWq) :: (s₁.heap.objs.size + 1 + 1 + 1, qL) :: (s₁.heap.objs.size + 1 + 1, qA) :: (s₁.heap.objs.size + 1, qB) :: (ldsOf lds ++ (nlsOf nl ++ glsOf wl)) := by (repeat (first | (with_reducible exact List.mem_append_right _ (List.mem_append_right _ hwm0)) | apply List.mem_cons_of_mem))
 refine kim_list (l := glVs wl) (lo := listOf (glVs wl).toArray 0) N3 (tl4 (.head _)) rfl rfl (by omega) (by omega) (x := .ref w0.ad) (by rw [Int.zero_add, Int.toNat_natCast]; unfold glVs; rw [List.getElem?_map, hw0]; rfl) ?_
 k_steps
 refine stop_un ?_
 refine len_vals (vs := w0.gs.map sV) (News.isList N3 (tl3 hwz)) (by rw [List.length_map]; omega) ?_
 k_steps
 ·refine stop_un ?_
  rename_i h1
  refine CompEnd.intro F3 N3 _ (fun _ h => h) off trivial (ih _ _ ⟨rfl, ks ++ [((0 : Int) + (i : Int), t)], by rw [List.map_append]; rfl, ?_⟩)
  have hb : leftB cu i = true := by
   unfold leftB
   rw [hws, decide_eq_true (by rw [List.length_map]; rw [List.length_map] at h1; omega), Bool.true_or]
  rw [List.range_succ, List.filter_append, List.filter_cons_of_pos (by exact hb), List.filter_nil, List.map_append, List.map_append, hks, List.map_cons, List.map_nil, List.map_cons, List.map_nil, Int.zero_add]
 ·refine stop_un ?_
  rename_i h1
  refine kim_list (l := glVs wl) (lo := listOf (glVs wl).toArray 0) N3 (tl4 (.head _)) rfl rfl (by omega) (by omega) (x := .ref w0.ad) (by rw [Int.zero_add, Int.toNat_natCast]; unfold glVs; rw [List.getElem?_map, hw0]; rfl) ?_
  k_steps
  refine stop_un ?_
  refine kba_turn (value' := .Name (Str.ofString "x") ⟨0, 0, 0, 0⟩) (fun _ => rfl) ?_
  refine kim_list (l := w0.gs.map sV) (lo := w0.ob) N3 (tl3 hwz) rfl rfl (by decide) (by decide) (x := sV p0) (by rw [hgs]; rfl) ?_
  dsimp only
  k_steps
  refine stop_un ?_
  with_reducible rename Fr s₁.heap s₁.heap.objs.size _ _ => F4
  with_reducible rename News s₁.heap s₁.heap.objs.size _ _ => N4
  rename_i Lf hLf ltf
  have V4 : ∀ q ∈ (DN, listOf (nlVs nl).toArray (nlVs nl).length) :: (Wy, listOf (glVs wl).toArray 0) :: (Dl, oD) :: (lK, listOf (lks.map sV).toArray 0) :: (l1a, listOf (fs.map sV).toArray 0) :: (D1, listOf (cu.map iV).toArray 0) :: (s₁.heap.objs.size + 1 + 1 + 1 + 1 + 1 + 1 + 1, o7) :: (s₁.heap.objs.size + 1 + 1 + 1 + 1 + 1 + 1, o6) :: (s₁.heap.objs.size + 1 + 1 + 1 + 1 + 1, oN) :: (s₁.heap.objs.size + 1 + 1 + 1 + 1, oWq) :: (s₁.heap.objs.size + 1 + 1 + 1, qL) :: (s₁.heap.objs.size + 1 + 1, qA) :: (s₁.heap.objs.size + 1, qB) :: (ldsOf lds ++ (nlsOf nl ++ glsOf wl)), q ∈ (Lf, listOf #[Value.str (Str.ofString "b") (tk' + 1 + 1 + 1 + 1), Value.str (Str.ofString "a") (tk' + 1 + 1 + 1 + 1 + 1), Value.str (Str.ofString "ab") (tk' + 1 + 1 + 1 + 1 + 1 + 1), Value.str (Str.ofString "") (tk' + 1 + 1 + 1 + 1 + 1 + 1 + 1)] 0) :: (I, oIq) :: (C, oC) :: (D, lst (List.map iV ks)) :: (DN, listOf (nlVs nl).toArray (nlVs nl).length) :: (Wy, listOf (glVs wl).toArray 0) :: (Dl, oD) :: (lK, listOf (lks.map sV).toArray 0) :: (l1a, listOf (fs.map sV).toArray 0) :: (D1, listOf (cu.map iV).toArray 0) :: (s₁.heap.objs.size + 1 + 1 + 1 + 1 + 1 + 1 + 1, o7) :: (s₁.heap.objs.size + 1 + 1 + 1 + 1 + 1 + 1, o6) :: (s₁.heap.objs.size + 1 + 1 + 1 + 1 + 1, oN) :: (s₁.heap.objs.size + 1 + 1 + 1 + 1, oWq) :: (s₁.heap.objs.size + 1 + 1 + 1, qL) :: (s₁.heap.objs.size + 1 + 1, qA) :: (s₁.heap.objs.size + 1, qB) :: (ldsOf lds ++ (nlsOf nl ++ glsOf wl)) := fun q hq => tl4 hq
  refine sumK (vs := cu.map iV) (ns := cu.map (·.1)) rfl F4 N4 (News.isList N4 (V4 _ (tl4 (.tail _ (.head _))))) (ints_of cu) ?_
  clear F4 N4
  intro h6 tk6 t6 F6 N6
  k_steps
  refine stop_un ?_
  refine kba_turn (value' := .Name (Str.ofString "x") ⟨0, 0, 0, 0⟩) (fun _ => rfl) ?_
  walk_at "hide"
  obtain ⟨a0, a1, p1, t1, hp1, ep1⟩ := f4_get (fl := [(Str.ofString "b", tk' + 1 + 1 + 1 + 1), (Str.ofString "a", tk' + 1 + 1 + 1 + 1 + 1), (Str.ofString "ab", tk' + 1 + 1 + 1 + 1 + 1 + 1), (Str.ofString "", tk' + 1 + 1 + 1 + 1 + 1 + 1 + 1)]) rfl (cu.map (·.1)).sum
  walk_at "unhide"
  refine kim_list (l := ([(Str.ofString "b", tk' + 1 + 1 + 1 + 1), (Str.ofString "a", tk' + 1 + 1 + 1 + 1 + 1), (Str.ofString "ab", tk' + 1 + 1 + 1 + 1 + 1 + 1), (Str.ofString "", tk' + 1 + 1 + 1 + 1 + 1 + 1 + 1)] : List (Str × Tok)).map sV) (lo := listOf #[Value.str (Str.ofString "b") (tk' + 1 + 1 + 1 + 1), Value.str (Str.ofString "a") (tk' + 1 + 1 + 1 + 1 + 1), Value.str (Str.ofString "ab") (tk' + 1 + 1 + 1 + 1 + 1 + 1), Value.str (Str.ofString "") (tk' + 1 + 1 + 1 + 1 + 1 + 1 + 1)] 0) N6 (.head _) rfl rfl a0 a1 (x := sV (p1, t1)) (by rw [List.getElem?_map, hp1]; rfl) ?_
  dsimp only
  k_steps
  refine stop_un ?_
  have hh1 : ¬ (w0.gs.map (·.1)).length = 1 := by rw [List.length_map]; rw [List.length_map] at h1; omega
  have hhd : (w0.gs.map (·.1)).headD (Str.ofString "") = p0.1 := by rw [hgs]; rfl
  have ep1 : p1 = fold4.getD (fIx cu) (Str.ofString "") := ep1
  refine notIn_str ?_
  generalize hb : (!(!(Builtin.Str.occurrences p1 p0.1 0 p1.length 1).isEmpty)) = b
  have hlb : leftB cu i = b := by
   unfold leftB
   rw [hws, decide_eq_false hh1, Bool.false_or, hhd, ← ep1, hb]
  cases b with
  | true =>
   k_steps
   refine stop_un ?_
   refine CompEnd.intro F6 N6 _ (fun _ h => .tail _ h) off trivial (ih _ _ ⟨rfl, ks ++ [((0 : Int) + (i : Int), t)], by rw [List.map_append]; rfl, ?_⟩)
   rw [List.range_succ, List.filter_append, List.filter_cons_of_pos hlb, List.filter_nil, List.map_append, List.map_append, hks, List.map_cons, List.map_nil, List.map_cons, List.map_nil, Int.zero_add]
  | false =>
   k_steps
   refine stop_un ?_
   refine CompEnd.intro F6 N6 _ (fun _ h => .tail _ h) off trivial (ih _ _ ⟨rfl, ks, rfl, ?_⟩)
   rw [List.range_succ, List.filter_append, List.filter_cons_of_neg (by rw [hlb]; decide), List.filter_nil, List.append_nil, hks]
end
section
open Mine.Ka1 hiding tk
open Ka2
open Ka3
open Ka4
open Ka5
open Ka6
theorem c16_all (hNa oN tk hR tR t1R u1R v1R gg k i I oIq C oC D m₂ h tk' E' t ks) : c16_S hNa oN tk hR tR t1R u1R v1R gg k i I oIq C oC D m₂ h tk' E' t ks :=
 eps_all (S := c16_u) c16_c rfl (by have := c16_1; with_unfolding_all assumption) ((hNa, oN, tk, hR, tR, t1R), (u1R, v1R, gg, k, i, I), (oIq, C, oC, D, m₂, h), (tk', E', t, ks))
def a7_st : Stg (Heap → Obj → Nat → Heap → Tok → Tok → Tok → (List (Int × Tok)) → Addr → Heap → Nat → Prop) (fun p9 => ∀ hNa oN tk hR t1R u1R v1R ks DK h5 tk5, p9 hNa oN tk hR t1R u1R v1R ks DK h5 tk5) (a6_S Ka6.DN Ka6.hn Ka6.tkn Ka6.nl) := Stg.mk c16_st.q (stg_h2 c16_st c16_eq c16_all)
end
end Mine
namespace Mine
def foldW : Nat → List Str
 | 0 => [fnS (Str.ofString "/b/.")]
 | 1 => [fnS (Str.ofString "/a//.")]
 | 2 => [fnS (Str.ofString "/b"), fnS (Str.ofString "/a/.")]
 | _ => []
theorem dok : ∀ d ∈ [Str.ofString "/b/.", Str.ofString "/a//.", Str.ofString "/b", Str.ofString "/a/."], DOk d := by
 have h : ∀ P ∈ [Str.ofString "/b/.", Str.ofString "/a//.", Str.ofString "/b", Str.ofString "/a/."], P.length ≤ 40 ∧ ((normG P).map (·.length)).sum + (normG P).length * 64 ≤ 16777216 ∧ (Txt.join sl0 (normG P)).length ≤ 100 ∧ ((P.length : Int) != 0) = true ∧
  (∀ y ∈ Txt.split (Txt.slice P (some 1) none) sl0, y.length ≤ 100) ∧ (Txt.split (Txt.slice P (some 1) none) sl0).length ≤ 20 ∧ (Txt.slice P none (some 1) != Str.ofString "/") = false ∧ (Txt.slice P (some 1) (some 2) != Str.ofString "/") = true ∧
  Txt.slice ((Str.ofString "/" ++ Txt.join sl0 (normG P)) ++ sl0) none (some (-1)) = Str.ofString "/" ++ Txt.join sl0 (normG P) ∧ (fnS P).length ≤ 40 := by decide +kernel
 exact fun d hd => let ⟨a, b, c, d', e, g, i, j, k, l⟩ := h d hd; ⟨⟨a, b, c, d', e, g, i, j⟩, ⟨k⟩, l⟩
def lB (c k : Nat) : Bool := decide ((wayS.getD k []).length = 1) || !(!(Builtin.Str.occurrences (fold4.getD c (Str.ofString "")) ((wayS.getD k []).headD (Str.ofString "")) 0 (fold4.getD c (Str.ofString "")).length 1).isEmpty)
theorem ans_left : ∀ c < 4, ∀ k < 5, gX (foldW c) vFiles k = if lB c k then 0 else 1 := by decide +kernel
theorem leftB_eq (cu : List (Int × Tok)) (k : Nat) : leftB cu k = lB (fIx cu) k := rfl
theorem fIx_lt (cu : List (Int × Tok)) : fIx cu < 4 := by
 unfold fIx
 rw [Int.fmod_eq_emod_of_nonneg _ (by decide)]
 have h0 : 0 ≤ (List.map (fun p : Int × Tok => p.1) cu).sum % 4 := Int.emod_nonneg _ (by decide)
 have h1 : (List.map (fun p : Int × Tok => p.1) cu).sum % 4 < 4 := Int.emod_lt_of_pos _ (by decide)
 omega
end Mine
namespace Mine
open TI PyProof.Rows.LCg PyProof.Rows.LCt
namespace SL17
def h9s_eval_ListComp := sT
def h9s_exec_Assign_cons_ListComp := sT
def h9s_CompSrc := sT
def h9s_CompSrcT := sT
def h9s_CompEnd := sT
def h9s_subscriptTail_List := sT
def h9s_call_builtin_sum := sT
theorem h9r0 : StopRef 337 := trivial
end SL17
open SL17
@[irreducible] def a7_S := a7_st.p
theorem a7_eq : a7_S = a7_st.p := by unfold a7_S; rfl
abbrev a7_u (z9 : (Heap × Obj × Nat × Heap × Tok × Tok) × (Tok × (List (Int × Tok)) × Addr × Heap × Nat)) : Prop := u5 (u6 a7_S z9.1) z9.2
def a7_c := eps (by walk_at "ne") a7_u
namespace Ka7
@[irreducible] def hNa := a7_c.1.1
@[irreducible] def oN := a7_c.1.2.1
@[irreducible] def tk := a7_c.1.2.2.1
@[irreducible] def hR := a7_c.1.2.2.2.1
@[irreducible] def t1R := a7_c.1.2.2.2.2.1
@[irreducible] def u1R := a7_c.1.2.2.2.2.2
@[irreducible] def v1R := a7_c.2.1
@[irreducible] def ks := a7_c.2.2.1
@[irreducible] def DK := a7_c.2.2.2.1
@[irreducible] def h5 := a7_c.2.2.2.2.1
@[irreducible] def tk5 := a7_c.2.2.2.2.2
end Ka7
section
open Mine.Ka1 hiding tk
open Ka2
open Ka3
open Ka4
open Mine.Ka5 hiding tk
open Ka6
open Ka7
def a8_st : Stg (Obj → Nat → Addr → Addr → Addr → Addr → Heap → Heap → Nat → Addr → (List (Int × Tok)) → Nat → Prop) (fun p9 => ∀ oQq tk f1 f2 f3 fL h6 h7 tk7 ra ans c7, p9 oQq tk f1 f2 f3 fL h6 h7 tk7 ra ans c7) (a7_S Ka7.hNa Ka7.oN Ka7.tk Ka7.hR Ka7.t1R Ka7.u1R Ka7.v1R Ka7.ks Ka7.DK Ka7.h5 Ka7.tk5) := by
 refine' Stg.mk _ fun h9a8 => ?hk9
 case hk9 =>
  unfold a7_S a7_st c16_st
  dsimp only
  intro hg KX T B TE TW M hL r0 hI hc63 hct K0 hC5 dB dA dL l5 l4 l3 l2 hcu hcl ecl hcv hcvl hxs hxl hlks hfs hrl hgl hlo v1a3 ltx hsD v1a6 hoD v2a6 hlo2 e5 nDl nDr dW hwl nWy hwl5 hll hlg hl8 nDN hNT c5 dN rgR FR NR hks F5 N5 off5
  replace K0 : Below callerA s₁.heap [] s₁.heap := K0
  walk_at "hide"
  obtain ⟨z1, z2, z3, z4, z5, z6⟩ := (fun c _ => by and_intros <;> exact neN (by omega) : ∀ c, c = s₁.heap.objs.size + 1 + 1 + 1 + 1 + 1 + 1 → DN ≠ c ∧ Wy ≠ c ∧ Dl ≠ c ∧ lK ≠ c ∧ l1a ≠ c ∧ D1 ≠ c) _ rfl
  walk_at "unhide"
  have c6 : ∀ q ∈ ldsOf lds ++ (nlsOf nl ++ glsOf wl), q.1 ≠ s₁.heap.objs.size + 1 + 1 + 1 + 1 + 1 + 1 := fun q hq => (hNT q hq).2.1
  have o5f := off1_mem off5
  simp only [Off1] at off5
  k_steps
  refine stop_un ?_
  rename_i hq1 oQq dQ f1 hq2 ltA f2 hq3 ltB f3 hq4 ltC fL hq5 FA NA ltD
  refine sumK (vs := cu.map iV) (ns := cu.map (·.1)) rfl FA NA (News.isList NA (by (walk_at "hd"))) (ints_of cu) ?_
  clear FA NA
  intro h6 tk6 t6 F6 N6
  k_steps
  refine stop_un ?_
  refine kba_turn (value' := .Name (Str.ofString "x") ⟨0, 0, 0, 0⟩) (fun _ => rfl) ?_
  obtain ⟨a0, a1, _⟩ := f4_get (fl := [(Str.ofString "b", 0), (Str.ofString "a", 0), (Str.ofString "ab", 0), (Str.ofString "", 0)]) rfl (cu.map (·.1)).sum
  obtain ⟨FU, hFU, N6⟩ : ∃ FU, FU = (f3, listOf #[Value.str (Str.ofString "/b") (tk + 1 + 1), Value.str (Str.ofString "/a/.") (tk + 1 + 1 + 1)] 0) :: (f2, listOf #[Value.str (Str.ofString "/a//.") (tk + 1)] 0) :: (f1, listOf #[Value.str (Str.ofString "/b/.") tk] 0) :: (DK, lst (ks.map iV)) :: (DN, listOf (nlVs nl).toArray (nlVs nl).length) :: (Wy, listOf (glVs wl).toArray 0) :: (Dl, oD) :: (lK, listOf (lks.map sV).toArray 0) :: (l1a, listOf (fs.map sV).toArray 0) :: (D1, listOf (cu.map iV).toArray 0) :: (s₁.heap.objs.size + 1 + 1 + 1 + 1 + 1 + 1 + 1, o7) :: (s₁.heap.objs.size + 1 + 1 + 1 + 1 + 1 + 1, oQq) :: (s₁.heap.objs.size + 1 + 1 + 1 + 1 + 1, oN) :: (s₁.heap.objs.size + 1 + 1 + 1 + 1, oWq) :: (s₁.heap.objs.size + 1 + 1 + 1, qL) :: (s₁.heap.objs.size + 1 + 1, qA) :: (s₁.heap.objs.size + 1, qB) :: (ldsOf lds ++ (nlsOf nl ++ glsOf wl)) ∧ News s₁.heap s₁.heap.objs.size h6 ((fL, listOf #[Value.ref f1, Value.ref f2, Value.ref f3, Value.none] 0) :: FU) := ⟨_, rfl, N6⟩
  obtain ⟨v, dns, E9, hx, hE9, hv, hdn⟩ : ∃ (v : Value) (dns : List Str) (E9 : List (Addr × Obj)), [Value.ref f1, Value.ref f2, Value.ref f3, Value.none][fIx cu]? = some v ∧ (∀ q ∈ E9, q ∈ FU) ∧
    ((v = .none ∧ dns = []) ∨ (∃ (da : Addr) (ds : List (Str × Tok)) (dc : Nat) (rest' : List (Addr × Obj)), v = .ref da ∧ E9 ++ FU = (da, listOf (ds.map sV).toArray dc) :: rest' ∧ ds ≠ [] ∧ ds.length ≤ 2 ∧ (∀ d ∈ ds, DOk d.1) ∧ dns = ds.map fun d => fnS d.1)) ∧ dns = foldW (fIx cu) := by
   have h4 := fIx_lt cu
   rcases (by omega : fIx cu = 0 ∨ fIx cu = 1 ∨ fIx cu = 2 ∨ fIx cu = 3) with e | e | e | e
   ·rw [e]
    refine ⟨.ref f1, _, [(f1, _)], rfl, fun q hq => ?_, .inr ⟨f1, [(Str.ofString "/b/.", tk)], 0, FU, rfl, rfl, by simp, Nat.le_of_ble_eq_true rfl, fun d hd => ?_, rfl⟩, rfl⟩
    ·rw [List.mem_singleton.mp hq, hFU]; exact tl2 (.head _)
    ·rw [List.mem_singleton.mp hd]; exact dok _ (.head _)
   ·rw [e]
    refine ⟨.ref f2, _, [(f2, _)], rfl, fun q hq => ?_, .inr ⟨f2, [(Str.ofString "/a//.", tk + 1)], 0, FU, rfl, rfl, by simp, Nat.le_of_ble_eq_true rfl, fun d hd => ?_, rfl⟩, rfl⟩
    ·rw [List.mem_singleton.mp hq, hFU]; exact .tail _ (.head _)
    ·rw [List.mem_singleton.mp hd]; exact dok _ (.tail _ (.head _))
   ·rw [e]
    refine ⟨.ref f3, _, [(f3, _)], rfl, fun q hq => ?_, .inr ⟨f3, [(Str.ofString "/b", tk + 1 + 1), (Str.ofString "/a/.", tk + 1 + 1 + 1)], 0, FU, rfl, rfl, by simp, Nat.le_of_ble_eq_true rfl, fun d hd => ?_, rfl⟩, rfl⟩
    ·rw [List.mem_singleton.mp hq, hFU]; exact .head _
    ·simp only [List.mem_cons, List.not_mem_nil, or_false] at hd
     rcases hd with rfl | rfl
     ·exact dok _ (tl2 (.head _))
     ·exact dok _ (tl3 (.head _))
   ·rw [e]
    exact ⟨.none, [], [], rfl, fun q hq => (nomatch hq), .inl ⟨rfl, rfl⟩, rfl⟩
  refine kim_list (l := [Value.ref f1, Value.ref f2, Value.ref f3, Value.none]) (lo := listOf #[Value.ref f1, Value.ref f2, Value.ref f3, Value.none] 0) N6 (.head _) rfl rfl a0 a1 (x := v) hx ?_
  k_steps
  refine stop_un ?_
  have hfs5 : fs.length = 5 := by
   have := congrArg List.length hfs
   rw [List.length_map] at this
   exact this
  refine lans (fs := fs) (fct := 0) (dns := dns) (rest := E9 ++ FU) K0 F6 KX (fun q hq => ?nn) hfs5 (fun f hf => ?ff) hv T rfl (by decide) (by decide) ?_
  case nn =>
   rcases List.mem_cons.mp hq with rfl | hq
   ·refine N6 _ (.tail _ ?_)
    rw [hFU]; (walk_at "hd")
   ·rcases List.mem_append.mp hq with hq | hq
    ·exact N6 q (.tail _ (hE9 q hq))
    ·exact N6 q (.tail _ hq)
  case ff =>
   have h1 : ∀ f ∈ vFiles, f.length ≤ 40 := by decide +kernel
   refine h1 _ ?_
   rw [← hfs]; exact List.mem_map_of_mem hf
  intro h7 tk7 ra ans c7 F7 N7 nra hans
  have hXF : ∀ q ∈ (DK, lst (ks.map iV)) :: (DN, listOf (nlVs nl).toArray (nlVs nl).length) :: (Wy, listOf (glVs wl).toArray 0) :: (Dl, oD) :: (lK, listOf (lks.map sV).toArray 0) :: (l1a, listOf (fs.map sV).toArray 0) :: (D1, listOf (cu.map iV).toArray 0) :: (s₁.heap.objs.size + 1 + 1 + 1 + 1 + 1 + 1 + 1, o7) :: (s₁.heap.objs.size + 1 + 1 + 1 + 1 + 1 + 1, oQq) :: (s₁.heap.objs.size + 1 + 1 + 1 + 1 + 1, oN) :: (s₁.heap.objs.size + 1 + 1 + 1 + 1, oWq) :: (s₁.heap.objs.size + 1 + 1 + 1, qL) :: (s₁.heap.objs.size + 1 + 1, qA) :: (s₁.heap.objs.size + 1, qB) :: (ldsOf lds ++ (nlsOf nl ++ glsOf wl)), q ∈ FU := fun q hq => by rw [hFU]; exact tl3 hq
  have N8 : News s₁.heap s₁.heap.objs.size h7 ((ra, listOf (ans.map iV).toArray c7) :: (DK, lst (ks.map iV)) :: (DN, listOf (nlVs nl).toArray (nlVs nl).length) :: (Wy, listOf (glVs wl).toArray 0) :: (Dl, oD) :: (lK, listOf (lks.map sV).toArray 0) :: (l1a, listOf (fs.map sV).toArray 0) :: (D1, listOf (cu.map iV).toArray 0) :: (s₁.heap.objs.size + 1 + 1 + 1 + 1 + 1 + 1 + 1, o7) :: (s₁.heap.objs.size + 1 + 1 + 1 + 1 + 1 + 1, oQq) :: (s₁.heap.objs.size + 1 + 1 + 1 + 1 + 1, oN) :: (s₁.heap.objs.size + 1 + 1 + 1 + 1, oWq) :: (s₁.heap.objs.size + 1 + 1 + 1, qL) :: (s₁.heap.objs.size + 1 + 1, qA) :: (s₁.heap.objs.size + 1, qB) :: (ldsOf lds ++ (nlsOf nl ++ glsOf wl))) := fun q hq => by
   rcases List.mem_cons.mp hq with rfl | hq
   ·exact N7 _ (.head _)
   ·exact N7 q (tl2 (List.mem_append_right _ (hXF q hq)))
  have nrX : ∀ q ∈ (DK, lst (ks.map iV)) :: (DN, listOf (nlVs nl).toArray (nlVs nl).length) :: (Wy, listOf (glVs wl).toArray 0) :: (Dl, oD) :: (lK, listOf (lks.map sV).toArray 0) :: (l1a, listOf (fs.map sV).toArray 0) :: (D1, listOf (cu.map iV).toArray 0) :: (s₁.heap.objs.size + 1 + 1 + 1 + 1 + 1 + 1 + 1, o7) :: (s₁.heap.objs.size + 1 + 1 + 1 + 1 + 1 + 1, oQq) :: (s₁.heap.objs.size + 1 + 1 + 1 + 1 + 1, oN) :: (s₁.heap.objs.size + 1 + 1 + 1 + 1, oWq) :: (s₁.heap.objs.size + 1 + 1 + 1, qL) :: (s₁.heap.objs.size + 1 + 1, qA) :: (s₁.heap.objs.size + 1, qB) :: (ldsOf lds ++ (nlsOf nl ++ glsOf wl)), q.1 ≠ ra := fun q hq => nra q (.tail _ (List.mem_append_right _ (hXF q hq)))
  have hans2 : ans.map (·.1) = (List.range 5).map (fun k => if leftB cu k then 0 else 1) ++ (List.range 5).map (fun k => if leftB cu k then 0 else 1) := by
   have e : (List.range 5).map (gX dns (fs.map (·.1))) = (List.range 5).map (fun k => if leftB cu k then 0 else 1) := by
    refine List.map_congr_left fun k hk => ?_
    rw [hfs, hdn, ans_left _ (fIx_lt cu) k (List.mem_range.mp hk), leftB_eq]
   rw [hans, e]
  clear F6 N6 N7 nra hans hx hE9 hv hdn hXF hFU ltA ltB ltC ltD
  dsimp only
  rename_i v1a8
  revert hg KX T B TE TW M hL r0 hI hc63 hct hC5 dB dA dL l5 l4 l3 l2 hcu hcl ecl hcv hcvl hxs hxl hlks hfs hrl hgl hlo v1a3 ltx hsD v1a6 hoD v2a6 hlo2 e5 nDl nDr dW hwl nWy hwl5 hll hlg hl8 nDN hNT c5 dN rgR hks off5 K0 c6 o5f dQ N6 a0 a1 v1a8 hfs5 F7 N8 nrX hans2
  exact h9a8 oQq tk f1 f2 f3 fL h6 h7 tk7 ra ans c7
end
end Mine
namespace Mine
open TI PyProof.Rows.LCg PyProof.Rows.LCt
namespace SL18
def h9s_eval_ListComp := sT
def h9s_exec_Assign_cons_ListComp := sT
def h9s_CompSrc := sT
def h9s_CompSrcT := sT
def h9s_CompEnd := sT
def h9s_compareOp_In_int_ref := sT
def h9s_compareOp_NotEq_ref_ref := sT
def h9s_binaryOp_Mult_ref_int := sT
theorem h9r0 : StopRef 332 := trivial
end SL18
open SL18
@[irreducible] def a8_S := a8_st.p
theorem a8_eq : a8_S = a8_st.p := by unfold a8_S; rfl
abbrev a8_u (z9 : (Obj × Nat × Addr × Addr × Addr × Addr) × (Heap × Heap × Nat × Addr × (List (Int × Tok)) × Nat)) : Prop := u6 (u6 a8_S z9.1) z9.2
def a8_c := eps (by walk_at "ne") a8_u
namespace Ka8
@[irreducible] def oQq := a8_c.1.1
@[irreducible] def tk := a8_c.1.2.1
@[irreducible] def f1 := a8_c.1.2.2.1
@[irreducible] def f2 := a8_c.1.2.2.2.1
@[irreducible] def f3 := a8_c.1.2.2.2.2.1
@[irreducible] def fL := a8_c.1.2.2.2.2.2
@[irreducible] def h6 := a8_c.2.1
@[irreducible] def h7 := a8_c.2.2.1
@[irreducible] def tk7 := a8_c.2.2.2.1
@[irreducible] def ra := a8_c.2.2.2.2.1
@[irreducible] def ans := a8_c.2.2.2.2.2.1
@[irreducible] def c7 := a8_c.2.2.2.2.2.2
end Ka8
section
open Mine.Ka1 hiding tk
open Ka2
open Ka3
open Ka4
open Mine.Ka5 hiding tk
open Ka6
open Mine.Ka7 hiding tk
open Ka8
def c18_st : Stg3 (Heap → Obj → Nat → Heap → Nat → Tok → Tok → Tok → Heap → Nat → Nat → Addr → Obj → Addr → Obj → Addr → (Str → Option Value) → Heap → Nat → (Value → Shared → Prop) → Tok → (List (Int × Tok)) → Prop) (Heap → Obj → Nat → Heap → Tok → Tok → Tok → (List (Int × Tok)) → Nat → Heap → Heap → Nat → Nat → Addr → Obj → Addr → Obj → Addr → (Str → Option Value) → Heap → Nat → (Value → Shared → Prop) → (Int × Tok) → Prop) (Heap → Obj → Nat → Heap → Tok → Tok → Tok → (List (Int × Tok)) → Heap → Nat → Prop) (fun p9 => ∀ hq1 oSq tk hR tR t1R u1R v1R gg k i I oIq C oC D m₂ h tk' E' t zs, p9 hq1 oSq tk hR tR t1R u1R v1R gg k i I oIq C oC D m₂ h tk' E' t zs) (fun p9 => ∀ hq1 oSq tk hR t1R u1R v1R zs tk5 h6 gg3 k3 i3 I3 oI3 C3 oC3 D3 m3 h3 tk3 E3 q0, p9 hq1 oSq tk hR t1R u1R v1R zs tk5 h6 gg3 k3 i3 I3 oI3 C3 oC3 D3 m3 h3 tk3 E3 q0) (fun p9 => ∀ hq1 oSq v2a9 hR t1R u1R v1R zs hn8 tk, p9 hq1 oSq v2a9 hR t1R u1R v1R zs hn8 tk) (a8_S Ka8.oQq Ka8.tk Ka8.f1 Ka8.f2 Ka8.f3 Ka8.fL Ka8.h6 Ka8.h7 Ka8.tk7 Ka8.ra Ka8.ans Ka8.c7) := by
 refine' Stg3.mk _ _ _ fun h9c18 h9e18 h9a9 => ?hk9
 case hk9 =>
  unfold a8_S a8_st
  dsimp only
  intro hg KX T B TE TW M hL r0 hI hc63 hct hC5 dB dA dL l5 l4 l3 l2 hcu hcl ecl hcv hcvl hxs hxl hlks hfs hrl hgl hlo v1a3 ltx hsD v1a6 hoD v2a6 hlo2 e5 nDl nDr dW hwl nWy hwl5 hll hlg hl8 nDN hNT c5 dN rgR hks off5 K0 c6 o5f dQ N6 a0 a1 v1a8 hfs5 F7 N8 nrX hans2
  have c7z : ∀ q ∈ ldsOf lds ++ (nlsOf nl ++ glsOf wl), q.1 ≠ s₁.heap.objs.size + 1 + 1 + 1 + 1 + 1 + 1 + 1 := fun q hq => (hNT q hq).1
  walk_at "hide"
  obtain ⟨z1, z2, z3, z4⟩ := (fun c _ => by and_intros <;> exact neN (by omega) : ∀ c, c = s₁.heap.objs.size + 1 + 1 + 1 + 1 + 1 + 1 + 1 → DK ≠ c ∧ DN ≠ c ∧ Dl ≠ c ∧ lK ≠ c) _ rfl
  walk_at "unhide"
  have nr7 : (@Ne Nat (s₁.heap.objs.size + 1 + 1 + 1 + 1 + 1 + 1 + 1) ra) := nrX (s₁.heap.objs.size + 1 + 1 + 1 + 1 + 1 + 1 + 1, o7) (by (walk_at "hd"))
  k_steps
  refine stop_un ?_
  rename_i hq1 oSq FA NA dS
  refine LCg.ListComp_U (F₀ := by exact FA) (by with_unfolding_all rfl) (by decide) (by rfl) (by decide) (by rfl) ?_
  k_steps
  refine stop_un ?_
  rename_i hR tR t1R u1R v1R rgR FR NR kpR
  clear kpR
  refine LCg.CompSrc.range (n := 5) rfl FR NR rgR (by decide) (by first | rfl | decide) (by rw [sizeLine_eq]; exact Nat.le_of_ble_eq_true rfl) ?_
  intro gg
  refine comp_indP (n := 5) (P := fun i v => ∃ t, v = .int (0 + (i : Int)) t) (J := fun i ys news => news = (ra, listOf (ans.map iV).toArray c7) :: (DK, lst (ks.map iV)) :: (DN, listOf (nlVs nl).toArray (nlVs nl).length) :: (Wy, listOf (glVs wl).toArray 0) :: (Dl, oD) :: (lK, listOf (lks.map sV).toArray 0) :: (l1a, listOf (fs.map sV).toArray 0) :: (D1, listOf (cu.map iV).toArray 0) :: (s₁.heap.objs.size + 1 + 1 + 1 + 1 + 1 + 1 + 1, oSq) :: (s₁.heap.objs.size + 1 + 1 + 1 + 1 + 1 + 1, oQq) :: (s₁.heap.objs.size + 1 + 1 + 1 + 1 + 1, oN) :: (s₁.heap.objs.size + 1 + 1 + 1 + 1, oWq) :: (s₁.heap.objs.size + 1 + 1 + 1, qL) :: (s₁.heap.objs.size + 1 + 1, qA) :: (s₁.heap.objs.size + 1, qB) :: (ldsOf lds ++ (nlsOf nl ++ glsOf wl)) ∧ ∃ zs : List (Int × Tok), ys = zs.map iV ∧ zs.map (·.1) = (List.range i).map (fun k => if leftB cu k then 0 else 1)) ?fin ?step _ 0 [] _ (Nat.zero_add _) ⟨rfl, [], rfl, rfl⟩
  case step =>
   intro k i ys news v W91 hi W92 ih I oIq C oC D m₂ h tk' E' hC hx F3 N3 off nes
   walk_at "hide"
   obtain ⟨t, rfl⟩ := W91
   obtain ⟨rfl, zs, rfl, hzs⟩ := W92
   walk_at "unhide"
   clear FR NR
   (try dsimp only)
   rename_i v1c18 v2c18 v3c18
   revert hg KX T B TE TW M hL r0 hI hc63 hct hC5 dB dA dL l5 l4 l3 l2 hcu hcl ecl hcv hcvl hxs hxl hlks hfs hrl hgl hlo v1a3 ltx hsD v1a6 hoD v2a6 hlo2 e5 nDl nDr dW hwl nWy hwl5 hll hlg hl8 nDN hNT c5 dN v1c18 hks off5 K0 c6 o5f dQ a0 a1 v1a8 hfs5 nrX hans2 c7z nr7 v2c18 v3c18 dS rgR hi ih hC F3 nes hx off hzs N3
   exact h9c18 hq1 oSq tk hR tR t1R u1R v1R gg k i I oIq C oC D m₂ h tk' E' t zs
  case fin =>
   intro ys news W93
   walk_at "hide"
   obtain ⟨rfl, zs, rfl, hzs⟩ := W93
   walk_at "unhide"
   unfold FinE
   intro D5 h5 tk5 F5 N5 off5
   clear FR NR
   have hzl : zs.length = 5 := by have := congrArg List.length hzs; rw [List.length_map, List.length_map, List.length_range] at this; exact this
   dsimp only
   k_steps
   refine stop_un ?_
   refine KMa.mul (vs := zs.map iV) (ws := (zs ++ zs).map iV) F5 N5 (News.isList N5 (.head _)) (by decide) (by decide) (by rw [List.length_map, hzl]; decide) (by rw [List.map_append]; simp [List.replicate]) ?_
   intro Dm h6 F6 N6 l6
   clear F5 N5 l6 off5
   dsimp only
   k_steps
   refine stop_un ?_
   refine ke_ne_ints (xs := ans.map iV) (ys := (zs ++ zs).map iV) (ns := ans.map (·.1)) (ms := (zs ++ zs).map (·.1)) (News.isList N6 (tl2 (.head _))) (News.isList N6 (.head _)) (ints_of ans) (ints_of (zs ++ zs)) (Nat.le_of_ble_eq_true rfl) ?_
   rw [decide_eq_true (by rw [hans2, List.map_append, hzs])]
   replace N6 : News s₁.heap s₁.heap.objs.size h6 ((ra, listOf (ans.map iV).toArray c7) :: (DK, lst (ks.map iV)) :: (DN, listOf (nlVs nl).toArray (nlVs nl).length) :: (Wy, listOf (glVs wl).toArray 0) :: (Dl, oD) :: (lK, listOf (lks.map sV).toArray 0) :: (l1a, listOf (fs.map sV).toArray 0) :: (D1, listOf (cu.map iV).toArray 0) :: (s₁.heap.objs.size + 1 + 1 + 1 + 1 + 1 + 1 + 1, oSq) :: (s₁.heap.objs.size + 1 + 1 + 1 + 1 + 1 + 1, oQq) :: (s₁.heap.objs.size + 1 + 1 + 1 + 1 + 1, oN) :: (s₁.heap.objs.size + 1 + 1 + 1 + 1, oWq) :: (s₁.heap.objs.size + 1 + 1 + 1, qL) :: (s₁.heap.objs.size + 1 + 1, qA) :: (s₁.heap.objs.size + 1, qB) :: (ldsOf lds ++ (nlsOf nl ++ glsOf wl))) := fun q hq => N6 q (tl2 hq)
   k_steps
   refine stop_un ?_
   refine LCt.ListComp_T (F₀ := F6) (by with_unfolding_all rfl) (by decide) (by rfl) (by decide) (by rfl) ?_
   k_steps
   refine stop_un ?_
   have hal : ans.length = 10 := by have := congrArg List.length hans2; rw [List.length_map, List.length_append, List.length_map, List.length_range] at this; exact this
   refine LCt.CompSrcT.ledger rfl F6 N6 (its := (ans.map iV).toArray) (.head _) (by rw [List.size_toArray, List.length_map, hal, sizeLine_eq]; exact Nat.le_of_ble_eq_true rfl) ?_
   intro gg3
   refine compT_ind (its := (ans.map iV).toArray) (J := fun i3 ys3 news3 => news3 = (ra, listOf (ans.map iV).toArray c7) :: (DK, lst (ks.map iV)) :: (DN, listOf (nlVs nl).toArray (nlVs nl).length) :: (Wy, listOf (glVs wl).toArray 0) :: (Dl, oD) :: (lK, listOf (lks.map sV).toArray 0) :: (l1a, listOf (fs.map sV).toArray 0) :: (D1, listOf (cu.map iV).toArray 0) :: (s₁.heap.objs.size + 1 + 1 + 1 + 1 + 1 + 1 + 1, oSq) :: (s₁.heap.objs.size + 1 + 1 + 1 + 1 + 1 + 1, oQq) :: (s₁.heap.objs.size + 1 + 1 + 1 + 1 + 1, oN) :: (s₁.heap.objs.size + 1 + 1 + 1 + 1, oWq) :: (s₁.heap.objs.size + 1 + 1 + 1, qL) :: (s₁.heap.objs.size + 1 + 1, qA) :: (s₁.heap.objs.size + 1, qB) :: (ldsOf lds ++ (nlsOf nl ++ glsOf wl)) ∧ ys3 = []) ?fin3 ?step3 _ 0 [] _ (Nat.zero_add _) ⟨rfl, rfl⟩
   case step3 =>
    rintro k3 i3 ys3 news3 v3 hv3 ⟨rfl, rfl⟩ ih3 I3 oI3 C3 oC3 D3 m3 h3 tk3 E3 hC3 hx3 F7 N7 off7 nes7
    obtain ⟨q0, hq0, rfl⟩ : ∃ q0, ans[i3]? = some q0 ∧ v3 = iV q0 := by
     rw [List.getElem?_toArray, List.getElem?_map, Option.map_eq_some_iff] at hv3
     obtain ⟨q, h1, h2⟩ := hv3
     exact ⟨q, h1, h2.symm⟩
    clear F6 N6
    (try dsimp only)
    rename_i v1e18 v2e18 v3e18
    revert hg KX T B TE TW M hL r0 hI hc63 hct hC5 dB dA dL l5 l4 l3 l2 hcu hcl ecl hcv hcvl hxs hxl hlks hfs hrl hgl hlo v1a3 ltx hsD v1a6 hoD v2a6 hlo2 e5 nDl nDr dW hwl nWy hwl5 hll hlg hl8 nDN hNT c5 dN v1e18 hks off5 K0 c6 o5f dQ a0 a1 v1a8 hfs5 nrX hans2 c7z nr7 v2e18 v3e18 dS rgR hzs hzl hal ih3 hC3 F7 N7 off7 nes7 hq0 hv3 hx3
    exact h9e18 hq1 oSq tk hR t1R u1R v1R zs tk5 h6 gg3 k3 i3 I3 oI3 C3 oC3 D3 m3 h3 tk3 E3 q0
   case fin3 =>
    rintro ys3 news3 ⟨rfl, rfl⟩
    unfold FinE
    intro D6 h7 tk7 F7 N7 off7
    clear F6 N6
    dsimp only
    k_steps
    refine stop_un ?_
    with_reducible rename Fr s₁.heap s₁.heap.objs.size _ _ => F8
    with_reducible rename News s₁.heap s₁.heap.objs.size _ _ => N8
    rename_i Dn hn8 ln8
    refine ke_ne_ints (xs := []) (ys := []) (ns := []) (ms := []) (News.isList N8 (.tail _ (.head _))) (News.isList N8 (.head _)) .nil .nil (Nat.le_of_ble_eq_true rfl) ?_
    rw [decide_eq_true rfl]
    replace N8 : News s₁.heap s₁.heap.objs.size hn8 ((ra, listOf (ans.map iV).toArray c7) :: (DK, lst (ks.map iV)) :: (DN, listOf (nlVs nl).toArray (nlVs nl).length) :: (Wy, listOf (glVs wl).toArray 0) :: (Dl, oD) :: (lK, listOf (lks.map sV).toArray 0) :: (l1a, listOf (fs.map sV).toArray 0) :: (D1, listOf (cu.map iV).toArray 0) :: (s₁.heap.objs.size + 1 + 1 + 1 + 1 + 1 + 1 + 1, oSq) :: (s₁.heap.objs.size + 1 + 1 + 1 + 1 + 1 + 1, oQq) :: (s₁.heap.objs.size + 1 + 1 + 1 + 1 + 1, oN) :: (s₁.heap.objs.size + 1 + 1 + 1 + 1, oWq) :: (s₁.heap.objs.size + 1 + 1 + 1, qL) :: (s₁.heap.objs.size + 1 + 1, qA) :: (s₁.heap.objs.size + 1, qB) :: (ldsOf lds ++ (nlsOf nl ++ glsOf wl))) := fun q hq => N8 q (tl2 hq)
    clear ln8 off7
    k_steps
    refine stop_un ?_
    rename_i v1a9 v2a9
    revert hg KX T B TE TW M hL r0 hI hc63 hct hC5 dB dA dL l5 l4 l3 l2 hcu hcl ecl hcv hcvl hxs hxl hlks hfs hrl hgl hlo v1a3 ltx hsD v1a6 hoD v2a6 hlo2 e5 nDl nDr dW hwl nWy hwl5 hll hlg hl8 nDN hNT c5 dN v1a9 hks off5 K0 c6 o5f dQ a0 a1 v1a8 hfs5 nrX hans2 c7z nr7 dS rgR hzs hzl hal F8 N8
    exact h9a9 hq1 oSq v2a9 hR t1R u1R v1R zs hn8 tk
@[irreducible] def c18_S := c18_st.p
theorem c18_eq : c18_S = c18_st.p := by unfold c18_S; rfl
abbrev c18_u (z9 : (Heap × Obj × Nat × Heap × Nat × Tok) × (Tok × Tok × Heap × Nat × Nat × Addr) × (Obj × Addr × Obj × Addr × (Str → Option Value) × Heap) × (Nat × (Value → Shared → Prop) × Tok × (List (Int × Tok)))) : Prop := u4 (u6 (u6 (u6 c18_S z9.1) z9.2.1) z9.2.2.1) z9.2.2.2
def c18_c := eps (by walk_at "ne") c18_u
namespace Kc18
@[irreducible] def hq1 := c18_c.1.1
@[irreducible] def oSq := c18_c.1.2.1
@[irreducible] def tk := c18_c.1.2.2.1
@[irreducible] def hR := c18_c.1.2.2.2.1
@[irreducible] def tR := c18_c.1.2.2.2.2.1
@[irreducible] def t1R := c18_c.1.2.2.2.2.2
@[irreducible] def u1R := c18_c.2.1.1
@[irreducible] def v1R := c18_c.2.1.2.1
@[irreducible] def gg := c18_c.2.1.2.2.1
@[irreducible] def k := c18_c.2.1.2.2.2.1
@[irreducible] def i := c18_c.2.1.2.2.2.2.1
@[irreducible] def I := c18_c.2.1.2.2.2.2.2
@[irreducible] def oIq := c18_c.2.2.1.1
@[irreducible] def C := c18_c.2.2.1.2.1
@[irreducible] def oC := c18_c.2.2.1.2.2.1
@[irreducible] def D := c18_c.2.2.1.2.2.2.1
@[irreducible] def m₂ := c18_c.2.2.1.2.2.2.2.1
@[irreducible] def h := c18_c.2.2.1.2.2.2.2.2
@[irreducible] def tk' := c18_c.2.2.2.1
@[irreducible] def E' := c18_c.2.2.2.2.1
@[irreducible] def t := c18_c.2.2.2.2.2.1
@[irreducible] def zs := c18_c.2.2.2.2.2.2
end Kc18
end
section
open Mine.Ka1 hiding tk
open Ka2
open Ka3
open Ka4
open Mine.Ka5 hiding tk
open Ka6
open Mine.Ka7 hiding tk hR t1R u1R v1R
open Mine.Ka8 hiding tk
open Kc18
theorem c18_1 : c18_S Kc18.hq1 Kc18.oSq Kc18.tk Kc18.hR Kc18.tR Kc18.t1R Kc18.u1R Kc18.v1R Kc18.gg Kc18.k Kc18.i Kc18.I Kc18.oIq Kc18.C Kc18.oC Kc18.D Kc18.m₂ Kc18.h Kc18.tk' Kc18.E' Kc18.t Kc18.zs := by
 unfold c18_S c18_st
 dsimp only
 intro hg KX T B TE TW M hL r0 hI hc63 hct hC5 dB dA dL l5 l4 l3 l2 hcu hcl ecl hcv hcvl hxs hxl hlks hfs hrl hgl hlo v1a3 ltx hsD v1a6 hoD v2a6 hlo2 e5 nDl nDr dW hwl nWy hwl5 hll hlg hl8 nDN hNT c5 dN v1c18 hks off5 K0 c6 o5f dQ a0 a1 v1a8 hfs5 nrX hans2 c7z nr7 v2c18 v3c18 dS rgR hi ih hC F3 nes hx off hzs N3
 k_steps
 refine stop_un ?_
 refine in_list_ints (vs := ks.map iV) (ns := ks.map (·.1)) (News.isList N3 (tl4 (.head _))) (ints_of ks) ?_
 rw [any_memI]
 have hin : decide ((0 + (i : Int)) ∈ ks.map (·.1)) = leftB cu i := by
  rw [Bool.eq_iff_iff, decide_eq_true_eq, hks, List.mem_map, Int.zero_add]
  constructor
  ·rintro ⟨j, hj, e⟩
   have : j = i := Int.ofNat.inj e
   subst this
   exact (List.mem_filter.mp hj).2
  ·intro hb
   exact ⟨i, List.mem_filter.mpr ⟨List.mem_range.mpr hi, hb⟩, rfl⟩
 rw [hin]
 cases hb : leftB cu i with
 | true =>
  k_steps
  refine stop_un ?_
  refine CompEnd.intro F3 N3 _ (fun _ h => h) off trivial (ih _ _ ⟨rfl, zs ++ [(0, _)], by rw [List.map_append]; rfl, ?_⟩)
  rw [List.range_succ, List.map_append, List.map_append, hzs, List.map_cons, List.map_nil, List.map_cons, List.map_nil, hb]; rfl
 | false =>
  k_steps
  refine stop_un ?_
  refine CompEnd.intro F3 N3 _ (fun _ h => h) off trivial (ih _ _ ⟨rfl, zs ++ [(1, _)], by rw [List.map_append]; rfl, ?_⟩)
  rw [List.range_succ, List.map_append, List.map_append, hzs, List.map_cons, List.map_nil, List.map_cons, List.map_nil, hb]; rfl
end
section
open Mine.Ka1 hiding tk
open Ka2
open Ka3
open Ka4
open Mine.Ka5 hiding tk
open Ka6
open Mine.Ka7 hiding tk
open Ka8
@[irreducible] def e18_S := c18_st.q
theorem e18_eq : e18_S = c18_st.q := by unfold e18_S; rfl
abbrev e18_u (z9 : (Heap × Obj × Nat × Heap × Tok × Tok) × (Tok × (List (Int × Tok)) × Nat × Heap × Heap × Nat) × (Nat × Addr × Obj × Addr × Obj × Addr) × ((Str → Option Value) × Heap × Nat × (Value → Shared → Prop) × (Int × Tok))) : Prop := u5 (u6 (u6 (u6 e18_S z9.1) z9.2.1) z9.2.2.1) z9.2.2.2
def e18_c := eps (by walk_at "ne") e18_u
namespace Ke18
@[irreducible] def hq1 := e18_c.1.1
@[irreducible] def oSq := e18_c.1.2.1
@[irreducible] def tk := e18_c.1.2.2.1
@[irreducible] def hR := e18_c.1.2.2.2.1
@[irreducible] def t1R := e18_c.1.2.2.2.2.1
@[irreducible] def u1R := e18_c.1.2.2.2.2.2
@[irreducible] def v1R := e18_c.2.1.1
@[irreducible] def zs := e18_c.2.1.2.1
@[irreducible] def tk5 := e18_c.2.1.2.2.1
@[irreducible] def h6 := e18_c.2.1.2.2.2.1
@[irreducible] def gg3 := e18_c.2.1.2.2.2.2.1
@[irreducible] def k3 := e18_c.2.1.2.2.2.2.2
@[irreducible] def i3 := e18_c.2.2.1.1
@[irreducible] def I3 := e18_c.2.2.1.2.1
@[irreducible] def oI3 := e18_c.2.2.1.2.2.1
@[irreducible] def C3 := e18_c.2.2.1.2.2.2.1
@[irreducible] def oC3 := e18_c.2.2.1.2.2.2.2.1
@[irreducible] def D3 := e18_c.2.2.1.2.2.2.2.2
@[irreducible] def m3 := e18_c.2.2.2.1
@[irreducible] def h3 := e18_c.2.2.2.2.1
@[irreducible] def tk3 := e18_c.2.2.2.2.2.1
@[irreducible] def E3 := e18_c.2.2.2.2.2.2.1
@[irreducible] def q0 := e18_c.2.2.2.2.2.2.2
end Ke18
end
section
open Mine.Ka1 hiding tk
open Ka2
open Mine.Ka3 hiding h3 tk3
open Ka4
open Mine.Ka5 hiding tk
open Ka6
open Mine.Ka7 hiding tk hR t1R u1R v1R tk5
open Mine.Ka8 hiding tk h6
open Ke18
theorem e18_1 : e18_S Ke18.hq1 Ke18.oSq Ke18.tk Ke18.hR Ke18.t1R Ke18.u1R Ke18.v1R Ke18.zs Ke18.tk5 Ke18.h6 Ke18.gg3 Ke18.k3 Ke18.i3 Ke18.I3 Ke18.oI3 Ke18.C3 Ke18.oC3 Ke18.D3 Ke18.m3 Ke18.h3 Ke18.tk3 Ke18.E3 Ke18.q0 := by
 unfold e18_S c18_st
 dsimp only
 intro hg KX T B TE TW M hL r0 hI hc63 hct hC5 dB dA dL l5 l4 l3 l2 hcu hcl ecl hcv hcvl hxs hxl hlks hfs hrl hgl hlo v1a3 ltx hsD v1a6 hoD v2a6 hlo2 e5 nDl nDr dW hwl nWy hwl5 hll hlg hl8 nDN hNT c5 dN v1e18 hks off5 K0 c6 o5f dQ a0 a1 v1a8 hfs5 nrX hans2 c7z nr7 v2e18 v3e18 dS rgR hzs hzl hal ih3 hC3 F7 N7 off7 nes7 hq0 hv3 hx3
 k_steps
 refine stop_un ?_
 exact CompEnd.intro F7 N7 _ (fun _ h => h) off7 (.inr ⟨_, .head _, rfl, _, rfl⟩) (ih3 _ _ ⟨rfl, rfl⟩)
end
section
open Mine.Ka1 hiding tk
open Ka2
open Ka3
open Ka4
open Mine.Ka5 hiding tk
open Ka6
open Mine.Ka7 hiding tk
open Ka8
theorem c18_all (hq1 oSq tk hR tR t1R u1R v1R gg k i I oIq C oC D m₂ h tk' E' t zs) : c18_S hq1 oSq tk hR tR t1R u1R v1R gg k i I oIq C oC D m₂ h tk' E' t zs :=
 eps_all (S := c18_u) c18_c rfl (by have := c18_1; with_unfolding_all assumption) ((hq1, oSq, tk, hR, tR, t1R), (u1R, v1R, gg, k, i, I), (oIq, C, oC, D, m₂, h), (tk', E', t, zs))
theorem e18_all (hq1 oSq tk hR t1R u1R v1R zs tk5 h6 gg3 k3 i3 I3 oI3 C3 oC3 D3 m3 h3 tk3 E3 q0) : e18_S hq1 oSq tk hR t1R u1R v1R zs tk5 h6 gg3 k3 i3 I3 oI3 C3 oC3 D3 m3 h3 tk3 E3 q0 :=
 eps_all (S := e18_u) e18_c rfl (by have := e18_1; with_unfolding_all assumption) ((hq1, oSq, tk, hR, t1R, u1R), (v1R, zs, tk5, h6, gg3, k3), (i3, I3, oI3, C3, oC3, D3), (m3, h3, tk3, E3, q0))
def a9_st : Stg (Heap → Obj → Nat → Heap → Tok → Tok → Tok → (List (Int × Tok)) → Heap → Nat → Prop) (fun p9 => ∀ hq1 oSq v2a9 hR t1R u1R v1R zs hn8 tk, p9 hq1 oSq v2a9 hR t1R u1R v1R zs hn8 tk) (a8_S Ka8.oQq Ka8.tk Ka8.f1 Ka8.f2 Ka8.f3 Ka8.fL Ka8.h6 Ka8.h7 Ka8.tk7 Ka8.ra Ka8.ans Ka8.c7) := Stg.mk c18_st.r (stg_h3 c18_st c18_eq e18_eq c18_all e18_all)
end
end Mine
namespace Mine
open TI PyProof.Rows.LCg PyProof.Rows.LCt
namespace SL19
def h9s_eval_ListComp := sT
def h9s_exec_Assign_cons_ListComp := sT
def h9s_CompSrc := sT
def h9s_CompSrcT := sT
def h9s_CompEnd := sT
def h9s_subscriptTail_Name_Name_ref_int := sT
theorem h9r0 : StopRef 332 := trivial
end SL19
open SL19
theorem vf_sorted : vFiles.Pairwise SLt := by
 have h : vFiles.Pairwise fun a b => ltCps a.cps.toList b.cps.toList = true := by decide +kernel
 exact h
theorem lds_get {xs : List (Int × Tok)} {lds : List LD} (hxl : xs.length = 5) (hlg : lds.map (fun d => (d.fl, d.gs.map (·.1))) = (vFiles.zip (xs.map (·.1))).map (fun p => (p.1, (lkS p.2).map (LG p.1)))) :
  ∀ p : Str × Tok, p.1 ∈ vFiles → ∃ i ∈ lds, valueAt (ldKvs lds) p.1 = some (.ref i.ad) ∧ i.gs.map (·.1) = (fun f : Str => (lkS ((xs.map (·.1)).getD (vFiles.idxOf f) 0)).map (LG f)) p.1 := by
 intro p hpm
 obtain ⟨k, hk⟩ := List.mem_iff_getElem?.mp hpm
 have hk5 : k < 5 := (List.getElem?_eq_some_iff.mp hk).1
 have hidx : vFiles.idxOf p.1 = k := by
  have h : ∀ j < 5, ∀ f ∈ vFiles, vFiles[j]? = some f → vFiles.idxOf f = j := by decide +kernel
  exact h k hk5 _ hpm hk
 obtain ⟨x, hx⟩ : ∃ x, (xs.map (·.1))[k]? = some x := ⟨_, List.getElem?_eq_getElem (by rw [List.length_map]; omega)⟩
 have hz : (vFiles.zip (xs.map (·.1)))[k]? = some (p.1, x) := List.getElem?_zip_eq_some.mpr ⟨hk, hx⟩
 have e := congrArg (fun l => l[k]?) hlg
 simp only [List.getElem?_map, hz, Option.map_some] at e
 obtain ⟨d, hd, he⟩ := Option.map_eq_some_iff.mp e
 injection he with he1 he2
 refine ⟨d, List.mem_of_getElem? hd, ?_, ?_⟩
 ·have hkk : (ldKvs lds)[k]? = some (p.1, .ref d.ad) := by
   unfold ldKvs
   rw [List.getElem?_map, hd, ← he1]; rfl
  have hkn : ((ldKvs lds).map (·.1)) = vFiles := by
   have e2 := congrArg (fun l => l.map (·.1)) hlg
   rw [List.map_map, List.map_map] at e2
   unfold ldKvs
   rw [List.map_map]
   refine Eq.trans ?_ (Eq.trans e2 ?_)
   ·rfl
   ·rw [show (Prod.fst ∘ fun p : Str × Int => (p.1, (lkS p.2).map (LG p.1))) = (fun p : Str × Int => p.1) from rfl, List.map_fst_zip (by rw [List.length_map, hxl]; decide)]
  exact valueAt_of_get (by rw [hkn]; exact vf_nodup) hkk
 ·rw [he2]
  show _ = (lkS ((xs.map (·.1)).getD (vFiles.idxOf p.1) 0)).map (LG p.1)
  rw [hidx, List.getD_eq_getElem?_getD, hx]; rfl
theorem lds_len {xs : List (Int × Tok)} {lds : List LD} (hlg : lds.map (fun d => (d.fl, d.gs.map (·.1))) = (vFiles.zip (xs.map (·.1))).map (fun p => (p.1, (lkS p.2).map (LG p.1)))) : ∀ i ∈ lds, i.gs.length ≤ 8 := by
 intro d hd
 have : (d.fl, d.gs.map (·.1)) ∈ (vFiles.zip (xs.map (·.1))).map (fun p => (p.1, (lkS p.2).map (LG p.1))) := by rw [← hlg]; exact List.mem_map_of_mem hd
 obtain ⟨p, _, e⟩ := List.mem_map.mp this
 injection e with e1 e2
 have := congrArg List.length e2
 rw [List.length_map, List.length_map] at this
 rw [← this]
 exact Nat.le_of_ble_eq_true rfl
@[irreducible] def a9_S := a9_st.p
theorem a9_eq : a9_S = a9_st.p := by unfold a9_S; rfl
abbrev a9_u (z9 : (Heap × Obj × Nat × Heap × Tok × Tok) × (Tok × (List (Int × Tok)) × Heap × Nat)) : Prop := u4 (u6 a9_S z9.1) z9.2
def a9_c := eps (by walk_at "ne") a9_u
namespace Ka9
@[irreducible] def hq1 := a9_c.1.1
@[irreducible] def oSq := a9_c.1.2.1
@[irreducible] def v2a9 := a9_c.1.2.2.1
@[irreducible] def hR := a9_c.1.2.2.2.1
@[irreducible] def t1R := a9_c.1.2.2.2.2.1
@[irreducible] def u1R := a9_c.1.2.2.2.2.2
@[irreducible] def v1R := a9_c.2.1
@[irreducible] def zs := a9_c.2.2.1
@[irreducible] def hn8 := a9_c.2.2.2.1
@[irreducible] def tk := a9_c.2.2.2.2
end Ka9
section
open Mine.Ka1 hiding tk
open Ka2
open Ka3
open Ka4
open Mine.Ka5 hiding tk
open Ka6
open Mine.Ka7 hiding tk hR t1R u1R v1R
open Mine.Ka8 hiding tk
open Ka9
def c19_st : Stg2 ((Str → List Str) → Heap → Nat → Heap → Addr → Addr → Bool → Nat → (List GL) → Nat → Heap → Nat → Tok → Tok → Tok → Heap → Nat → Nat → Addr → Obj → Addr → Obj → Addr → (Str → Option Value) → Heap → Nat → (Value → Shared → Prop) → Tok → (List (Str × Tok)) → (Int × Tok) → (Str × Tok) → Prop) ((Str → List Str) → Heap → Nat → Heap → Addr → Addr → Bool → Nat → (List GL) → Nat → Heap → Tok → Tok → Tok → (List (Str × Tok)) → Addr → Heap → Addr → Addr → Bool → Nat → (List GL) → Nat → Addr → Heap → Nat → Prop) (fun p9 => ∀ G h1 tk1 g1 r1 rr1 ring1 rc1 gl1 n1 hR tR t1R u1R v1R gg9 k i I oIq C oC D m₂ h tk' E' t fp a0 f0, p9 G h1 tk1 g1 r1 rr1 ring1 rc1 gl1 n1 hR tR t1R u1R v1R gg9 k i I oIq C oC D m₂ h tk' E' t fp a0 f0) (fun p9 => ∀ G h1 tk1 g1 r1 rr1 ring1 rc1 gl1 n1 hR t1R u1R v1R fp Dq g2 r2 rr2 ring2 rc2 gl2 n2 Dt hq2 tk, p9 G h1 tk1 g1 r1 rr1 ring1 rc1 gl1 n1 hR t1R u1R v1R fp Dq g2 r2 rr2 ring2 rc2 gl2 n2 Dt hq2 tk) (a9_S Ka9.hq1 Ka9.oSq Ka9.v2a9 Ka9.hR Ka9.t1R Ka9.u1R Ka9.v1R Ka9.zs Ka9.hn8 Ka9.tk) := by
 refine' Stg2.mk _ _ fun h9c19 h9b1 => ?hk9
 case hk9 =>
  unfold a9_S a9_st c18_st
  dsimp only
  intro hg KX T B TE TW M hL r0 hI hc63 hct hC5 dB dA dL l5 l4 l3 l2 hcu hcl ecl hcv hcvl hxs hxl hlks hfs hrl hgl hlo v1a3 ltx hsD v1a6 hoD v2a6 hlo2 e5 nDl nDr dW hwl nWy hwl5 hll hlg hl8 nDN hNT c5 dN v1a9 hks off5 K0 c6 o5f dQ a0 a1 v1a8 hfs5 nrX hans2 c7z nr7 dS rgR hzs hzl hal F8 N8
  rename List.map _ lds = _ => hldG
  have hfs5 : fs.length = 5 := by
   have := congrArg List.length hfs
   rw [List.length_map] at this
   exact this
  obtain ⟨G, hGd⟩ : ∃ G : Str → List Str, G = (fun f : Str => (lkS ((xs.map (·.1)).getD (vFiles.idxOf f) 0)).map (LG f)) := ⟨_, rfl⟩
  have hG : ∀ p ∈ fs, ∃ i ∈ lds, valueAt (ldKvs lds) p.1 = some (.ref i.ad) ∧ i.gs.map (·.1) = G p.1 := fun p hp => by rw [hGd]; exact lds_get hxl hldG p (by rw [← hfs]; exact List.mem_map_of_mem hp)
  have hG8 : ∀ i ∈ lds, i.gs.length ≤ 8 := lds_len hldG
  refine lsort (fp := fs) (fcp := 0) (lo := oD) (lds := lds) (G := G) (rest := (ra, listOf (ans.map iV).toArray c7) :: (DK, lst (ks.map iV)) :: (DN, listOf (nlVs nl).toArray (nlVs nl).length) :: (Wy, listOf (glVs wl).toArray 0) :: (Dl, oD) :: (lK, listOf (lks.map sV).toArray 0) :: (l1a, listOf (fs.map sV).toArray 0) :: (D1, listOf (cu.map iV).toArray 0) :: (s₁.heap.objs.size + 1 + 1 + 1 + 1 + 1 + 1 + 1, oSq) :: (s₁.heap.objs.size + 1 + 1 + 1 + 1 + 1 + 1, oQq) :: (s₁.heap.objs.size + 1 + 1 + 1 + 1 + 1, oN) :: (s₁.heap.objs.size + 1 + 1 + 1 + 1, oWq) :: (s₁.heap.objs.size + 1 + 1 + 1, qL) :: (s₁.heap.objs.size + 1 + 1, qA) :: (s₁.heap.objs.size + 1, qB) :: (ldsOf lds ++ (nlsOf nl ++ glsOf wl))) K0 F8 KX (fun q hq => ?nn) hoD hsD hG hG8 (by rw [hfs5]; decide) (by rw [hfs]; exact vf_nodup) (by rw [hfs]; exact vf_sorted) T rfl (by decide) (by decide) KX T (fun b hb => nomatch hb) ?_
  case nn =>
   rcases List.mem_cons.mp hq with rfl | hq
   ·exact N8 _ (by (walk_at "hd"))
   ·rcases List.mem_cons.mp hq with rfl | hq
    ·exact N8 _ (by (walk_at "hd"))
    ·rcases List.mem_append.mp hq with hq | hq
     ·exact N8 q (by repeat (first | (with_reducible exact List.mem_append_left _ hq) | apply List.mem_cons_of_mem))
     ·exact N8 q hq
  intro h1 tk1 g1 r1 rr1 ring1 rc1 gl1 n1 KT F1 N1 _ _ _ _ hE1 hgl1 hring1
  replace F1 := back_fr (show KtsTurn [] s₁.heap g1 from KT) F1
  replace N1 := back_news (show KtsTurn [] s₁.heap g1 from KT) N1
  replace N1 : News s₁.heap s₁.heap.objs.size h1 ((r1, listOf #[Value.bool ring1, Value.ref rr1] 0) :: (rr1, listOf (glVs gl1).toArray rc1) :: (ra, listOf (ans.map iV).toArray c7) :: (DK, lst (ks.map iV)) :: (DN, listOf (nlVs nl).toArray (nlVs nl).length) :: (Dl, oD) :: (l1a, listOf (fs.map sV).toArray 0) :: (s₁.heap.objs.size + 1 + 1 + 1 + 1 + 1 + 1 + 1, oSq) :: (s₁.heap.objs.size + 1 + 1 + 1 + 1 + 1 + 1, oQq) :: (s₁.heap.objs.size + 1 + 1 + 1 + 1 + 1, oN) :: (s₁.heap.objs.size + 1 + 1 + 1 + 1, oWq) :: (s₁.heap.objs.size + 1 + 1 + 1, qL) :: (s₁.heap.objs.size + 1 + 1, qA) :: (s₁.heap.objs.size + 1, qB) :: (ldsOf lds ++ (nlsOf nl ++ glsOf gl1))) := fun q hq => by
   have hq : q ∈ [(r1, listOf #[Value.bool ring1, Value.ref rr1] 0), (rr1, listOf (glVs gl1).toArray rc1), (ra, listOf (ans.map iV).toArray c7), (DK, lst (ks.map iV)), (DN, listOf (nlVs nl).toArray (nlVs nl).length), (Dl, oD), (l1a, listOf (fs.map sV).toArray 0), (s₁.heap.objs.size + 1 + 1 + 1 + 1 + 1 + 1 + 1, oSq), (s₁.heap.objs.size + 1 + 1 + 1 + 1 + 1 + 1, oQq), (s₁.heap.objs.size + 1 + 1 + 1 + 1 + 1, oN), (s₁.heap.objs.size + 1 + 1 + 1 + 1, oWq), (s₁.heap.objs.size + 1 + 1 + 1, qL), (s₁.heap.objs.size + 1 + 1, qA), (s₁.heap.objs.size + 1, qB)] ++ (ldsOf lds ++ (nlsOf nl ++ glsOf gl1)) := hq
   have mY : ∀ q ∈ (ra, listOf (ans.map iV).toArray c7) :: (DK, lst (ks.map iV)) :: (DN, listOf (nlVs nl).toArray (nlVs nl).length) :: (Wy, listOf (glVs wl).toArray 0) :: (Dl, oD) :: (lK, listOf (lks.map sV).toArray 0) :: (l1a, listOf (fs.map sV).toArray 0) :: (D1, listOf (cu.map iV).toArray 0) :: (s₁.heap.objs.size + 1 + 1 + 1 + 1 + 1 + 1 + 1, oSq) :: (s₁.heap.objs.size + 1 + 1 + 1 + 1 + 1 + 1, oQq) :: (s₁.heap.objs.size + 1 + 1 + 1 + 1 + 1, oN) :: (s₁.heap.objs.size + 1 + 1 + 1 + 1, oWq) :: (s₁.heap.objs.size + 1 + 1 + 1, qL) :: (s₁.heap.objs.size + 1 + 1, qA) :: (s₁.heap.objs.size + 1, qB) :: (ldsOf lds ++ (nlsOf nl ++ glsOf wl)), News s₁.heap s₁.heap.objs.size h1 [q] := fun q hq q' hq' => by
    rw [List.mem_singleton.mp hq']
    exact N1 q (tl2 (List.mem_append_right _ (.tail _ (.tail _ (List.mem_append_right _ hq)))))
   rcases List.mem_append.mp hq with hq | hq
   ·rcases List.mem_cons.mp hq with rfl | hq
    ·exact N1 _ (.head _)
    ·rcases List.mem_cons.mp hq with rfl | hq
     ·exact N1 _ (.tail _ (.head _))
     ·refine mY q ?_ q (.head _)
      refine sub_of ?_ hq
      (try dsimp only [List.cons_append, List.nil_append])
      walk_at "sub"
   ·rcases List.mem_append.mp hq with hq | hq
    ·exact mY q (by repeat (first | (with_reducible exact List.mem_append_left _ hq) | apply List.mem_cons_of_mem)) q (.head _)
    ·rcases List.mem_append.mp hq with hq | hq
     ·exact mY q (by repeat (first | (with_reducible exact List.mem_append_right _ (List.mem_append_left _ hq)) | apply List.mem_cons_of_mem)) q (.head _)
     ·exact N1 q (tl2 (List.mem_append_left _ hq))
  clear KT
  k_steps
  refine stop_un ?_
  refine LCt.ListComp_T (F₀ := F1) (by with_unfolding_all rfl) (by decide) (by rfl) (by decide) (by rfl) ?_
  k_steps
  refine stop_un ?_
  rename_i hR tR t1R u1R v1R rgR FR NR kpR
  clear kpR
  refine LCt.CompSrcT.range (n := 5) rfl FR NR rgR (by decide) (by first | rfl | decide) (by rw [sizeLine_eq]; exact Nat.le_of_ble_eq_true rfl) ?_
  intro gg9
  refine compT_indP (n := 5) (P := fun i v => ∃ t, v = .int (0 + (i : Int)) t) (J := fun i ys news => news = (r1, listOf #[Value.bool ring1, Value.ref rr1] 0) :: (rr1, listOf (glVs gl1).toArray rc1) :: (ra, listOf (ans.map iV).toArray c7) :: (DK, lst (ks.map iV)) :: (DN, listOf (nlVs nl).toArray (nlVs nl).length) :: (Dl, oD) :: (l1a, listOf (fs.map sV).toArray 0) :: (s₁.heap.objs.size + 1 + 1 + 1 + 1 + 1 + 1 + 1, oSq) :: (s₁.heap.objs.size + 1 + 1 + 1 + 1 + 1 + 1, oQq) :: (s₁.heap.objs.size + 1 + 1 + 1 + 1 + 1, oN) :: (s₁.heap.objs.size + 1 + 1 + 1 + 1, oWq) :: (s₁.heap.objs.size + 1 + 1 + 1, qL) :: (s₁.heap.objs.size + 1 + 1, qA) :: (s₁.heap.objs.size + 1, qB) :: (ldsOf lds ++ (nlsOf nl ++ glsOf gl1)) ∧ ∃ fp : List (Str × Tok), ys = fp.map sV ∧ fp.map (·.1) = ((List.range i).filter (leftB cu)).map (fun k => vFiles.getD k (Str.ofString ""))) ?fin ?step _ 0 [] _ (Nat.zero_add _) ⟨rfl, [], rfl, rfl⟩
  case step =>
   intro k i ys news v W91 hi W92 ih I oIq C oC D m₂ h tk' E' hC hx F3 N3 off nes
   walk_at "hide"
   obtain ⟨t, rfl⟩ := W91
   obtain ⟨rfl, fp, rfl, hfp⟩ := W92
   walk_at "unhide"
   clear FR NR
   have hal : ans.length = 10 := by have := congrArg List.length hans2; rw [List.length_map, List.length_append, List.length_map, List.length_range] at this; exact this
   obtain ⟨a0, ha0⟩ : ∃ a0, ans[i]? = some a0 := ⟨_, List.getElem?_eq_getElem (by omega)⟩
   have ha1 : a0.1 = if leftB cu i then 0 else 1 := by
    have e := congrArg (fun l => l[i]?) hans2
    simp only [List.getElem?_map, ha0, Option.map_some] at e
    rw [List.getElem?_append_left (by rw [List.length_map, List.length_range]; exact hi), List.getElem?_map, List.getElem?_range hi] at e
    exact Option.some.inj e
   obtain ⟨f0, hf0⟩ : ∃ f0, fs[i]? = some f0 := ⟨_, List.getElem?_eq_getElem (by omega)⟩
   have hf1 : vFiles.getD i (Str.ofString "") = f0.1 := by rw [← hfs, List.getD_eq_getElem?_getD, List.getElem?_map, hf0]; rfl
   (try dsimp only)
   rename_i v1c19 v2c19 v3c19 v4c19 v5c19 v6c19 v7c19 v8c19 v9c19 v10c19
   revert hg KX T B TE TW M hL r0 hI hc63 hct hC5 dB dA dL l5 l4 l3 l2 hcu hcl ecl hcv hcvl hxs hxl hlks hfs hrl hgl hlo v1a3 ltx hsD v1a6 hoD hldG hlo2 e5 nDl nDr dW hwl nWy hwl5 hll hlg hl8 nDN hNT c5 dN v1a9 hks off5 K0 c6 o5f dQ v1c19 a1 v1a8 v2c19 nrX hans2 c7z nr7 dS v3c19 hzs hzl v4c19 F8 N8 hfs5 hGd hG hG8 v5c19 v6c19 v7c19 v8c19 hE1 hgl1 hring1 v9c19 v10c19 rgR hi ih hC F3 nes hx off hfp N3 hal ha0 ha1 hf0 hf1
   exact h9c19 G h1 tk1 g1 r1 rr1 ring1 rc1 gl1 n1 hR tR t1R u1R v1R gg9 k i I oIq C oC D m₂ h tk' E' t fp a0 f0
  case fin =>
   intro ys news W93
   walk_at "hide"
   obtain ⟨rfl, fp, rfl, hfp⟩ := W93
   walk_at "unhide"
   unfold FinE
   intro Dq h5 tk5 F5 N5 off5
   clear FR NR
   dsimp only
   k_steps
   refine stop_un ?_
   have hsub : (fp.map (·.1)).Sublist vFiles := by
    rw [hfp]
    have e : vFiles = (List.range 5).map (fun k => vFiles.getD k (Str.ofString "")) := by decide +kernel
    exact (e ▸ (List.filter_sublist (p := leftB cu) (l := List.range 5)).map (fun k => vFiles.getD k (Str.ofString "")))
   have hG2 : ∀ p ∈ fp, ∃ i ∈ lds, valueAt (ldKvs lds) p.1 = some (.ref i.ad) ∧ i.gs.map (·.1) = G p.1 := fun p hp => by rw [hGd]; exact lds_get hxl hldG p (hsub.subset (List.mem_map_of_mem hp))
   have hfl : fp.length ≤ 8 := by
    have := hsub.length_le
    rw [List.length_map] at this
    exact Nat.le_trans this (by decide)
   refine lsort (fl := Dq) (fp := fp) (fcp := (fp.map sV).length) (lo := oD) (lds := lds) (G := G) (rest := (r1, listOf #[Value.bool ring1, Value.ref rr1] 0) :: (rr1, listOf (glVs gl1).toArray rc1) :: (ra, listOf (ans.map iV).toArray c7) :: (DK, lst (ks.map iV)) :: (DN, listOf (nlVs nl).toArray (nlVs nl).length) :: (Dl, oD) :: (l1a, listOf (fs.map sV).toArray 0) :: (s₁.heap.objs.size + 1 + 1 + 1 + 1 + 1 + 1 + 1, oSq) :: (s₁.heap.objs.size + 1 + 1 + 1 + 1 + 1 + 1, oQq) :: (s₁.heap.objs.size + 1 + 1 + 1 + 1 + 1, oN) :: (s₁.heap.objs.size + 1 + 1 + 1 + 1, oWq) :: (s₁.heap.objs.size + 1 + 1 + 1, qL) :: (s₁.heap.objs.size + 1 + 1, qA) :: (s₁.heap.objs.size + 1, qB) :: (ldsOf lds ++ (nlsOf nl ++ glsOf gl1))) K0 F5 KX (fun q hq => ?nn2) hoD hsD hG2 hG8 hfl (vf_nodup.sublist hsub) (vf_sorted.sublist hsub) T rfl (by decide) (by decide) KX T (fun b hb => nomatch hb) ?_
   case nn2 =>
    rcases List.mem_cons.mp hq with rfl | hq
    ·exact N5 _ (.head _)
    ·rcases List.mem_cons.mp hq with rfl | hq
     ·exact N5 _ (by (walk_at "hd"))
     ·rcases List.mem_append.mp hq with hq | hq
      ·exact N5 q (by repeat (first | (with_reducible exact List.mem_append_left _ hq) | apply List.mem_cons_of_mem))
      ·exact N5 q (.tail _ hq)
   intro h2 tk2 g2 r2 rr2 ring2 rc2 gl2 n2 KT F2 N2 _ _ _ _ hE2 hgl2 hring2
   replace F2 := back_fr (show KtsTurn [] s₁.heap g2 from KT) F2
   replace N2 := back_news (show KtsTurn [] s₁.heap g2 from KT) N2
   replace N2 : News s₁.heap s₁.heap.objs.size h2 ((r2, listOf #[Value.bool ring2, Value.ref rr2] 0) :: (rr2, listOf (glVs gl2).toArray rc2) :: (r1, listOf #[Value.bool ring1, Value.ref rr1] 0) :: (rr1, listOf (glVs gl1).toArray rc1) :: (DK, lst (ks.map iV)) :: (DN, listOf (nlVs nl).toArray (nlVs nl).length) :: (l1a, listOf (fs.map sV).toArray 0) :: (s₁.heap.objs.size + 1 + 1 + 1 + 1 + 1 + 1 + 1, oSq) :: (s₁.heap.objs.size + 1 + 1 + 1 + 1 + 1 + 1, oQq) :: (s₁.heap.objs.size + 1 + 1 + 1 + 1 + 1, oN) :: (s₁.heap.objs.size + 1 + 1 + 1 + 1, oWq) :: (s₁.heap.objs.size + 1 + 1 + 1, qL) :: (s₁.heap.objs.size + 1 + 1, qA) :: (s₁.heap.objs.size + 1, qB) :: (nlsOf nl ++ (glsOf gl1 ++ glsOf gl2))) := fun q hq => by
    have hq : q ∈ [(r2, listOf #[Value.bool ring2, Value.ref rr2] 0), (rr2, listOf (glVs gl2).toArray rc2), (r1, listOf #[Value.bool ring1, Value.ref rr1] 0), (rr1, listOf (glVs gl1).toArray rc1), (DK, lst (ks.map iV)), (DN, listOf (nlVs nl).toArray (nlVs nl).length), (l1a, listOf (fs.map sV).toArray 0), (s₁.heap.objs.size + 1 + 1 + 1 + 1 + 1 + 1 + 1, oSq), (s₁.heap.objs.size + 1 + 1 + 1 + 1 + 1 + 1, oQq), (s₁.heap.objs.size + 1 + 1 + 1 + 1 + 1, oN), (s₁.heap.objs.size + 1 + 1 + 1 + 1, oWq), (s₁.heap.objs.size + 1 + 1 + 1, qL), (s₁.heap.objs.size + 1 + 1, qA), (s₁.heap.objs.size + 1, qB)] ++ (nlsOf nl ++ (glsOf gl1 ++ glsOf gl2)) := hq
    have mY : ∀ q ∈ (r1, listOf #[Value.bool ring1, Value.ref rr1] 0) :: (rr1, listOf (glVs gl1).toArray rc1) :: (ra, listOf (ans.map iV).toArray c7) :: (DK, lst (ks.map iV)) :: (DN, listOf (nlVs nl).toArray (nlVs nl).length) :: (Dl, oD) :: (l1a, listOf (fs.map sV).toArray 0) :: (s₁.heap.objs.size + 1 + 1 + 1 + 1 + 1 + 1 + 1, oSq) :: (s₁.heap.objs.size + 1 + 1 + 1 + 1 + 1 + 1, oQq) :: (s₁.heap.objs.size + 1 + 1 + 1 + 1 + 1, oN) :: (s₁.heap.objs.size + 1 + 1 + 1 + 1, oWq) :: (s₁.heap.objs.size + 1 + 1 + 1, qL) :: (s₁.heap.objs.size + 1 + 1, qA) :: (s₁.heap.objs.size + 1, qB) :: (ldsOf lds ++ (nlsOf nl ++ glsOf gl1)), News s₁.heap s₁.heap.objs.size h2 [q] := fun q hq q' hq' => by
     rw [List.mem_singleton.mp hq']
     exact N2 q (tl2 (List.mem_append_right _ (.tail _ (.tail _ (List.mem_append_right _ hq)))))
    rcases List.mem_append.mp hq with hq | hq
    ·rcases List.mem_cons.mp hq with rfl | hq
     ·exact N2 _ (.head _)
     ·rcases List.mem_cons.mp hq with rfl | hq
      ·exact N2 _ (.tail _ (.head _))
      ·refine mY q ?_ q (.head _)
       refine sub_of ?_ hq
       (try dsimp only [List.cons_append, List.nil_append])
       walk_at "sub"
    ·rcases List.mem_append.mp hq with hq | hq
     ·exact mY q (by repeat (first | (with_reducible exact List.mem_append_right _ (List.mem_append_left _ hq)) | apply List.mem_cons_of_mem)) q (.head _)
     ·rcases List.mem_append.mp hq with hq | hq
      ·exact mY q (by repeat (first | (with_reducible exact List.mem_append_right _ (List.mem_append_right _ hq)) | apply List.mem_cons_of_mem)) q (.head _)
      ·exact N2 q (tl2 (List.mem_append_left _ hq))
   clear KT F5 N5
   k_steps
   refine stop_un ?_
   rename_i Dt hq1 ltT hq2 FA NA
   rename_i v1b1 v2b1 v3b1 v4b1 v5b1 v6b1 v7b1 v8b1 v9b1 v10b1 v11b1
   revert hg KX T B TE TW M hL r0 hI hc63 hct hC5 dB dA dL l5 l4 l3 l2 hcu hcl ecl hcv hcvl hxs hxl hlks hfs hrl hgl hlo v1a3 ltx hsD v1a6 hoD hldG hlo2 e5 nDl nDr dW hwl nWy hwl5 hll hlg hl8 nDN hNT c5 dN v1a9 hks v1b1 K0 c6 o5f dQ a0 a1 v1a8 v2b1 nrX hans2 c7z nr7 dS v3b1 hzs hzl hal hfs5 hGd hG hG8 v4b1 v5b1 v6b1 v7b1 hE1 hgl1 hring1 rgR hfp off5 hsub hG2 hfl v8b1 v9b1 v10b1 v11b1 hE2 hgl2 hring2 ltT FA NA
   exact h9b1 G h1 tk1 g1 r1 rr1 ring1 rc1 gl1 n1 hR t1R u1R v1R fp Dq g2 r2 rr2 ring2 rc2 gl2 n2 Dt hq2 tk
@[irreducible] def c19_S := c19_st.p
theorem c19_eq : c19_S = c19_st.p := by unfold c19_S; rfl
abbrev c19_u (z9 : ((Str → List Str) × Heap × Nat × Heap × Addr × Addr) × (Bool × Nat × (List GL) × Nat × Heap × Nat) × (Tok × Tok × Tok × Heap × Nat × Nat) × (Addr × Obj × Addr × Obj × Addr × (Str → Option Value)) × (Heap × Nat × (Value → Shared → Prop) × Tok × (List (Str × Tok)) × (Int × Tok)) × ((Str × Tok))) : Prop := u1 (u6 (u6 (u6 (u6 (u6 c19_S z9.1) z9.2.1) z9.2.2.1) z9.2.2.2.1) z9.2.2.2.2.1) z9.2.2.2.2.2
def c19_c := eps (by walk_at "ne") c19_u
namespace Kc19
@[irreducible] def G := c19_c.1.1
@[irreducible] def h1 := c19_c.1.2.1
@[irreducible] def tk1 := c19_c.1.2.2.1
@[irreducible] def g1 := c19_c.1.2.2.2.1
@[irreducible] def r1 := c19_c.1.2.2.2.2.1
@[irreducible] def rr1 := c19_c.1.2.2.2.2.2
@[irreducible] def ring1 := c19_c.2.1.1
@[irreducible] def rc1 := c19_c.2.1.2.1
@[irreducible] def gl1 := c19_c.2.1.2.2.1
@[irreducible] def n1 := c19_c.2.1.2.2.2.1
@[irreducible] def hR := c19_c.2.1.2.2.2.2.1
@[irreducible] def tR := c19_c.2.1.2.2.2.2.2
@[irreducible] def t1R := c19_c.2.2.1.1
@[irreducible] def u1R := c19_c.2.2.1.2.1
@[irreducible] def v1R := c19_c.2.2.1.2.2.1
@[irreducible] def gg9 := c19_c.2.2.1.2.2.2.1
@[irreducible] def k := c19_c.2.2.1.2.2.2.2.1
@[irreducible] def i := c19_c.2.2.1.2.2.2.2.2
@[irreducible] def I := c19_c.2.2.2.1.1
@[irreducible] def oIq := c19_c.2.2.2.1.2.1
@[irreducible] def C := c19_c.2.2.2.1.2.2.1
@[irreducible] def oC := c19_c.2.2.2.1.2.2.2.1
@[irreducible] def D := c19_c.2.2.2.1.2.2.2.2.1
@[irreducible] def m₂ := c19_c.2.2.2.1.2.2.2.2.2
@[irreducible] def h := c19_c.2.2.2.2.1.1
@[irreducible] def tk' := c19_c.2.2.2.2.1.2.1
@[irreducible] def E' := c19_c.2.2.2.2.1.2.2.1
@[irreducible] def t := c19_c.2.2.2.2.1.2.2.2.1
@[irreducible] def fp := c19_c.2.2.2.2.1.2.2.2.2.1
@[irreducible] def a0 := c19_c.2.2.2.2.1.2.2.2.2.2
@[irreducible] def f0 := c19_c.2.2.2.2.2
end Kc19
end
section
open Mine.Ka1 hiding tk1 tk
open Ka2
open Ka3
open Ka4
open Mine.Ka5 hiding tk
open Ka6
open Mine.Ka7 hiding tk hR t1R u1R v1R
open Mine.Ka8 hiding tk
open Mine.Ka9 hiding hR t1R u1R v1R
open Kc19
theorem c19_1 : c19_S Kc19.G Kc19.h1 Kc19.tk1 Kc19.g1 Kc19.r1 Kc19.rr1 Kc19.ring1 Kc19.rc1 Kc19.gl1 Kc19.n1 Kc19.hR Kc19.tR Kc19.t1R Kc19.u1R Kc19.v1R Kc19.gg9 Kc19.k Kc19.i Kc19.I Kc19.oIq Kc19.C Kc19.oC Kc19.D Kc19.m₂ Kc19.h Kc19.tk' Kc19.E' Kc19.t Kc19.fp Kc19.a0 Kc19.f0 := by
 unfold c19_S c19_st
 dsimp only
 intro hg KX T B TE TW M hL r0 hI hc63 hct hC5 dB dA dL l5 l4 l3 l2 hcu hcl ecl hcv hcvl hxs hxl hlks hfs hrl hgl hlo v1a3 ltx hsD v1a6 hoD hldG hlo2 e5 nDl nDr dW hwl nWy hwl5 hll hlg hl8 nDN hNT c5 dN v1a9 hks off5 K0 c6 o5f dQ v1c19 a1 v1a8 v2c19 nrX hans2 c7z nr7 dS v3c19 hzs hzl v4c19 F8 N8 hfs5 hGd hG hG8 v5c19 v6c19 v7c19 v8c19 hE1 hgl1 hring1 v9c19 v10c19 rgR hi ih hC F3 nes hx off hfp N3 hal ha0 ha1 hf0 hf1
 k_steps
 refine stop_un ?_
 refine kim_list (l := ans.map iV) (lo := listOf (ans.map iV).toArray c7) N3 (by (walk_at "hd")) rfl rfl (by omega) (by omega) (x := iV a0) (by rw [Int.zero_add, Int.toNat_natCast, List.getElem?_map, ha0]; rfl) ?_
 k_steps
 ·refine stop_un ?_
  rename_i hz
  have hb : leftB cu i = true := by
   cases hb : leftB cu i with
   | true => rfl
   | false => rw [hb] at ha1; rw [hz] at ha1; exact absurd ha1 (by decide)
  refine kim_list (l := fs.map sV) (lo := listOf (fs.map sV).toArray 0) N3 (by (walk_at "hd")) rfl rfl (by omega) (by omega) (x := sV f0) (by rw [Int.zero_add, Int.toNat_natCast, List.getElem?_map, hf0]; rfl) ?_
  k_steps
  refine stop_un ?_
  refine CompEnd.intro F3 N3 _ (fun _ h => h) off trivial (ih _ _ ⟨rfl, fp ++ [f0], by rw [List.map_append]; rfl, ?_⟩)
  rw [List.range_succ, List.filter_append, List.filter_cons_of_pos hb, List.filter_nil, List.map_append, List.map_append, hfp, List.map_cons, List.map_nil, List.map_cons, List.map_nil, hf1]
 ·refine stop_un ?_
  rename_i hz
  have hb : leftB cu i = false := by
   cases hb : leftB cu i with
   | false => rfl
   | true => rw [hb] at ha1; exact absurd ha1 (by simpa using hz)
  refine CompEnd.intro F3 N3 _ (fun _ h => h) off trivial (ih _ _ ⟨rfl, fp, rfl, ?_⟩)
  rw [List.range_succ, List.filter_append, List.filter_cons_of_neg (by rw [hb]; decide), List.filter_nil, List.append_nil, hfp]
end
section
open Mine.Ka1 hiding tk
open Ka2
open Ka3
open Ka4
open Mine.Ka5 hiding tk
open Ka6
open Mine.Ka7 hiding tk hR t1R u1R v1R
open Mine.Ka8 hiding tk
open Ka9
theorem c19_all (G h1 tk1 g1 r1 rr1 ring1 rc1 gl1 n1 hR tR t1R u1R v1R gg9 k i I oIq C oC D m₂ h tk' E' t fp a0 f0) : c19_S G h1 tk1 g1 r1 rr1 ring1 rc1 gl1 n1 hR tR t1R u1R v1R gg9 k i I oIq C oC D m₂ h tk' E' t fp a0 f0 :=
 eps_all (S := c19_u) c19_c rfl (by have := c19_1; with_unfolding_all assumption) ((G, h1, tk1, g1, r1, rr1), (ring1, rc1, gl1, n1, hR, tR), (t1R, u1R, v1R, gg9, k, i), (I, oIq, C, oC, D, m₂), (h, tk', E', t, fp, a0), (f0))
def b1_st : Stg ((Str → List Str) → Heap → Nat → Heap → Addr → Addr → Bool → Nat → (List GL) → Nat → Heap → Tok → Tok → Tok → (List (Str × Tok)) → Addr → Heap → Addr → Addr → Bool → Nat → (List GL) → Nat → Addr → Heap → Nat → Prop) (fun p9 => ∀ G h1 tk1 g1 r1 rr1 ring1 rc1 gl1 n1 hR t1R u1R v1R fp Dq g2 r2 rr2 ring2 rc2 gl2 n2 Dt hq2 tk, p9 G h1 tk1 g1 r1 rr1 ring1 rc1 gl1 n1 hR t1R u1R v1R fp Dq g2 r2 rr2 ring2 rc2 gl2 n2 Dt hq2 tk) (a9_S Ka9.hq1 Ka9.oSq Ka9.v2a9 Ka9.hR Ka9.t1R Ka9.u1R Ka9.v1R Ka9.zs Ka9.hn8 Ka9.tk) := Stg.mk c19_st.q (stg_h2 c19_st c19_eq c19_all)
end
end Mine
namespace Mine
open TI PyProof.Rows.LCg PyProof.Rows.LCt
structure RnQ (g1 : Heap) (L1 pl ne : Addr) (on op : Obj) (ps : List (Int × Tok)) (pc nc : Nat) (nl : List NL) (rest : List (Addr × Obj)) (F : List Int) (G : Int → List Int) (s0 : Shared) (Nm : Nat) (s' : Shared) : Prop where
 ex : ∃ (h : Heap) (tk : Nat) (rr co : Addr) (oc : Obj) (rc cc : Nat) (cm : List (Int × Tok)) (gl : List NL) (mg : Option Value) (n : Nat),
  s' = { s0 with heap := h, toks := tk } ∧ Fr g1 L1 h (rnM rr mg) ∧
  News g1 L1 h ((co, listOf (cm.map iV).toArray cc) :: (rr, listOf (nlVs gl).toArray rc) :: (L1 + 1 + 1 + 1, oc) :: (L1 + 1 + 1, on) :: (L1 + 1, op) :: (pl, listOf (ps.map iV).toArray pc) :: (ne, listOf (nlVs nl).toArray nc) :: (nlsOf gl ++ (nlsOf nl ++ rest))) ∧
  oc.data = .cell (some (.ref co)) ∧ cm.map (·.1) = (stpI F G n).2 ∧ nlNs gl = (stpI F G n).1 ∧ gl.length = n ∧ (∀ k < n, grpI F G (stpI F G k).2 ≠ []) ∧ (∀ q ∈ nlsOf gl, q.1 ≠ L1 + 1 + 1 + 1) ∧ (∀ q ∈ nlsOf gl, ∀ p ∈ (pl, listOf (ps.map iV).toArray pc) :: (ne, listOf (nlVs nl).toArray nc) :: (nlsOf nl ++ rest), p.1 ≠ q.1) ∧ @LT.lt Nat _ (L1 + 1 + 1 + 1) rr ∧ @LT.lt Nat _ (L1 + 1 + 1 + 1) co ∧ Nm = F.length - (stpI F G n).2.length
namespace SR01b
def h9s_CompSrcT := sT
def h9s_CompSrc := sT
def h9s_exec_While := sT
def h9s_exec_While_Constant := sT
def h9s_WhlRest := sT
def h9s_compareOp_NotIn_int_ref := sT
def h9s_compareOp_In_int_ref := sT
def h9s_compareOp_Eq_ref_ref := sT
def h9s_binaryOp_Add_ref_ref := sT
def h9s_subscriptTail_Name_Name_ref_int := sT
def h9s_CompEnd := sT
def h9s_FinE := sT
def h9s_FinA := sT
def h9s_call_builtin_len := sT
end SR01b
open SR01b
section
local macro_rules | `(tactic| walk_at "eval ListComp") => `(tactic| (k_here; k_dflt (refine LCt.ListComp_T (F₀ := by k_asm) (by with_unfolding_all rfl) (by decide) (by rfl) (by decide) (by rfl) ?_)))
section
variable {prog : Program} {w : World} {p : Program} {loose : List Str} {mean : ExcName → Option Value} {mg mb : Str → Option Value}
 {dp un : Nat} {gd : Option (List Code)} {cn : Str} {cs : Scope} {a : Addr} {ccd : Value} {cl : List (Str × Addr)} {outer : List Env} {A₀ : Around} {base h₀ : Heap} {L : Addr} {m : Str → Option Value} {s : Shared} {Q E : Value → Shared → Prop}
def roundsF_S {pl ne : Addr} {ps : List (Int × Tok)} {pc nc : Nat} {nl : List NL} {rest : List (Addr × Obj)} {G : Int → List Int} : Prop := ∀ (hG : ∀ q ∈ ps, ∃ i : Nat, q.1 = (i : Int) ∧ ∃ j, nl[i]? = some j ∧ j.js.map (·.1) = G q.1) (hps : ps.length ≤ 8) (hpn : (ps.map (·.1)).Nodup) (hnl : nl.length ≤ 8) (hjs : ∀ j ∈ nl, j.js.length ≤ 8) (B : Below A₀ base outer h₀) (F : Fr h₀ L s.heap m) (X : (KK w.params).In h₀) (N : News h₀ L s.heap ((pl, listOf (ps.map iV).toArray pc) :: (ne, listOf (nlVs nl).toArray nc) :: (nlsOf nl ++ rest))) (T : Top p loose mean mg mb h₀) (hk : cs.kind = .function) (hdp : dp < 346) (hun : un < 270) (ret : ∀ (h' : Heap) (tk' : Nat) (r rr : Addr) (b : Bool) (rc : Nat) (gl : List NL) (n : Nat), Fr h₀ L h' m → News h₀ L h' ((r, listOf #[.bool b, .ref rr] 0) :: (rr, listOf (nlVs gl).toArray rc) :: (nlsOf gl ++ (pl, listOf (ps.map iV).toArray pc) :: (ne, listOf (nlVs nl).toArray nc) :: (nlsOf nl ++ rest))) → (∀ q ∈ (pl, listOf (ps.map iV).toArray pc) :: (ne, listOf (nlVs nl).toArray nc) :: (nlsOf nl ++ rest), q.1 ≠ r ∧ q.1 ≠ rr ∧ ∀ g ∈ nlsOf gl, q.1 ≠ g.1) →
     EndsI (ps.map (·.1)) G n → nlNs gl = (stpI (ps.map (·.1)) G n).1 → b = decide ((stpI (ps.map (·.1)) G n).2.length < (ps.map (·.1)).length) → Q (.ref r) { s with heap := h', toks := tk' }),
    wpAny (model prog w) (ktrTop dp un gd cn cs L a ccd cl outer) (call (.ref 349) [.ref pl, .ref ne]) Q E s
end
abbrev roundsF_u (z9 : St1 × St2 × St3 × St4 × (Addr × Addr × (List (Int × Tok)) × Nat × Nat × (List NL)) × ((List (Addr × Obj)) × (Int → List Int))) : Prop := u2 (u6 (u6 (u6 (u6 (u6 @roundsF_S z9.1) z9.2.1) z9.2.2.1) z9.2.2.2.1) z9.2.2.2.2.1) z9.2.2.2.2.2
def roundsF_c := eps (by walk_at "ne") roundsF_u
namespace KroundsF
@[irreducible] def prog := roundsF_c.1.1
@[irreducible] def w := roundsF_c.1.2.1
@[irreducible] def p := roundsF_c.1.2.2.1
@[irreducible] def loose := roundsF_c.1.2.2.2.1
@[irreducible] def mean := roundsF_c.1.2.2.2.2.1
@[irreducible] def mg := roundsF_c.1.2.2.2.2.2
@[irreducible] def mb := roundsF_c.2.1.1
@[irreducible] def dp := roundsF_c.2.1.2.1
@[irreducible] def un := roundsF_c.2.1.2.2.1
@[irreducible] def gd := roundsF_c.2.1.2.2.2.1
@[irreducible] def cn := roundsF_c.2.1.2.2.2.2.1
@[irreducible] def cs := roundsF_c.2.1.2.2.2.2.2
@[irreducible] def a := roundsF_c.2.2.1.1
@[irreducible] def ccd := roundsF_c.2.2.1.2.1
@[irreducible] def cl := roundsF_c.2.2.1.2.2.1
@[irreducible] def outer := roundsF_c.2.2.1.2.2.2.1
@[irreducible] def A₀ := roundsF_c.2.2.1.2.2.2.2.1
@[irreducible] def base := roundsF_c.2.2.1.2.2.2.2.2
@[irreducible] def h₀ := roundsF_c.2.2.2.1.1
@[irreducible] def L := roundsF_c.2.2.2.1.2.1
@[irreducible] def m := roundsF_c.2.2.2.1.2.2.1
@[irreducible] def s := roundsF_c.2.2.2.1.2.2.2.1
@[irreducible] def Q := roundsF_c.2.2.2.1.2.2.2.2.1
@[irreducible] def E := roundsF_c.2.2.2.1.2.2.2.2.2
@[irreducible] def pl := roundsF_c.2.2.2.2.1.1
@[irreducible] def ne := roundsF_c.2.2.2.2.1.2.1
@[irreducible] def ps := roundsF_c.2.2.2.2.1.2.2.1
@[irreducible] def pc := roundsF_c.2.2.2.2.1.2.2.2.1
@[irreducible] def nc := roundsF_c.2.2.2.2.1.2.2.2.2.1
@[irreducible] def nl := roundsF_c.2.2.2.2.1.2.2.2.2.2
@[irreducible] def rest := roundsF_c.2.2.2.2.2.1
@[irreducible] def G := roundsF_c.2.2.2.2.2.2
end KroundsF
section
open KroundsF
def rw0_st : Stg (Heap → Addr → Heap → Nat → Obj → Obj → Obj → (Flow → Shared → Prop) → (Value → Shared → Prop) → Prop) (fun p9 => ∀ g1 L1 hh1 tk1 oc on op qk ek, p9 g1 L1 hh1 tk1 oc on op qk ek) (@roundsF_S prog w p loose mean mg mb dp un gd cn cs a ccd cl outer A₀ base h₀ L m s Q E pl ne ps pc nc nl rest G) := by
 refine' Stg.mk _ fun h9rw0 => ?hk9
 case hk9 =>
  have e9 : EpsOn := trivial
  unfold roundsF_S
  intro hG hps hpn hnl hjs B F X N T hk hdp hun ret
  refine wpAny_call ?_
  refine' code_defC ?k1 ?k2 ?k3 ?k4 ?k5 ?kA ?kF ?kK ?k6 ?k7 ?k8 ?k9 ?kB ?kD ?_ ?c2 ?c3 ?c4; (case kA => exact rfl); (case kF => exact rfl); (case kK => exact hk); (case k1 => k_asm); (case k2 => k_asm); (case k3 => k_asm); (case k4 => k_asm); (case k5 => k_asm); (case k6 => k_is); (case k7 => k_is); (case k8 => ktr_room); (case k9 => exact BindsTo.of_eq rfl); (case kB => exact rfl); (case kD => decide +kernel); (case c2 => exact rfl); (case c3 => exact rfl); (case c4 => exact rfl)
  intro g1 L1 hh1 tk1 cells FG1 F1 N1 Y1 B1 X1 T1 l1
  k_cells Y1
  (try simp only [List.cons_append, List.nil_append] at N1)
  (try dsimp only); (try k_fold)
  rename_i oc on op dc dn dp'
  replace dc : oc.data = .cell none := dc
  replace dn : on.data = .cell (some (.ref ne)) := dn
  replace dp' : op.data = .cell (some (.ref pl)) := dp'
  replace F1 : Fr g1 L1 hh1 (fun _ => none) := F1
  have lr : ∀ q ∈ nlsOf nl ++ rest, @LT.lt Nat _ q.1 L1 := fun q hq => l1 q (tl2 hq)
  have lpl : @LT.lt Nat _ pl L1 := l1 _ (.head _)
  have lne : @LT.lt Nat _ ne L1 := l1 _ (.tail _ (.head _))
  have cC : ∀ q ∈ nlsOf nl ++ rest, q.1 ≠ L1 + 1 + 1 + 1 := fun q hq => Nat.ne_of_lt (Nat.lt_trans (lr q hq) (by omega))
  clear l1
  revert hG hps hpn hnl hjs B F X N T hk hdp hun ret FG1 B1 X1 T1 N1 hq9 he9 dc dn dp' F1 lr lpl lne cC
  exact h9rw0 g1 L1 hh1 tk1 oc on op qk ek
@[irreducible] def rw0_S := rw0_st.p
theorem rw0_eq : rw0_S = rw0_st.p := by unfold rw0_S; rfl
abbrev rw0_u (z9 : (Heap × Addr × Heap × Nat × Obj × Obj) × (Obj × (Flow → Shared → Prop) × (Value → Shared → Prop))) : Prop := u3 (u6 rw0_S z9.1) z9.2
def rw0_c := eps (by walk_at "ne") rw0_u
namespace Krw0
@[irreducible] def g1 := rw0_c.1.1
@[irreducible] def L1 := rw0_c.1.2.1
@[irreducible] def hh1 := rw0_c.1.2.2.1
@[irreducible] def tk1 := rw0_c.1.2.2.2.1
@[irreducible] def oc := rw0_c.1.2.2.2.2.1
@[irreducible] def on := rw0_c.1.2.2.2.2.2
@[irreducible] def op := rw0_c.2.1
@[irreducible] def qk := rw0_c.2.2.1
@[irreducible] def ek := rw0_c.2.2.2
end Krw0
end
section
open KroundsF
open Krw0
def rw1_st : Stg (Heap → Heap → Nat → Addr → Addr → Obj → Nat → Nat → (List (Int × Tok)) → (List NL) → (Option Value) → Nat → Prop) (fun p9 => ∀ hA hB tkB rr co oc rc cc cm gl mg1 n, p9 hA hB tkB rr co oc rc cc cm gl mg1 n) (rw0_S Krw0.g1 Krw0.L1 Krw0.hh1 Krw0.tk1 Krw0.oc Krw0.on Krw0.op Krw0.qk Krw0.ek) := by
 refine' Stg.mk _ fun h9rw1 => ?hk9
 case hk9 =>
  have e9 : EpsOn := trivial
  unfold rw0_S rw0_st
  dsimp only
  intro hG hps hpn hnl hjs B F X N T hk hdp hun ret FG1 B1 X1 T1 N1 hq9 he9 dc dn dp' F1 lr lpl lne cC
  k_steps
  show wpAny _ _ (exec (Stmt.While _ _ _ _) _) _ _ _
  rename_i rr hz1 lt1 co hz2 lt2 Du hz3 lt3 hz4 hz5 hA oc2 FA NA dc2
  refine whl_start 0 ?_
  refine whl_ind (I := RnQ g1 L1 pl ne on op ps pc nc nl rest (ps.map (·.1)) G { s with heap := hA, toks := 0 }) ?hE ?step ((ps.map (·.1)).length - 0) ⟨⟨hA, _, rr, co, oc2, 0, 0, [], [], none, 0, rfl, fr_map FA ?m0, ?n0, dc2, rfl, rfl, rfl, fun k hk => absurd hk (Nat.not_lt_zero _), fun _ h => (nomatch h), fun _ h => (nomatch h), by omega, by omega, rfl⟩⟩
  case hE => first | passes_own | with_unfolding_all passes_own
  case m0 =>
   intro y
   by_cases e : y = Str.ofString "group"
   ·subst e; rfl
   ·simp only [rnM, e, if_false]
  case n0 =>
   intro q hq
   rcases List.mem_cons.mp hq with rfl | hq
   ·exact NA _ (.tail _ (.head _))
   ·rcases List.mem_cons.mp hq with rfl | hq
    ·exact NA _ (tl2 (.head _))
    ·exact NA q (tl3 hq)
  case step =>
   clear e9
   clear FA NA dc2 lt1 lt2 lt3
   intro Nm ss W91 ih
   walk_at "hide"
   obtain ⟨hB, tkB, rr, co, oc, rc, cc, cm, gl, mg1, n, rfl, FB, NB, dc, hcm, hgl, hgn, hprev, lgl, lgf, lrr, lco, rfl⟩ := W91
   walk_at "unhide"
   rename_i v1rw1 v2rw1 v3rw1
   revert hG hps hpn hnl hjs B F X N T hk hdp hun ret FG1 B1 X1 T1 hq9 he9 v1rw1 dn dp' lr lpl lne cC FB NB dc hcm hgl hgn hprev lgl lgf lrr lco ih
   exact h9rw1 hA hB tkB rr co oc rc cc cm gl mg1 n
@[irreducible] def rw1_S := rw1_st.p
theorem rw1_eq : rw1_S = rw1_st.p := by unfold rw1_S; rfl
abbrev rw1_u (z9 : (Heap × Heap × Nat × Addr × Addr × Obj) × (Nat × Nat × (List (Int × Tok)) × (List NL) × (Option Value) × Nat)) : Prop := u6 (u6 rw1_S z9.1) z9.2
def rw1_c := eps (by walk_at "ne") rw1_u
namespace Krw1
@[irreducible] def hA := rw1_c.1.1
@[irreducible] def hB := rw1_c.1.2.1
@[irreducible] def tkB := rw1_c.1.2.2.1
@[irreducible] def rr := rw1_c.1.2.2.2.1
@[irreducible] def co := rw1_c.1.2.2.2.2.1
@[irreducible] def oc := rw1_c.1.2.2.2.2.2
@[irreducible] def rc := rw1_c.2.1
@[irreducible] def cc := rw1_c.2.2.1
@[irreducible] def cm := rw1_c.2.2.2.1
@[irreducible] def gl := rw1_c.2.2.2.2.1
@[irreducible] def mg1 := rw1_c.2.2.2.2.2.1
@[irreducible] def n := rw1_c.2.2.2.2.2.2
end Krw1
end
section
open KroundsF
open Mine.Krw0 hiding oc
open Krw1
def rf1_st : Stg2 (Heap → Addr → Heap → Nat → Prop) (Heap → Nat → Nat → Addr → Obj → Addr → Obj → Addr → (Str → Option Value) → Heap → Nat → (Value → Shared → Prop) → Int → Tok → Prop) (fun p9 => ∀ gg D h3 tk3, p9 gg D h3 tk3) (fun p9 => ∀ gg k i I oIq C oC D m₂ h tk E' k0 kt, p9 gg k i I oIq C oC D m₂ h tk E' k0 kt) (rw1_S Krw1.hA Krw1.hB Krw1.tkB Krw1.rr Krw1.co Krw1.oc Krw1.rc Krw1.cc Krw1.cm Krw1.gl Krw1.mg1 Krw1.n) := by
 refine' Stg2.mk _ _ fun h9rf1 h9rs1 => ?hk9
 case hk9 =>
  have e9 : EpsOn := trivial
  unfold rw1_S rw1_st
  dsimp only
  intro hG hps hpn hnl hjs B F X N T hk hdp hun ret FG1 B1 X1 T1 hq9 he9 v1rw1 dn dp' lr lpl lne cC FB NB dc hcm hgl hgn hprev lgl lgf lrr lco ih
  k_steps
  refine LCt.CompSrcT.ledger rfl FB NB (tl4 (.tail _ (.head _))) (by rw [List.size_toArray, List.length_map, sizeLine_eq]; omega) ?_
  intro gg
  refine compT_ind (its := (ps.map iV).toArray) (J := fun i ys news => news = (co, listOf (cm.map iV).toArray cc) :: (rr, listOf (nlVs gl).toArray rc) :: (L1 + 1 + 1 + 1, oc) :: (L1 + 1 + 1, on) :: (L1 + 1, op) :: (pl, listOf (ps.map iV).toArray pc) :: (ne, listOf (nlVs nl).toArray nc) :: (nlsOf gl ++ (nlsOf nl ++ rest)) ∧ ys = ((ps.take i).filter (pG (ps.map (·.1)) G (cm.map (·.1)))).map iV) ?fin ?step _ 0 [] _ (Nat.zero_add _) ⟨rfl, rfl⟩
  case fin =>
   clear e9
   rintro ys news ⟨rfl, rfl⟩
   unfold FinA
   intro D h3 tk3 F3 N3 off3
   rw [List.size_toArray, List.length_map, List.take_length] at N3
   have hgr : (ps.filter (pG (ps.map (·.1)) G (cm.map (·.1)))).map (·.1) = grpI (ps.map (·.1)) G (stpI (ps.map (·.1)) G n).2 := by
    unfold grpI
    rw [List.filter_map, ← hcm]; rfl
   clear FB NB
   revert hG hps hpn hnl hjs B F X N T hk hdp hun ret FG1 B1 X1 T1 hq9 he9 v1rw1 dn dp' lr lpl lne cC dc hcm hgl hgn hprev lgl lgf lrr lco ih F3 N3 off3 hgr
   exact h9rf1 gg D h3 tk3
  case step =>
   clear e9
   rintro k i ys news v hv ⟨rfl, rfl⟩ ih2 I oIq C oC D m₂ h tk E' hC hx F3 N3 off nes
   obtain ⟨q0, hq0, rfl⟩ : ∃ q0, ps[i]? = some q0 ∧ v = iV q0 := by
    rw [List.getElem?_toArray, List.getElem?_map, Option.map_eq_some_iff] at hv
    obtain ⟨q, h1, h2⟩ := hv
    exact ⟨q, h1, h2.symm⟩
   obtain ⟨k0, kt⟩ := q0
   clear FB NB
   revert hG hps hpn hnl hjs B F X N T hk hdp hun ret FG1 B1 X1 T1 hq9 he9 v1rw1 dn dp' lr lpl lne cC dc hcm hgl hgn hprev lgl lgf lrr lco ih ih2 hC F3 N3 off nes hq0 hv hx
   exact h9rs1 gg k i I oIq C oC D m₂ h tk E' k0 kt
@[irreducible] def rf1_S := rf1_st.p
theorem rf1_eq : rf1_S = rf1_st.p := by unfold rf1_S; rfl
abbrev rf1_u (z9 : Heap × Addr × Heap × Nat) : Prop := u4 rf1_S z9
def rf1_c := eps (by walk_at "ne") rf1_u
namespace Krf1
@[irreducible] def gg := rf1_c.1
@[irreducible] def D := rf1_c.2.1
@[irreducible] def h3 := rf1_c.2.2.1
@[irreducible] def tk3 := rf1_c.2.2.2
end Krf1
end
section
open KroundsF
open Mine.Krw0 hiding oc
open Krw1
open Krf1
theorem rf1_1 : rf1_S Krf1.gg Krf1.D Krf1.h3 Krf1.tk3 := by
 have e9 : EpsOn := trivial
 unfold rf1_S rf1_st
 dsimp only
 intro hG hps hpn hnl hjs B F X N T hk hdp hun ret FG1 B1 X1 T1 hq9 he9 v1rw1 dn dp' lr lpl lne cC dc hcm hgl hgn hprev lgl lgf lrr lco ih F3 N3 off3 hgr
 k_steps
 show wpAny _ _ (compareOp .Eq (.ref D) (.ref _)) _ _ _
 refine ke_eq_ints (xs := (ps.filter (pG (ps.map (·.1)) G (cm.map (·.1)))).map iV) (ys := []) (ns := (ps.filter (pG (ps.map (·.1)) G (cm.map (·.1)))).map (·.1)) (ms := []) (News.isList (by k_asm) (by k_mem)) (News.isList (by k_asm) (by k_mem)) (ints_of _) .nil (by ke_room) ?_
 rw [hgr]
 by_cases hg : grpI (ps.map (·.1)) G (stpI (ps.map (·.1)) G n).2 = []
 ·rw [decide_eq_true hg]
  have hle := stpI_le (G := G) hpn n
  have hcl : cm.length = (stpI (ps.map (·.1)) G n).2.length := by rw [← hcm, List.length_map]
  rw [List.length_map] at hle
  k_steps
  show wpAny _ _ (call (.builtin "len") [.ref co]) _ _ _
  refine len_vals (vs := cm.map iV) (by kmk_list) (by rw [List.length_map]; omega) ?_
  k_steps
  show wpAny _ _ (call (.builtin "len") [.ref pl]) _ _ _
  refine len_vals (vs := ps.map iV) (by kmk_list) (by rw [List.length_map]; omega) ?_
  k_steps
  rename_i r0 hr0 Fr0 Nr0 lr0 kF kN Tc kX
  have eb : decide (((cm.map iV).length : Int) < ((ps.map iV).length : Nat)) = decide ((stpI (ps.map (·.1)) G n).2.length < (ps.map (·.1)).length) := by
   rw [List.length_map, List.length_map, List.length_map, hcl, Bool.eq_iff_iff, decide_eq_true_eq, decide_eq_true_eq]; omega
  rw [eb] at kN
  have lL : ∀ q ∈ (pl, listOf (ps.map iV).toArray pc) :: (ne, listOf (nlVs nl).toArray nc) :: (nlsOf nl ++ rest), @LT.lt Nat _ q.1 L1 := fun q hq => by
   rcases List.mem_cons.mp hq with rfl | hq
   ·exact lpl
   ·rcases List.mem_cons.mp hq with rfl | hq
    ·exact lne
    ·exact lr q hq
  have l0 : @LT.lt Nat _ (L1 + 1 + 1 + 1) r0 := Nat.lt_trans lrr lr0.2.2.2.1
  refine ret _ _ r0 rr _ rc gl n kF (fun q hq => ?_) (fun q hq => ⟨Nat.ne_of_lt (Nat.lt_trans (lL q hq) (by omega)), Nat.ne_of_lt (Nat.lt_trans (lL q hq) (by omega)), fun g hg => lgf g hg q hq⟩) ⟨hprev, hg⟩ hgl rfl
  rcases List.mem_cons.mp hq with rfl | hq
  ·exact kN _ (.head _)
  ·rcases List.mem_cons.mp hq with rfl | hq
   ·exact kN _ (tl4 (.head _))
   ·rcases List.mem_append.mp hq with hq | hq
    ·exact kN q (tl4 (tl4 (tl2 (List.mem_append_left _ hq))))
    ·rcases List.mem_cons.mp hq with rfl | hq
     ·exact kN _ (tl4 (tl4 (.head _)))
     ·rcases List.mem_cons.mp hq with rfl | hq
      ·exact kN _ (tl4 (tl4 (.tail _ (.head _))))
      ·exact kN q (tl4 (tl4 (tl2 (List.mem_append_right _ hq))))
 ·rw [decide_eq_false hg]
  have o3f := off1_memN off3
  walk_at "hide"
  obtain ⟨_, _, o3, _⟩ := off3
  walk_at "unhide"
  have hDc : @Ne Nat D (L1 + 1 + 1 + 1) := fun e => o3 e.symm
  have hge := stpI_ge hprev
  have hle := stpI_le (G := G) hpn n
  have hcl : cm.length = (stpI (ps.map (·.1)) G n).2.length := by rw [← hcm, List.length_map]
  rw [List.length_map] at hle
  have hfl := List.length_filter_le (pG (ps.map (·.1)) G (cm.map (·.1))) ps
  have cC2 : ∀ q ∈ nlsOf gl ++ (nlsOf nl ++ rest), q.1 ≠ L1 + 1 + 1 + 1 := fun q hq => (List.mem_append.mp hq).elim (lgl q) (cC q)
  k_steps
  show wpAny _ _ (binaryOp .Add (.ref rr) (.ref _)) _ _ _
  refine kmk_add_lit (its := (nlVs gl).toArray) (its2 := #[.ref D]) (zs := nlVs (gl ++ [⟨D, (ps.filter (pG (ps.map (·.1)) G (cm.map (·.1)))), ((ps.filter (pG (ps.map (·.1)) G (cm.map (·.1)))).map iV).length⟩])) (by k_asm) (by k_asm) (by kmk_list) (by kmk_list) (by simp [nlVs]) ?_ (by rw [sizeLine_eq]; simp [nlVs]; omega)
  intro r2 h4 F4 N4 l4
  have lr2 : @LT.lt Nat _ (L1 + 1 + 1 + 1) r2 := l4 _ (tl4 (.tail _ (.head _)))
  have lD2 : @LT.lt Nat _ D r2 := l4 _ (tl2 (.head _))
  clear l4
  k_steps
  show wpAny _ _ (binaryOp .Add (.ref co) (.ref D)) _ _ _
  refine kmk_add_lit (its := (cm.map iV).toArray) (its2 := ((ps.filter (pG (ps.map (·.1)) G (cm.map (·.1)))).map iV).toArray) (zs := (cm ++ (ps.filter (pG (ps.map (·.1)) G (cm.map (·.1))))).map iV) (by k_asm) (by k_asm) (by kmk_list) (by kmk_list) (by simp) ?_ (by rw [sizeLine_eq]; simp only [List.length_map]; omega)
  intro c2 h5 F5 N5 l5
  have lc2 : @LT.lt Nat _ (L1 + 1 + 1 + 1) c2 ∧ @LT.lt Nat _ r2 c2 := ⟨l5 _ (tl4 (tl2 (.head _))), l5 _ (.head _)⟩
  clear l5
  k_steps
  show WhlRest _ _ _ _ _ _ _ _ _ _ _
  rename_i hz1 hz2 hz3 oc6 F6 N6 dc6
  have eS : (stpI (ps.map (·.1)) G (n + 1)).2.length = (stpI (ps.map (·.1)) G n).2.length + (ps.filter (pG (ps.map (·.1)) G (cm.map (·.1)))).length := by
   show ((stpI (ps.map (·.1)) G n).2 ++ grpI (ps.map (·.1)) G (stpI (ps.map (·.1)) G n).2).length = _
   rw [List.length_append, ← hgr, List.length_map]
  have hpos : 0 < (ps.filter (pG (ps.map (·.1)) G (cm.map (·.1)))).length := by
   have := List.length_pos_iff.mpr hg
   rw [← hgr, List.length_map] at this
   exact this
  refine ih ((ps.map (·.1)).length - (stpI (ps.map (·.1)) G (n + 1)).2.length) _ ?lt ⟨_, _, r2, c2, oc6, 0, 0, cm ++ (ps.filter (pG (ps.map (·.1)) G (cm.map (·.1)))), gl ++ [⟨D, (ps.filter (pG (ps.map (·.1)) G (cm.map (·.1)))), ((ps.filter (pG (ps.map (·.1)) G (cm.map (·.1)))).map iV).length⟩], some (.ref D), n + 1, rfl, fr_map F6 ?m1, ?n1, dc6, ?q1, ?q2, ?q3, ?q4, ?q5, ?q6, lr2, lc2.1, rfl⟩
  case lt =>
   have := stpI_le (G := G) hpn (n + 1)
   rw [eS] at this ⊢
   omega
  case m1 =>
   intro y
   by_cases e : y = Str.ofString "rounds"
   ·subst e; rfl
   ·by_cases e2 : y = Str.ofString "group"
    ·subst e2; rfl
    ·simp only [rnM, e, e2, if_false]
  case q1 =>
   rw [List.map_append, hgr, hcm]; rfl
  case q2 =>
   unfold nlNs at hgl ⊢
   rw [List.map_append, hgl]
   show _ ++ [(ps.filter (pG (ps.map (·.1)) G (cm.map (·.1)))).map (·.1)] = (stpI (ps.map (·.1)) G n).1 ++ [grpI (ps.map (·.1)) G (stpI (ps.map (·.1)) G n).2]
   rw [hgr]
  case q3 => rw [List.length_append, hgn]; rfl
  case q4 =>
   intro k' hk'
   rcases Nat.lt_succ_iff_lt_or_eq.mp hk' with h | rfl
   ·exact hprev k' h
   ·exact hg
  case q5 =>
   intro q hq
   unfold nlsOf at hq
   rw [List.map_append] at hq
   rcases List.mem_append.mp hq with hq | hq
   ·exact lgl q hq
   ·rw [List.mem_singleton.mp hq]; exact hDc
  case q6 =>
   intro q hq p hp
   unfold nlsOf at hq
   rw [List.map_append] at hq
   rcases List.mem_append.mp hq with hq | hq
   ·exact lgf q hq p hp
   ·rw [List.mem_singleton.mp hq]
    refine o3f p (tl4 (.tail _ ?_))
    rcases List.mem_cons.mp hp with rfl | hp
    ·exact .head _
    ·rcases List.mem_cons.mp hp with rfl | hp
     ·exact .tail _ (.head _)
     ·exact tl2 (List.mem_append_right _ hp)
  case n1 =>
   intro q hq
   have tl : ∀ q ∈ (L1 + 1 + 1 + 1, oc6) :: (L1 + 1 + 1, on) :: (L1 + 1, op) :: (pl, listOf (ps.map iV).toArray pc) :: (ne, listOf (nlVs nl).toArray nc) :: (nlsOf gl ++ (nlsOf nl ++ rest)), News g1 L1 _ [q] := fun q hq q' hq' => by
    rw [List.mem_singleton.mp hq']
    exact N6 q (tl4 (tl4 hq))
   rcases List.mem_cons.mp hq with rfl | hq
   ·exact N6 _ (.tail _ (.head _))
   ·rcases List.mem_cons.mp hq with rfl | hq
    ·exact N6 _ (tl2 (.head _))
    ·rcases List.mem_cons.mp hq with rfl | hq
     ·exact tl _ (.head _) _ (.head _)
     ·rcases List.mem_cons.mp hq with rfl | hq
      ·exact tl _ (.tail _ (.head _)) _ (.head _)
      ·rcases List.mem_cons.mp hq with rfl | hq
       ·exact tl _ (tl2 (.head _)) _ (.head _)
       ·rcases List.mem_cons.mp hq with rfl | hq
        ·exact tl _ (tl3 (.head _)) _ (.head _)
        ·rcases List.mem_cons.mp hq with rfl | hq
         ·exact tl _ (tl4 (.head _)) _ (.head _)
         ·unfold nlsOf at hq
          rw [List.map_append, List.append_assoc] at hq
          rcases List.mem_append.mp hq with hq | hq
          ·exact tl q (tl4 (.tail _ (List.mem_append_left _ hq))) _ (.head _)
          ·rcases List.mem_append.mp hq with hq | hq
           ·rw [List.mem_singleton.mp hq]
            exact N6 _ (tl4 (.tail _ (.head _)))
           ·exact tl q (tl4 (.tail _ (List.mem_append_right _ hq))) _ (.head _)
end
section
open KroundsF
open Mine.Krw0 hiding oc
open Krw1
@[irreducible] def rs1_S := rf1_st.q
theorem rs1_eq : rs1_S = rf1_st.q := by unfold rs1_S; rfl
abbrev rs1_u (z9 : (Heap × Nat × Nat × Addr × Obj × Addr) × (Obj × Addr × (Str → Option Value) × Heap × Nat × (Value → Shared → Prop)) × (Int × Tok)) : Prop := u2 (u6 (u6 rs1_S z9.1) z9.2.1) z9.2.2
def rs1_c := eps (by walk_at "ne") rs1_u
namespace Krs1
@[irreducible] def gg := rs1_c.1.1
@[irreducible] def k := rs1_c.1.2.1
@[irreducible] def i := rs1_c.1.2.2.1
@[irreducible] def I := rs1_c.1.2.2.2.1
@[irreducible] def oIq := rs1_c.1.2.2.2.2.1
@[irreducible] def C := rs1_c.1.2.2.2.2.2
@[irreducible] def oC := rs1_c.2.1.1
@[irreducible] def D := rs1_c.2.1.2.1
@[irreducible] def m₂ := rs1_c.2.1.2.2.1
@[irreducible] def h := rs1_c.2.1.2.2.2.1
@[irreducible] def tk := rs1_c.2.1.2.2.2.2.1
@[irreducible] def E' := rs1_c.2.1.2.2.2.2.2
@[irreducible] def k0 := rs1_c.2.2.1
@[irreducible] def kt := rs1_c.2.2.2
end Krs1
end
section
open KroundsF
open Mine.Krw0 hiding oc
open Krw1
open Krs1
theorem rs1_1 : rs1_S Krs1.gg Krs1.k Krs1.i Krs1.I Krs1.oIq Krs1.C Krs1.oC Krs1.D Krs1.m₂ Krs1.h Krs1.tk Krs1.E' Krs1.k0 Krs1.kt := by
 have e9 : EpsOn := trivial
 unfold rs1_S rf1_st
 dsimp only
 intro hG hps hpn hnl hjs B F X N T hk hdp hun ret FG1 B1 X1 T1 hq9 he9 v1rw1 dn dp' lr lpl lne cC dc hcm hgl hgn hprev lgl lgf lrr lco ih ih2 hC F3 N3 off nes hq0 hv hx
 k_steps
 show wpAny _ _ (compareOp .NotIn (.int k0 kt) (.ref co)) _ _ _
 refine notin_list_ints (vs := cm.map iV) (ns := cm.map (·.1)) (News.isList N3 (tl3 (.head _))) (ints_of cm) ?_
 rw [any_memI]
 have tk1 := takeF (p := pG (ps.map (·.1)) G (cm.map (·.1))) hq0
 by_cases hc : k0 ∈ cm.map (·.1)
 ·rw [decide_eq_true hc]
  k_steps
  show CompEnd _ _ _ _ _ _ _ _ _ _ _ _ _ _
  refine CompEnd.intro F3 N3 _ (fun _ h => h) off (.inr ⟨_, tl4 (.tail _ (.head _)), rfl, _, rfl⟩) (ih2 _ _ ⟨rfl, ?_⟩)
  rw [tk1, if_neg (by simp [pG, hc]), List.append_nil]
 ·rw [decide_eq_false hc]
  walk_at "hide"
  obtain ⟨i0, e0, j0, hj0, hjG⟩ := hG (k0, kt) (List.mem_of_getElem? hq0)
  walk_at "unhide"
  have e0 : k0 = (i0 : Int) := e0
  have hi0 : i0 < nl.length := (List.getElem?_eq_some_iff.mp hj0).1
  k_steps
  show wpAny _ _ (subscriptTail _ _ (.ref ne) (.int k0 kt)) _ _ _
  refine kim_list (l := nlVs nl) (lo := listOf (nlVs nl).toArray nc) N3 (tl4 (tl4 (.tail _ (.head _)))) rfl rfl (by omega) (by rw [e0]; omega) (x := .ref j0.ad) (by rw [e0, Int.toNat_natCast]; unfold nlVs; rw [List.getElem?_map, hj0]; rfl) ?_
  have hjm : (j0.ad, j0.ob) ∈ (I, oIq) :: (C, oC) :: (D, (lst (((ps.take i).filter (pG (ps.map (·.1)) G (cm.map (·.1)))).map iV))) :: ((co, listOf (cm.map iV).toArray cc) :: (rr, listOf (nlVs gl).toArray rc) :: (L1 + 1 + 1 + 1, oc) :: (L1 + 1 + 1, on) :: (L1 + 1, op) :: (pl, listOf (ps.map iV).toArray pc) :: (ne, listOf (nlVs nl).toArray nc) :: (nlsOf gl ++ (nlsOf nl ++ rest))) := by
   have : (j0.ad, j0.ob) ∈ nlsOf nl := List.mem_map.mpr ⟨j0, List.mem_of_getElem? hj0, rfl⟩
   exact tl4 (tl4 (tl2 (List.mem_append_right _ (List.mem_append_left _ this))))
  refine LCt.CompSrcT.ledger rfl F3 N3 hjm (by rw [List.size_toArray, List.length_map, sizeLine_eq]; have := hjs j0 (List.mem_of_getElem? hj0); omega) ?_
  intro gg2
  refine compT_ind (its := (j0.js.map iV).toArray) (J := fun i2 ys2 news2 => news2 = (I, oIq) :: (C, oC) :: (D, (lst (((ps.take i).filter (pG (ps.map (·.1)) G (cm.map (·.1)))).map iV))) :: ((co, listOf (cm.map iV).toArray cc) :: (rr, listOf (nlVs gl).toArray rc) :: (L1 + 1 + 1 + 1, oc) :: (L1 + 1 + 1, on) :: (L1 + 1, op) :: (pl, listOf (ps.map iV).toArray pc) :: (ne, listOf (nlVs nl).toArray nc) :: (nlsOf gl ++ (nlsOf nl ++ rest))) ∧ ys2 = ((j0.js.take i2).filter (fun q : Int × Tok => decide (q.1 ∈ ps.map (·.1)) && !decide (q.1 ∈ cm.map (·.1)))).map iV) ?fin2 ?step2 _ 0 [] _ (Nat.zero_add _) ⟨rfl, rfl⟩
  case fin2 =>
   clear e9
   rintro ys2 news2 ⟨rfl, rfl⟩
   unfold FinE
   intro D2 h2 tk2 F4 N4 off4
   rw [List.size_toArray, List.length_map, List.take_length] at N4
   have hfm : (j0.js.filter (fun q : Int × Tok => decide (q.1 ∈ ps.map (·.1)) && !decide (q.1 ∈ cm.map (·.1)))).map (·.1) = (G k0).filter fun j => decide (j ∈ ps.map (·.1)) && !decide (j ∈ cm.map (·.1)) := by
    have hjG : j0.js.map (·.1) = G k0 := hjG
    rw [← hjG, List.filter_map]; rfl
   k_steps
   show wpAny _ _ (compareOp .Eq (.ref D2) (.ref _)) _ _ _
   refine ke_eq_ints (xs := (j0.js.filter (fun q : Int × Tok => decide (q.1 ∈ ps.map (·.1)) && !decide (q.1 ∈ cm.map (·.1)))).map iV) (ys := []) (ns := (j0.js.filter (fun q : Int × Tok => decide (q.1 ∈ ps.map (·.1)) && !decide (q.1 ∈ cm.map (·.1)))).map (·.1)) (ms := []) (News.isList (by k_asm) (by k_mem)) (News.isList (by k_asm) (by k_mem)) (ints_of _) .nil (by ke_room) ?_
   rw [hfm]
   by_cases hg : ((G k0).filter fun j => decide (j ∈ ps.map (·.1)) && !decide (j ∈ cm.map (·.1))) = []
   ·rw [decide_eq_true hg]
    k_steps
    show CompEnd _ _ _ _ _ _ _ _ _ _ _ _ _ _
    with_reducible rename Fr g1 L1 _ _ => F5
    with_reducible rename News g1 L1 _ _ => N5
    refine CompEnd.intro F5 N5 _ (fun _ h => tl2 h) off (.inr ⟨_, tl4 (.tail _ (.head _)), rfl, _, rfl⟩) (ih2 _ _ ⟨rfl, ?_⟩)
    rw [tk1, if_pos (by simp only [pG, hg, decide_eq_false hc]; rfl), List.map_append]; rfl
   ·rw [decide_eq_false hg]
    k_steps
    show CompEnd _ _ _ _ _ _ _ _ _ _ _ _ _ _
    with_reducible rename Fr g1 L1 _ _ => F5
    with_reducible rename News g1 L1 _ _ => N5
    refine CompEnd.intro F5 N5 _ (fun _ h => tl2 h) off (.inr ⟨_, tl4 (.tail _ (.head _)), rfl, _, rfl⟩) (ih2 _ _ ⟨rfl, ?_⟩)
    rw [tk1, if_neg (by simp only [pG, Bool.and_eq_true, List.isEmpty_iff]; exact fun z => hg z.2), List.append_nil]
  case step2 =>
   clear e9
   rintro k2 i2 ys2 news2 v2 hv2 ⟨rfl, rfl⟩ ih3 I2 oI2 C2 oC2 D2 m2 h2 tk2 E2 hC2 hx2 F4 N4 off4 nes4
   obtain ⟨q1, hq1, rfl⟩ : ∃ q1, j0.js[i2]? = some q1 ∧ v2 = iV q1 := by
    rw [List.getElem?_toArray, List.getElem?_map, Option.map_eq_some_iff] at hv2
    obtain ⟨q, h1, h2⟩ := hv2
    exact ⟨q, h1, h2.symm⟩
   obtain ⟨j1, jt⟩ := q1
   have tk3 := takeF (p := (fun q : Int × Tok => decide (q.1 ∈ ps.map (·.1)) && !decide (q.1 ∈ cm.map (·.1)))) hq1
   clear F3 N3
   k_steps
   show wpAny _ _ (compareOp .In (.int j1 jt) (.ref pl)) _ _ _
   refine in_list_ints (vs := ps.map iV) (ns := ps.map (·.1)) (News.isList N4 (tl4 (tl4 (tl3 (.head _)))) ) (ints_of ps) ?_
   rw [any_memI]
   by_cases h1 : j1 ∈ ps.map (·.1)
   ·rw [decide_eq_true h1]
    k_steps
    show wpAny _ _ (compareOp .NotIn (.int j1 jt) (.ref co)) _ _ _
    refine notin_list_ints (vs := cm.map iV) (ns := cm.map (·.1)) (News.isList N4 (tl4 (tl2 (.head _)))) (ints_of cm) ?_
    rw [any_memI]
    by_cases h2 : j1 ∈ cm.map (·.1)
    ·rw [decide_eq_true h2]
     k_steps
     show CompEnd _ _ _ _ _ _ _ _ _ _ _ _ _ _
     refine CompEnd.intro F4 N4 _ (fun _ h => h) off4 (.inr ⟨_, hjm, rfl, _, rfl⟩) (ih3 _ _ ⟨rfl, ?_⟩)
     rw [tk3, if_neg (by simp [h2]), List.append_nil]
    ·rw [decide_eq_false h2]
     k_steps
     show CompEnd _ _ _ _ _ _ _ _ _ _ _ _ _ _
     refine CompEnd.intro F4 N4 _ (fun _ h => h) off4 (.inr ⟨_, hjm, rfl, _, rfl⟩) (ih3 _ _ ⟨rfl, ?_⟩)
     rw [tk3, if_pos (by simp only [decide_eq_true h1, decide_eq_false h2]; rfl), List.map_append]; rfl
   ·rw [decide_eq_false h1]
    k_steps
    show CompEnd _ _ _ _ _ _ _ _ _ _ _ _ _ _
    refine CompEnd.intro F4 N4 _ (fun _ h => h) off4 (.inr ⟨_, hjm, rfl, _, rfl⟩) (ih3 _ _ ⟨rfl, ?_⟩)
    rw [tk3, if_neg (by simp only [decide_eq_false h1]; simp), List.append_nil]
end
section
open KroundsF
open Mine.Krw0 hiding oc
open Krw1
theorem rf1_all (gg D h3 tk3) : rf1_S gg D h3 tk3 :=
 eps_all (S := rf1_u) rf1_c rfl (by have := rf1_1; with_unfolding_all assumption) ((gg, D, h3, tk3))
theorem rs1_all (gg k i I oIq C oC D m₂ h tk E' k0 kt) : rs1_S gg k i I oIq C oC D m₂ h tk E' k0 kt :=
 eps_all (S := rs1_u) rs1_c rfl (by have := rs1_1; with_unfolding_all assumption) ((gg, k, i, I, oIq, C), (oC, D, m₂, h, tk, E'), (k0, kt))
theorem rw1_1 : rw1_S Krw1.hA Krw1.hB Krw1.tkB Krw1.rr Krw1.co Krw1.oc Krw1.rc Krw1.cc Krw1.cm Krw1.gl Krw1.mg1 Krw1.n :=
 stg_go2 rf1_st rf1_eq rs1_eq rf1_all rs1_all
end
section
open KroundsF
open Krw0
theorem rw1_all (hA hB tkB rr co oc rc cc cm gl mg1 n) : rw1_S hA hB tkB rr co oc rc cc cm gl mg1 n :=
 eps_all (S := rw1_u) rw1_c rfl (by have := rw1_1; with_unfolding_all assumption) ((hA, hB, tkB, rr, co, oc), (rc, cc, cm, gl, mg1, n))
theorem rw0_1 : rw0_S Krw0.g1 Krw0.L1 Krw0.hh1 Krw0.tk1 Krw0.oc Krw0.on Krw0.op Krw0.qk Krw0.ek :=
 stg_go rw1_st rw1_eq rw1_all
end
section
open KroundsF
theorem rw0_all (g1 L1 hh1 tk1 oc on op qk ek) : rw0_S g1 L1 hh1 tk1 oc on op qk ek :=
 eps_all (S := rw0_u) rw0_c rfl (by have := rw0_1; with_unfolding_all assumption) ((g1, L1, hh1, tk1, oc, on), (op, qk, ek))
theorem roundsF_0 : @roundsF_S prog w p loose mean mg mb dp un gd cn cs a ccd cl outer A₀ base h₀ L m s Q E pl ne ps pc nc nl rest G :=
 stg_go rw0_st rw0_eq rw0_all
end
theorem roundsF {prog w p loose mean mg mb dp un gd cn cs a ccd cl outer A₀ base h₀ L m s Q E pl ne ps pc nc nl rest G} : @roundsF_S prog w p loose mean mg mb dp un gd cn cs a ccd cl outer A₀ base h₀ L m s Q E pl ne ps pc nc nl rest G :=
 eps_all (S := roundsF_u) roundsF_c rfl (by have := roundsF_0; with_unfolding_all assumption) ((prog, w, p, loose, mean, mg), (mb, dp, un, gd, cn, cs), (a, ccd, cl, outer, A₀, base), (h₀, L, m, s, Q, E), (pl, ne, ps, pc, nc, nl), (rest, G))
end
end Mine
namespace Mine
open TI PyProof.Rows.LCg PyProof.Rows.LCt
namespace SL20
def h9s_eval_ListComp := sT
def h9s_exec_Assign_cons_ListComp := sT
def h9s_CompSrc := sT
def h9s_CompEnd := sT
def h9s_CompRest := sT
theorem h9r0 : StopRef 349 := trivial
end SL20
open SL20
def giS (xs : List Int) (k : Int) : List Int := ndS (wayS.getD k.toNat []) (xs.getD k.toNat 0)
theorem nl_get {xs : List (Int × Tok)} {nl : List NL} (hxl : xs.length = 5) (hlg : nlNs nl = (wayS.zip (xs.map (·.1))).map fun p => ndS p.1 p.2) (k : Nat) (hk : k < 5) : ∃ j, nl[k]? = some j ∧ j.js.map (·.1) = giS (xs.map (·.1)) (k : Int) := by
 obtain ⟨x, hx⟩ : ∃ x, (xs.map (·.1))[k]? = some x := ⟨_, List.getElem?_eq_getElem (by rw [List.length_map]; omega)⟩
 obtain ⟨w, hw⟩ : ∃ w, wayS[k]? = some w := ⟨_, List.getElem?_eq_getElem hk⟩
 have hz : (wayS.zip (xs.map (·.1)))[k]? = some (w, x) := List.getElem?_zip_eq_some.mpr ⟨hw, hx⟩
 have e := congrArg (fun l => l[k]?) hlg
 unfold nlNs at e
 simp only [List.getElem?_map, hz, Option.map_some] at e
 obtain ⟨j, hj, he⟩ := Option.map_eq_some_iff.mp e
 refine ⟨j, hj, ?_⟩
 rw [he]
 unfold giS
 rw [Int.toNat_natCast, List.getD_eq_getElem?_getD, List.getD_eq_getElem?_getD, hw, hx]; rfl
theorem mem_back3 {q x1 x2 i c d p n : Addr × Obj} {A a b e g : List (Addr × Obj)} (h : q ∈ i :: c :: d :: x1 :: x2 :: (A ++ (a ++ (b ++ (e ++ g))))) : q ∈ x1 :: x2 :: (g ++ (p :: n :: (a ++ (i :: c :: d :: (A ++ (a ++ (b ++ e))))))) := by
 refine sub_of ?_ h
 (try dsimp only [List.cons_append, List.nil_append])
 walk_at "sub"
theorem mem_last {q : Addr × Obj} {A a b e g : List (Addr × Obj)} (h : q ∈ A ++ (a ++ (b ++ (e ++ g)))) : q ∈ A ++ (a ++ (b ++ e)) ∨ q ∈ g := by
 have h2 : q ∈ (A ++ (a ++ (b ++ e))) ++ g := by
  refine sub_of ?_ h
  walk_at "sub"
 exact List.mem_append.mp h2
theorem mem_back4 {q x1 x2 i c d p n : Addr × Obj} {A a b e f g : List (Addr × Obj)} (h : q ∈ i :: c :: d :: x1 :: x2 :: (A ++ (a ++ (b ++ (e ++ (f ++ g)))))) : q ∈ x1 :: x2 :: (g ++ (p :: n :: (a ++ (i :: c :: d :: (A ++ (a ++ (b ++ (e ++ f)))))))) := by
 refine sub_of ?_ h
 (try dsimp only [List.cons_append, List.nil_append])
 walk_at "sub"
theorem mem_last4 {q : Addr × Obj} {A a b e f g : List (Addr × Obj)} (h : q ∈ A ++ (a ++ (b ++ (e ++ (f ++ g))))) : q ∈ A ++ (a ++ (b ++ (e ++ f))) ∨ q ∈ g := by
 have h2 : q ∈ (A ++ (a ++ (b ++ (e ++ f)))) ++ g := by
  refine sub_of ?_ h
  walk_at "sub"
 exact List.mem_append.mp h2
@[irreducible] def b1_S := b1_st.p
theorem b1_eq : b1_S = b1_st.p := by unfold b1_S; rfl
abbrev b1_u (z9 : ((Str → List Str) × Heap × Nat × Heap × Addr × Addr) × (Bool × Nat × (List GL) × Nat × Heap × Tok) × (Tok × Tok × (List (Str × Tok)) × Addr × Heap × Addr) × (Addr × Bool × Nat × (List GL) × Nat × Addr) × (Heap × Nat)) : Prop := u2 (u6 (u6 (u6 (u6 b1_S z9.1) z9.2.1) z9.2.2.1) z9.2.2.2.1) z9.2.2.2.2
def b1_c := eps (by walk_at "ne") b1_u
namespace Kb1
@[irreducible] def G := b1_c.1.1
@[irreducible] def h1 := b1_c.1.2.1
@[irreducible] def tk1 := b1_c.1.2.2.1
@[irreducible] def g1 := b1_c.1.2.2.2.1
@[irreducible] def r1 := b1_c.1.2.2.2.2.1
@[irreducible] def rr1 := b1_c.1.2.2.2.2.2
@[irreducible] def ring1 := b1_c.2.1.1
@[irreducible] def rc1 := b1_c.2.1.2.1
@[irreducible] def gl1 := b1_c.2.1.2.2.1
@[irreducible] def n1 := b1_c.2.1.2.2.2.1
@[irreducible] def hR := b1_c.2.1.2.2.2.2.1
@[irreducible] def t1R := b1_c.2.1.2.2.2.2.2
@[irreducible] def u1R := b1_c.2.2.1.1
@[irreducible] def v1R := b1_c.2.2.1.2.1
@[irreducible] def fp := b1_c.2.2.1.2.2.1
@[irreducible] def Dq := b1_c.2.2.1.2.2.2.1
@[irreducible] def g2 := b1_c.2.2.1.2.2.2.2.1
@[irreducible] def r2 := b1_c.2.2.1.2.2.2.2.2
@[irreducible] def rr2 := b1_c.2.2.2.1.1
@[irreducible] def ring2 := b1_c.2.2.2.1.2.1
@[irreducible] def rc2 := b1_c.2.2.2.1.2.2.1
@[irreducible] def gl2 := b1_c.2.2.2.1.2.2.2.1
@[irreducible] def n2 := b1_c.2.2.2.1.2.2.2.2.1
@[irreducible] def Dt := b1_c.2.2.2.1.2.2.2.2.2
@[irreducible] def hq2 := b1_c.2.2.2.2.1
@[irreducible] def tk := b1_c.2.2.2.2.2
end Kb1
section
open Mine.Ka1 hiding tk1 tk
open Ka2
open Ka3
open Ka4
open Mine.Ka5 hiding tk
open Ka6
open Mine.Ka7 hiding tk hR t1R u1R v1R
open Mine.Ka8 hiding tk
open Mine.Ka9 hiding hR t1R u1R v1R tk
open Kb1
def b2_st : Stg (Addr → Addr → Heap → (List (Int × Tok)) → (Int → List Int) → Heap → Addr → Addr → Bool → Nat → (List NL) → Nat → Heap → Addr → Addr → Bool → Nat → (List NL) → Nat → Addr → Heap → Nat → Prop) (fun p9 => ∀ Lp LO hn2 ps Gi v8b2 r3 rr3 b3 rc3 gl3 n3 h r4 rr4 b4 rc4 gl4 n4 Du h5 tk5, p9 Lp LO hn2 ps Gi v8b2 r3 rr3 b3 rc3 gl3 n3 h r4 rr4 b4 rc4 gl4 n4 Du h5 tk5) (b1_S Kb1.G Kb1.h1 Kb1.tk1 Kb1.g1 Kb1.r1 Kb1.rr1 Kb1.ring1 Kb1.rc1 Kb1.gl1 Kb1.n1 Kb1.hR Kb1.t1R Kb1.u1R Kb1.v1R Kb1.fp Kb1.Dq Kb1.g2 Kb1.r2 Kb1.rr2 Kb1.ring2 Kb1.rc2 Kb1.gl2 Kb1.n2 Kb1.Dt Kb1.hq2 Kb1.tk) := by
 refine' Stg.mk _ fun h9b2 => ?hk9
 case hk9 =>
  unfold b1_S b1_st c19_st
  dsimp only
  intro hg KX T B TE TW M hL r0 hI hc63 hct hC5 dB dA dL l5 l4 l3 l2 hcu hcl ecl hcv hcvl hxs hxl hlks hfs hrl hgl hlo v1a3 ltx hsD v1a6 hoD hldG hlo2 e5 nDl nDr dW hwl nWy hwl5 hll hlg hl8 nDN hNT c5 dN v1a9 hks v1b1 K0 c6 o5f dQ a0 a1 v1a8 v2b1 nrX hans2 c7z nr7 dS v3b1 hzs hzl hal hfs5 hGd hG hG8 v4b1 v5b1 v6b1 v7b1 hE1 hgl1 hring1 rgR hfp off5 hsub hG2 hfl v8b1 v9b1 v10b1 v11b1 hE2 hgl2 hring2 ltT FA NA
  refine' LCg.Assign_ListComp_U ?r0 ?r1 ?r2 ?r3 ?r4 ?r5 ?r6 ?r7 ?r8 ?r9 ?_ ?ra
  case r0 => exact FA
  case r2 | r3 => with_unfolding_all rfl
  case r4 | r6 => decide
  case ra => intro _; rfl
  case r1 | r5 | r7 | r8 | r9 => rfl
  k_steps
  refine stop_un ?_
  rename_i Lp hn1 ltp LO hn2 FB NB ltO
  obtain ⟨ps, hps, eps⟩ : ∃ ps : List (Int × Tok), ps.map (·.1) = [0, 1, 2, 3, 4] ∧ ps = [(0, tk), (1, tk + 1), (2, tk + 1 + 1), (3, tk + 1 + 1 + 1), (4, tk + 1 + 1 + 1 + 1)] := ⟨_, rfl, rfl⟩
  have hpl : ps.length = 5 := by rw [eps]; rfl
  replace NB : News s₁.heap s₁.heap.objs.size hn2 ((LO, listOf #[Value.ref Lp, Value.ref DK] 0) :: (Lp, listOf (ps.map iV).toArray 0) :: (Dt, listOf #[Value.ref r1, Value.ref r2] 0) :: (r2, listOf #[Value.bool ring2, Value.ref rr2] 0) :: (rr2, listOf (glVs gl2).toArray rc2) :: (r1, listOf #[Value.bool ring1, Value.ref rr1] 0) :: (rr1, listOf (glVs gl1).toArray rc1) :: (DK, lst (ks.map iV)) :: (DN, listOf (nlVs nl).toArray (nlVs nl).length) :: (l1a, listOf (fs.map sV).toArray 0) :: (s₁.heap.objs.size + 1 + 1 + 1 + 1 + 1 + 1 + 1, oSq) :: (s₁.heap.objs.size + 1 + 1 + 1 + 1 + 1 + 1, oQq) :: (s₁.heap.objs.size + 1 + 1 + 1 + 1 + 1, oN) :: (s₁.heap.objs.size + 1 + 1 + 1 + 1, oWq) :: (s₁.heap.objs.size + 1 + 1 + 1, qL) :: (s₁.heap.objs.size + 1 + 1, qA) :: (s₁.heap.objs.size + 1, qB) :: (nlsOf nl ++ (glsOf gl1 ++ glsOf gl2))) := by rw [eps]; exact NB
  clear eps ltp ltO ltT
  obtain ⟨Gi, hGi⟩ : ∃ Gi : Int → List Int, Gi = giS (xs.map (·.1)) := ⟨_, rfl⟩
  have hGn : ∀ k : Nat, k < 5 → ∃ j, nl[k]? = some j ∧ j.js.map (·.1) = Gi (k : Int) := fun k hk => by rw [hGi]; exact nl_get hxl hlg k hk
  have hGp : ∀ q ∈ ps, ∃ i : Nat, q.1 = (i : Int) ∧ ∃ j, nl[i]? = some j ∧ j.js.map (·.1) = Gi q.1 := fun q hq => by
   have hm : q.1 ∈ ps.map (·.1) := List.mem_map_of_mem hq
   rw [hps] at hm
   have h5 : ∃ i : Nat, i < 5 ∧ q.1 = (i : Int) := by
    simp only [List.mem_cons, List.not_mem_nil, or_false] at hm
    rcases hm with h | h | h | h | h
    ·exact ⟨0, by decide, h⟩
    ·exact ⟨1, by decide, h⟩
    ·exact ⟨2, by decide, h⟩
    ·exact ⟨3, by decide, h⟩
    ·exact ⟨4, by decide, h⟩
   obtain ⟨i, hi, e⟩ := h5
   exact ⟨i, e, by rw [e]; exact hGn i hi⟩
  have hGk : ∀ q ∈ ks, ∃ i : Nat, q.1 = (i : Int) ∧ ∃ j, nl[i]? = some j ∧ j.js.map (·.1) = Gi q.1 := fun q hq => by
   have hm : q.1 ∈ ks.map (·.1) := List.mem_map_of_mem hq
   rw [hks] at hm
   obtain ⟨i, hi, e⟩ := List.mem_map.mp hm
   exact ⟨i, e.symm, by rw [← e]; exact hGn i (List.mem_range.mp (List.mem_filter.mp hi).1)⟩
  have hkn : (ks.map (·.1)).Nodup := by
   rw [hks]
   have h1 : ((List.range 5).map fun k : Nat => (k : Int)).Nodup := by decide
   exact h1.sublist ((List.filter_sublist (p := leftB cu) (l := List.range 5)).map _)
  have hkl : ks.length ≤ 8 := by
   have := congrArg List.length hks
   rw [List.length_map, List.length_map] at this
   have h2 := (List.filter_sublist (p := leftB cu) (l := List.range 5)).length_le
   rw [List.length_range] at h2
   omega
  have hll8 : nl.length ≤ 8 := by
   have := congrArg List.length hlg
   unfold nlNs at this
   rw [List.length_map, List.length_map, List.length_zip, List.length_map, hxl] at this
   rw [this]; decide
  refine LCg.CompSrc.ledger rfl FB NB (its := #[Value.ref Lp, Value.ref DK]) (k := 0) (.head _) (by rw [sizeLine_eq]; exact Nat.le_of_ble_eq_true rfl) ?_
  intro gg9
  refine LCg.CompRest.succ (k := 1) ?_
  intro v I oIq C oC D m₂ h tk' E' hv hC hx F3 N3 off nes
  obtain rfl : v = .ref Lp := (Option.some.inj hv).symm
  (try dsimp only)
  k_steps
  refine stop_un ?_
  refine roundsF (pl := Lp) (ps := ps) (pc := 0) (ne := DN) (nc := (nlVs nl).length) (nl := nl) (G := Gi) (rest := (I, oIq) :: (C, oC) :: (D, lst []) :: (LO, listOf #[Value.ref Lp, Value.ref DK] 0) :: (Lp, listOf (ps.map iV).toArray 0) :: (Dt, listOf #[Value.ref r1, Value.ref r2] 0) :: (r2, listOf #[Value.bool ring2, Value.ref rr2] 0) :: (rr2, listOf (glVs gl2).toArray rc2) :: (r1, listOf #[Value.bool ring1, Value.ref rr1] 0) :: (rr1, listOf (glVs gl1).toArray rc1) :: (DK, lst (ks.map iV)) :: (DN, listOf (nlVs nl).toArray (nlVs nl).length) :: (l1a, listOf (fs.map sV).toArray 0) :: (s₁.heap.objs.size + 1 + 1 + 1 + 1 + 1 + 1 + 1, oSq) :: (s₁.heap.objs.size + 1 + 1 + 1 + 1 + 1 + 1, oQq) :: (s₁.heap.objs.size + 1 + 1 + 1 + 1 + 1, oN) :: (s₁.heap.objs.size + 1 + 1 + 1 + 1, oWq) :: (s₁.heap.objs.size + 1 + 1 + 1, qL) :: (s₁.heap.objs.size + 1 + 1, qA) :: (s₁.heap.objs.size + 1, qB) :: (nlsOf nl ++ (glsOf gl1 ++ glsOf gl2))) hGp (by rw [hpl]; decide) (by rw [hps]; decide) hll8 hl8 K0 F3 KX (fun q hq => ?nn1) T rfl (by decide) (by decide) ?_
  case nn1 =>
   rcases List.mem_cons.mp hq with rfl | hq
   ·exact N3 _ (by (walk_at "hd"))
   ·rcases List.mem_cons.mp hq with rfl | hq
    ·exact N3 _ (by (walk_at "hd"))
    ·rcases List.mem_append.mp hq with hq | hq
     ·exact N3 q (by repeat (first | (with_reducible exact List.mem_append_left _ hq) | apply List.mem_cons_of_mem))
     ·exact N3 q hq
  intro h3 tk3 r3 rr3 b3 rc3 gl3 n3 F4 N4 fr3 hE3 hgl3 hb3
  have mI : ∀ q ∈ [(I, oIq), (C, oC), (D, lst [])], q ∈ (Lp, listOf (ps.map iV).toArray 0) :: (DN, listOf (nlVs nl).toArray (nlVs nl).length) :: (nlsOf nl ++ ((I, oIq) :: (C, oC) :: (D, lst []) :: (LO, listOf #[Value.ref Lp, Value.ref DK] 0) :: (Lp, listOf (ps.map iV).toArray 0) :: (Dt, listOf #[Value.ref r1, Value.ref r2] 0) :: (r2, listOf #[Value.bool ring2, Value.ref rr2] 0) :: (rr2, listOf (glVs gl2).toArray rc2) :: (r1, listOf #[Value.bool ring1, Value.ref rr1] 0) :: (rr1, listOf (glVs gl1).toArray rc1) :: (DK, lst (ks.map iV)) :: (DN, listOf (nlVs nl).toArray (nlVs nl).length) :: (l1a, listOf (fs.map sV).toArray 0) :: (s₁.heap.objs.size + 1 + 1 + 1 + 1 + 1 + 1 + 1, oSq) :: (s₁.heap.objs.size + 1 + 1 + 1 + 1 + 1 + 1, oQq) :: (s₁.heap.objs.size + 1 + 1 + 1 + 1 + 1, oN) :: (s₁.heap.objs.size + 1 + 1 + 1 + 1, oWq) :: (s₁.heap.objs.size + 1 + 1 + 1, qL) :: (s₁.heap.objs.size + 1 + 1, qA) :: (s₁.heap.objs.size + 1, qB) :: (nlsOf nl ++ (glsOf gl1 ++ glsOf gl2)))) := fun q hq => by
   simp only [List.mem_cons, List.not_mem_nil, or_false] at hq
   rcases hq with rfl | rfl | rfl
   ·exact tl2 (List.mem_append_right _ (.head _))
   ·exact tl2 (List.mem_append_right _ (.tail _ (.head _)))
   ·exact tl2 (List.mem_append_right _ (.tail _ (.tail _ (.head _))))
  have fI := fr3 _ (mI (I, oIq) (.head _))
  have fC := fr3 _ (mI (C, oC) (.tail _ (.head _)))
  have fD := fr3 _ (mI (D, lst []) (tl2 (.head _)))
  dsimp only
  k_steps
  refine stop_un ?_
  refine CompEnd.intro F4 N4 ((r3, listOf #[Value.bool b3, Value.ref rr3] 0) :: (rr3, listOf (nlVs gl3).toArray rc3) :: (LO, listOf #[Value.ref Lp, Value.ref DK] 0) :: (Lp, listOf (ps.map iV).toArray 0) :: (Dt, listOf #[Value.ref r1, Value.ref r2] 0) :: (r2, listOf #[Value.bool ring2, Value.ref rr2] 0) :: (rr2, listOf (glVs gl2).toArray rc2) :: (r1, listOf #[Value.bool ring1, Value.ref rr1] 0) :: (rr1, listOf (glVs gl1).toArray rc1) :: (DK, lst (ks.map iV)) :: (DN, listOf (nlVs nl).toArray (nlVs nl).length) :: (l1a, listOf (fs.map sV).toArray 0) :: (s₁.heap.objs.size + 1 + 1 + 1 + 1 + 1 + 1 + 1, oSq) :: (s₁.heap.objs.size + 1 + 1 + 1 + 1 + 1 + 1, oQq) :: (s₁.heap.objs.size + 1 + 1 + 1 + 1 + 1, oN) :: (s₁.heap.objs.size + 1 + 1 + 1 + 1, oWq) :: (s₁.heap.objs.size + 1 + 1 + 1, qL) :: (s₁.heap.objs.size + 1 + 1, qA) :: (s₁.heap.objs.size + 1, qB) :: (nlsOf nl ++ (glsOf gl1 ++ (glsOf gl2 ++ nlsOf gl3)))) (fun q hq => ?sub) (Off3.of fun q hq => ?off) (.inr ⟨_, tl2 (.head _), rfl, _, rfl⟩) ?_
  case sub =>
   refine mem_back3 (A := [(LO, listOf #[Value.ref Lp, Value.ref DK] 0), (Lp, listOf (ps.map iV).toArray 0), (Dt, listOf #[Value.ref r1, Value.ref r2] 0), (r2, listOf #[Value.bool ring2, Value.ref rr2] 0), (rr2, listOf (glVs gl2).toArray rc2), (r1, listOf #[Value.bool ring1, Value.ref rr1] 0), (rr1, listOf (glVs gl1).toArray rc1), (DK, lst (ks.map iV)), (DN, listOf (nlVs nl).toArray (nlVs nl).length), (l1a, listOf (fs.map sV).toArray 0), (s₁.heap.objs.size + 1 + 1 + 1 + 1 + 1 + 1 + 1, oSq), (s₁.heap.objs.size + 1 + 1 + 1 + 1 + 1 + 1, oQq), (s₁.heap.objs.size + 1 + 1 + 1 + 1 + 1, oN), (s₁.heap.objs.size + 1 + 1 + 1 + 1, oWq), (s₁.heap.objs.size + 1 + 1 + 1, qL), (s₁.heap.objs.size + 1 + 1, qA), (s₁.heap.objs.size + 1, qB)]) ?_
   exact hq
  case off =>
   have hq : q ∈ (r3, listOf #[Value.bool b3, Value.ref rr3] 0) :: (rr3, listOf (nlVs gl3).toArray rc3) :: ([(LO, listOf #[Value.ref Lp, Value.ref DK] 0), (Lp, listOf (ps.map iV).toArray 0), (Dt, listOf #[Value.ref r1, Value.ref r2] 0), (r2, listOf #[Value.bool ring2, Value.ref rr2] 0), (rr2, listOf (glVs gl2).toArray rc2), (r1, listOf #[Value.bool ring1, Value.ref rr1] 0), (rr1, listOf (glVs gl1).toArray rc1), (DK, lst (ks.map iV)), (DN, listOf (nlVs nl).toArray (nlVs nl).length), (l1a, listOf (fs.map sV).toArray 0), (s₁.heap.objs.size + 1 + 1 + 1 + 1 + 1 + 1 + 1, oSq), (s₁.heap.objs.size + 1 + 1 + 1 + 1 + 1 + 1, oQq), (s₁.heap.objs.size + 1 + 1 + 1 + 1 + 1, oN), (s₁.heap.objs.size + 1 + 1 + 1 + 1, oWq), (s₁.heap.objs.size + 1 + 1 + 1, qL), (s₁.heap.objs.size + 1 + 1, qA), (s₁.heap.objs.size + 1, qB)] ++ (nlsOf nl ++ (glsOf gl1 ++ (glsOf gl2 ++ nlsOf gl3)))) := hq
   rcases List.mem_cons.mp hq with rfl | hq
   ·exact ⟨fI.1.symm, fC.1.symm, fD.1.symm⟩
   ·rcases List.mem_cons.mp hq with rfl | hq
    ·exact ⟨fI.2.1.symm, fC.2.1.symm, fD.2.1.symm⟩
    ·rcases mem_last hq with hq | hq
     ·exact off.mem q hq
     ·exact ⟨(fI.2.2 q hq).symm, (fC.2.2 q hq).symm, (fD.2.2 q hq).symm⟩
  clear F3 N3 F4 N4 off nes mI fI fC fD fr3 hx hC
  refine LCg.CompRest.succ (k := 0) ?_
  intro v I oIq C oC D m₂ h tk' E' hv hC hx F3 N3 off nes
  obtain rfl : v = .ref DK := (Option.some.inj hv).symm
  (try dsimp only)
  k_steps
  refine stop_un ?_
  refine roundsF (pl := DK) (ps := ks) (pc := (ks.map iV).length) (ne := DN) (nc := (nlVs nl).length) (nl := nl) (G := Gi) (rest := (I, oIq) :: (C, oC) :: (D, lst [Value.ref r3]) :: (r3, listOf #[Value.bool b3, Value.ref rr3] 0) :: (rr3, listOf (nlVs gl3).toArray rc3) :: (LO, listOf #[Value.ref Lp, Value.ref DK] 0) :: (Lp, listOf (ps.map iV).toArray 0) :: (Dt, listOf #[Value.ref r1, Value.ref r2] 0) :: (r2, listOf #[Value.bool ring2, Value.ref rr2] 0) :: (rr2, listOf (glVs gl2).toArray rc2) :: (r1, listOf #[Value.bool ring1, Value.ref rr1] 0) :: (rr1, listOf (glVs gl1).toArray rc1) :: (DK, lst (ks.map iV)) :: (DN, listOf (nlVs nl).toArray (nlVs nl).length) :: (l1a, listOf (fs.map sV).toArray 0) :: (s₁.heap.objs.size + 1 + 1 + 1 + 1 + 1 + 1 + 1, oSq) :: (s₁.heap.objs.size + 1 + 1 + 1 + 1 + 1 + 1, oQq) :: (s₁.heap.objs.size + 1 + 1 + 1 + 1 + 1, oN) :: (s₁.heap.objs.size + 1 + 1 + 1 + 1, oWq) :: (s₁.heap.objs.size + 1 + 1 + 1, qL) :: (s₁.heap.objs.size + 1 + 1, qA) :: (s₁.heap.objs.size + 1, qB) :: (nlsOf nl ++ (glsOf gl1 ++ (glsOf gl2 ++ nlsOf gl3)))) hGk hkl hkn hll8 hl8 K0 F3 KX (fun q hq => ?nn2) T rfl (by decide) (by decide) ?_
  case nn2 =>
   rcases List.mem_cons.mp hq with rfl | hq
   ·exact N3 _ (by (walk_at "hd"))
   ·rcases List.mem_cons.mp hq with rfl | hq
    ·exact N3 _ (by (walk_at "hd"))
    ·rcases List.mem_append.mp hq with hq | hq
     ·exact N3 q (by repeat (first | (with_reducible exact List.mem_append_left _ hq) | apply List.mem_cons_of_mem))
     ·exact N3 q hq
  intro h4 tk4 r4 rr4 b4 rc4 gl4 n4 F4 N4 fr4 hE4 hgl4 hb4
  have mI : ∀ q ∈ [(I, oIq), (C, oC), (D, lst [Value.ref r3])], q ∈ (DK, lst (ks.map iV)) :: (DN, listOf (nlVs nl).toArray (nlVs nl).length) :: (nlsOf nl ++ ((I, oIq) :: (C, oC) :: (D, lst [Value.ref r3]) :: (r3, listOf #[Value.bool b3, Value.ref rr3] 0) :: (rr3, listOf (nlVs gl3).toArray rc3) :: (LO, listOf #[Value.ref Lp, Value.ref DK] 0) :: (Lp, listOf (ps.map iV).toArray 0) :: (Dt, listOf #[Value.ref r1, Value.ref r2] 0) :: (r2, listOf #[Value.bool ring2, Value.ref rr2] 0) :: (rr2, listOf (glVs gl2).toArray rc2) :: (r1, listOf #[Value.bool ring1, Value.ref rr1] 0) :: (rr1, listOf (glVs gl1).toArray rc1) :: (DK, lst (ks.map iV)) :: (DN, listOf (nlVs nl).toArray (nlVs nl).length) :: (l1a, listOf (fs.map sV).toArray 0) :: (s₁.heap.objs.size + 1 + 1 + 1 + 1 + 1 + 1 + 1, oSq) :: (s₁.heap.objs.size + 1 + 1 + 1 + 1 + 1 + 1, oQq) :: (s₁.heap.objs.size + 1 + 1 + 1 + 1 + 1, oN) :: (s₁.heap.objs.size + 1 + 1 + 1 + 1, oWq) :: (s₁.heap.objs.size + 1 + 1 + 1, qL) :: (s₁.heap.objs.size + 1 + 1, qA) :: (s₁.heap.objs.size + 1, qB) :: (nlsOf nl ++ (glsOf gl1 ++ (glsOf gl2 ++ nlsOf gl3))))) := fun q hq => by
   simp only [List.mem_cons, List.not_mem_nil, or_false] at hq
   rcases hq with rfl | rfl | rfl
   ·exact tl2 (List.mem_append_right _ (.head _))
   ·exact tl2 (List.mem_append_right _ (.tail _ (.head _)))
   ·exact tl2 (List.mem_append_right _ (.tail _ (.tail _ (.head _))))
  have fI := fr4 _ (mI (I, oIq) (.head _))
  have fC := fr4 _ (mI (C, oC) (.tail _ (.head _)))
  have fD := fr4 _ (mI (D, lst [Value.ref r3]) (tl2 (.head _)))
  dsimp only
  k_steps
  refine stop_un ?_
  refine CompEnd.intro F4 N4 ((r4, listOf #[Value.bool b4, Value.ref rr4] 0) :: (rr4, listOf (nlVs gl4).toArray rc4) :: (r3, listOf #[Value.bool b3, Value.ref rr3] 0) :: (rr3, listOf (nlVs gl3).toArray rc3) :: (LO, listOf #[Value.ref Lp, Value.ref DK] 0) :: (Lp, listOf (ps.map iV).toArray 0) :: (Dt, listOf #[Value.ref r1, Value.ref r2] 0) :: (r2, listOf #[Value.bool ring2, Value.ref rr2] 0) :: (rr2, listOf (glVs gl2).toArray rc2) :: (r1, listOf #[Value.bool ring1, Value.ref rr1] 0) :: (rr1, listOf (glVs gl1).toArray rc1) :: (DK, lst (ks.map iV)) :: (DN, listOf (nlVs nl).toArray (nlVs nl).length) :: (l1a, listOf (fs.map sV).toArray 0) :: (s₁.heap.objs.size + 1 + 1 + 1 + 1 + 1 + 1 + 1, oSq) :: (s₁.heap.objs.size + 1 + 1 + 1 + 1 + 1 + 1, oQq) :: (s₁.heap.objs.size + 1 + 1 + 1 + 1 + 1, oN) :: (s₁.heap.objs.size + 1 + 1 + 1 + 1, oWq) :: (s₁.heap.objs.size + 1 + 1 + 1, qL) :: (s₁.heap.objs.size + 1 + 1, qA) :: (s₁.heap.objs.size + 1, qB) :: (nlsOf nl ++ (glsOf gl1 ++ (glsOf gl2 ++ (nlsOf gl3 ++ nlsOf gl4))))) (fun q hq => ?sub) (Off3.of fun q hq => ?off) (.inr ⟨_, tl4 (.head _), rfl, _, rfl⟩) ?_
  case sub =>
   refine mem_back4 (A := (r3, listOf #[Value.bool b3, Value.ref rr3] 0) :: (rr3, listOf (nlVs gl3).toArray rc3) :: [(LO, listOf #[Value.ref Lp, Value.ref DK] 0), (Lp, listOf (ps.map iV).toArray 0), (Dt, listOf #[Value.ref r1, Value.ref r2] 0), (r2, listOf #[Value.bool ring2, Value.ref rr2] 0), (rr2, listOf (glVs gl2).toArray rc2), (r1, listOf #[Value.bool ring1, Value.ref rr1] 0), (rr1, listOf (glVs gl1).toArray rc1), (DK, lst (ks.map iV)), (DN, listOf (nlVs nl).toArray (nlVs nl).length), (l1a, listOf (fs.map sV).toArray 0), (s₁.heap.objs.size + 1 + 1 + 1 + 1 + 1 + 1 + 1, oSq), (s₁.heap.objs.size + 1 + 1 + 1 + 1 + 1 + 1, oQq), (s₁.heap.objs.size + 1 + 1 + 1 + 1 + 1, oN), (s₁.heap.objs.size + 1 + 1 + 1 + 1, oWq), (s₁.heap.objs.size + 1 + 1 + 1, qL), (s₁.heap.objs.size + 1 + 1, qA), (s₁.heap.objs.size + 1, qB)]) ?_
   exact hq
  case off =>
   have hq : q ∈ (r4, listOf #[Value.bool b4, Value.ref rr4] 0) :: (rr4, listOf (nlVs gl4).toArray rc4) :: (((r3, listOf #[Value.bool b3, Value.ref rr3] 0) :: (rr3, listOf (nlVs gl3).toArray rc3) :: [(LO, listOf #[Value.ref Lp, Value.ref DK] 0), (Lp, listOf (ps.map iV).toArray 0), (Dt, listOf #[Value.ref r1, Value.ref r2] 0), (r2, listOf #[Value.bool ring2, Value.ref rr2] 0), (rr2, listOf (glVs gl2).toArray rc2), (r1, listOf #[Value.bool ring1, Value.ref rr1] 0), (rr1, listOf (glVs gl1).toArray rc1), (DK, lst (ks.map iV)), (DN, listOf (nlVs nl).toArray (nlVs nl).length), (l1a, listOf (fs.map sV).toArray 0), (s₁.heap.objs.size + 1 + 1 + 1 + 1 + 1 + 1 + 1, oSq), (s₁.heap.objs.size + 1 + 1 + 1 + 1 + 1 + 1, oQq), (s₁.heap.objs.size + 1 + 1 + 1 + 1 + 1, oN), (s₁.heap.objs.size + 1 + 1 + 1 + 1, oWq), (s₁.heap.objs.size + 1 + 1 + 1, qL), (s₁.heap.objs.size + 1 + 1, qA), (s₁.heap.objs.size + 1, qB)]) ++ (nlsOf nl ++ (glsOf gl1 ++ (glsOf gl2 ++ (nlsOf gl3 ++ nlsOf gl4))))) := hq
   rcases List.mem_cons.mp hq with rfl | hq
   ·exact ⟨fI.1.symm, fC.1.symm, fD.1.symm⟩
   ·rcases List.mem_cons.mp hq with rfl | hq
    ·exact ⟨fI.2.1.symm, fC.2.1.symm, fD.2.1.symm⟩
    ·rcases mem_last4 hq with hq | hq
     ·exact off.mem q hq
     ·exact ⟨(fI.2.2 q hq).symm, (fC.2.2 q hq).symm, (fD.2.2 q hq).symm⟩
  clear F3 N3 F4 N4 off nes mI fI fC fD fr4 hx hC
  refine LCg.CompRest.zero ?_
  unfold FinA
  intro Du h5 tk5 F5 N5 off5
  dsimp only
  k_steps
  refine stop_un ?_
  rename_i v1b2 v2b2 v3b2 v4b2 v5b2 v6b2 v7b2 v8b2 v9b2 v10b2 v11b2 v12b2 v13b2 v14b2 v15b2
  revert hg KX T B TE TW M hL r0 hI hc63 hct hC5 dB dA dL l5 l4 l3 l2 hcu hcl ecl hcv hcvl hxs hxl hlks hfs hrl hgl hlo v1a3 ltx hsD v1a6 hoD hldG hlo2 e5 nDl nDr dW hwl nWy hwl5 hll hlg hl8 nDN hNT c5 dN v1a9 hks v1b1 K0 c6 o5f dQ a0 a1 v1a8 v2b1 nrX hans2 c7z nr7 dS v3b1 hzs hzl hal hfs5 hGd hG hG8 v4b1 v5b1 v6b1 v7b1 hE1 hgl1 hring1 rgR hfp v1b2 hsub hG2 hfl v8b1 v9b1 v10b1 v11b1 hE2 hgl2 hring2 FB hps hpl NB hGi hGn hGp hGk hkn hkl hll8 v11b2 v12b2 hE3 hgl3 hb3 hv v15b2 hE4 hgl4 hb4 F5 N5 off5
  exact h9b2 Lp LO hn2 ps Gi v8b2 r3 rr3 b3 rc3 gl3 n3 h r4 rr4 b4 rc4 gl4 n4 Du h5 tk5
end
end Mine
namespace Mine
def nmS (k : Int) : Str := vFiles.getD k.toNat (Str.ofString "")
def GxS (xs : List Int) (f : Str) : List Str := (lkS (xs.getD (vFiles.idxOf f) 0)).map (LG f)
theorem nm_idx : ∀ k < 5, vFiles.idxOf (vFiles.getD k (Str.ofString "")) = k := by decide +kernel
theorem way_idx : ∀ k < 5, wayS.idxOf (wayS.getD k []) = k := by decide +kernel
theorem nm_inj : ∀ j < 5, ∀ k < 5, vFiles.getD j (Str.ofString "") = vFiles.getD k (Str.ofString "") → j = k := by decide +kernel
theorem mem_edges {F : List Str} {G : Str → List Str} {f y : Str} : (f, y) ∈ edgesOf F G F ↔ f ∈ F ∧ y ∈ G f ∧ y ∈ F := by
 unfold edgesOf gEdges
 rw [List.mem_flatMap]
 constructor
 ·rintro ⟨g, hg, h⟩
  obtain ⟨z, hz, e⟩ := List.mem_map.mp h
  injection e with e1 e2
  subst e1 e2
  obtain ⟨h1, h2⟩ := List.mem_filter.mp hz
  exact ⟨hg, h1, of_decide_eq_true h2⟩
 ·rintro ⟨h1, h2, h3⟩
  exact ⟨f, h1, List.mem_map.mpr ⟨y, List.mem_filter.mpr ⟨h2, decide_eq_true h3⟩, rfl⟩⟩
theorem edge_iff {F : List Int} {xs : List Int} (hF : ∀ a ∈ F, ∃ k : Nat, k < 5 ∧ a = (k : Int)) : ∀ a ∈ F, ∀ y, (nmS a, y) ∈ edgesOf (F.map nmS) (GxS xs) (F.map nmS) ↔ ∃ b ∈ giS xs a, b ∈ F ∧ nmS b = y := by
 intro a ha y
 obtain ⟨k, hk, rfl⟩ := hF a ha
 rw [mem_edges]
 have eN : ∀ j : Nat, nmS (j : Int) = vFiles.getD j (Str.ofString "") := fun j => by unfold nmS; rw [Int.toNat_natCast]
 have eG : GxS xs (nmS (k : Int)) = (lkS (xs.getD k 0)).map (LG (vFiles.getD k (Str.ofString ""))) := by
  unfold GxS
  rw [eN, nm_idx k hk]
 have eI : giS xs (k : Int) = (((lkS (xs.getD k 0)).map (goalOf (wayS.getD k []))).filter fun g => decide (g ∈ wayS)).map fun g => ((wayS.idxOf g : Nat) : Int) := by
  unfold giS ndS
  rw [Int.toNat_natCast]
 rw [eG, eI]
 constructor
 ·rintro ⟨_, hy, hyF⟩
  obtain ⟨l, hl, e⟩ := List.mem_map.mp hy
  obtain ⟨b, hb, e2⟩ := List.mem_map.mp hyF
  obtain ⟨j, hj, rfl⟩ := hF b hb
  refine ⟨(j : Int), List.mem_map.mpr ⟨wayS.getD j [], List.mem_filter.mpr ⟨List.mem_map.mpr ⟨l, hl, ?_⟩, ?_⟩, ?_⟩, hb, e2⟩
  ·refine (agree k hk l (lk_mem _ l hl) j hj).mpr ?_
   rw [e, ← e2, eN]
  ·exact decide_eq_true (getD_mem hj)
  ·rw [way_idx j hj]
 ·rintro ⟨b, hb, hbF, e⟩
  obtain ⟨g, hg, e2⟩ := List.mem_map.mp hb
  obtain ⟨hg1, hg2⟩ := List.mem_filter.mp hg
  obtain ⟨l, hl, e3⟩ := List.mem_map.mp hg1
  have hgm : g ∈ wayS := of_decide_eq_true hg2
  have hj : wayS.idxOf g < 5 := List.idxOf_lt_length_iff.mpr hgm
  have hgd : wayS.getD (wayS.idxOf g) [] = g := by
   rw [List.getD_eq_getElem?_getD, List.getElem?_eq_getElem hj]
   show wayS[wayS.idxOf g] = g
   exact List.getElem_idxOf hj
  refine ⟨List.mem_map_of_mem ha, List.mem_map.mpr ⟨l, hl, ?_⟩, ?_⟩
  ·rw [← e, ← e2, eN]
   refine (agree k hk l (lk_mem _ l hl) _ hj).mp ?_
   rw [e3, hgd]
  ·rw [← e]; exact List.mem_map_of_mem hbF
theorem told_eq {F : List Int} {xs : List Int} (hF : ∀ a ∈ F, ∃ k : Nat, k < 5 ∧ a = (k : Int)) {n n' : Nat} (h : EndsI F (giS xs) n) (h' : Ends (F.map nmS) (edgesOf (F.map nmS) (GxS xs) (F.map nmS)) n') :
  (stp (F.map nmS) (edgesOf (F.map nmS) (GxS xs) (F.map nmS)) n').1 = (stpI F (giS xs) n).1.map (·.map nmS) ∧
  decide ((stp (F.map nmS) (edgesOf (F.map nmS) (GxS xs) (F.map nmS)) n').2.length < (F.map nmS).length) = decide ((stpI F (giS xs) n).2.length < F.length) := by
 have inj : ∀ a ∈ F, ∀ b ∈ F, nmS a = nmS b → a = b := fun a ha b hb e => by
  obtain ⟨j, hj, rfl⟩ := hF a ha
  obtain ⟨k, hk, rfl⟩ := hF b hb
  unfold nmS at e
  rw [Int.toNat_natCast, Int.toNat_natCast] at e
  rw [nm_inj j hj k hk e]
 obtain ⟨h1, h2⟩ := same_told inj (edge_iff hF) h h'
 exact ⟨h1, by rw [h2, List.length_map]⟩
end Mine
namespace Mine
open PyProof.Rows.LCg
section
variable {prog : Program} {w : World} {A : Around} {E : Value → Shared → Prop} {s : Shared} {h₀ : Heap} {L : Addr} {m : Str → Option Value} {env : Env} {R : Result → Shared → Prop}
theorem unpack2 {t : Addr} {x y : Value} {Q : List Value → Shared → Prop} (hh : A.handled = none) (hl : s.heap.IsList t #[x, y])
  (hQ : ∀ h', (∀ c o, s.heap.get? c = some o → h'.get? c = some o) → Q [x, y] { s with heap := h' }) : wpAny (model prog w) A (unpackItems (.ref t) 2 none) Q E s := by
 have hlt : t < s.heap.objs.size := by obtain ⟨o, ho, _⟩ := hl; exact Heap.lt_size ho
 have hne : t ≠ s.heap.objs.size := Nat.ne_of_lt hlt
 unfold unpackItems
 refine wpAny_bind ?_
 unfold notIterableAtAll
 refine wpAny_bind (wpAny_specialOf hl.typeIs slot_list_iter.lookup ?_)
 refine wpAny_pure ?_
 simp only [Bool.false_eq_true, if_false]
 refine wpAny_bind (wpAny_holding (wpAny_pyIter_list hl ?_))
 refine wpAny_bind (wpAny_holding ?_)
 show wpAny _ _ (pyNext (.ref s.heap.objs.size) >>= _) _ _ _
 refine wpAny_bind (wpAny_pyNext_list_item (l := t) (i := 0) (items := #[x, y]) (x := x) ⟨_, Heap.get?_push_size _ rfl, rfl, rfl⟩ (hl.push _) rfl fun h₁ hit₁ hs₁ => ?_)
 refine wpAny_bind (wpAny_holding ?_)
 have hl₁ : h₁.IsList t #[x, y] := (hl.push _).extBut hs₁.extBut hne
 show wpAny _ _ (pyNext (.ref s.heap.objs.size) >>= _) _ _ _
 refine wpAny_bind (wpAny_pyNext_list_item (l := t) (i := 1) (items := #[x, y]) (x := y) hit₁ hl₁ rfl fun h₂ hit₂ hs₂ => ?_)
 refine wpAny_bind (wpAny_holding ?_)
 have hl₂ : h₂.IsList t #[x, y] := hl₁.extBut hs₂.extBut hne
 show wpAny _ _ (pure []) _ _ _
 refine wpAny_pure (wpAny_pure (wpAny_pure ?_))
 rw [if_neg (by simp)]
 refine wpAny_bind (wpAny_holding (wpAny_pyNext_list_end hh hit₂ hl₂ rfl fun h₃ he₃ => ?_))
 simp only [Option.isSome_none, Bool.false_eq_true, if_false]
 refine wpAny_pure (hQ h₃ fun c o e => ?_)
 have hc : c ≠ s.heap.objs.size := Nat.ne_of_lt (Heap.lt_size e)
 exact he₃ c o hc (hs₂.extBut c o hc (hs₁.extBut c o hc (Heap.get?_push_of_some _ e)))
theorem y_assign {a b : Str} {pa pb tp : Pos} {kk : Nat} {t : Addr} {x y : Value} {m : Str → Option Value} {Q : Unit → Shared → Prop} (hh : A.handled = none) (hl : s.heap.IsList t #[x, y])
  (ha : env.kindOf a = some .local) (hb : env.kindOf b = some .local) (hp : (env.scope.kind == .class || (env.scope.kind == .module && env.locals != env.globals)) = false) (hn : s.heap.Ns env.locals m)
  (h : ∀ (h' : Heap) (tk : Nat), h'.Ns env.locals (fun z => if z = b then some y else if z = a then some x else m z) → (∀ c o, c ≠ env.locals → s.heap.get? c = some o → h'.get? c = some o) → Q () { s with heap := h', toks := tk }) :
  wpAny (model prog w) A (assign (.Tuple [.Name a pa, .Name b pb] kk tp) env (.ref t)) Q E s := by
 rw [arm_assign_Tuple]
 refine wpAny_bind (wpAny_standAt ?_)
 unfold unpack
 refine wpAny_bind (wpAny_holding ?_)
 show wpAny _ _ (unpackItems (.ref t) 2 none) _ _ _
 refine unpack2 hh hl fun h₁ up => ?_
 show wpAny _ _ (assignInOrder [assign (.Name a pa) env, assign (.Name b pb) env] [x, y]) _ _ _
 refine assignInOrder_cons ?_
 refine wpAny_assign_Name (wpAny_storeName_local ha (hn.at' fun o e => up _ o e) (fun h₂ hn₂ hs₂ => ?_) hp)
 refine assignInOrder_cons ?_
 refine wpAny_assign_Name (wpAny_storeName_local hb hn₂ (fun h₃ hn₃ hs₃ => ?_) hp)
 refine assignInOrder_nil ?_
 exact h h₃ _ hn₃ fun c o hc e => hs₃.extBut c o hc (hs₂.extBut c o hc (up c o e))
end
end Mine
namespace Mine
open PyProof.Rows.LCg
section
variable {prog : Program} {w : World} {A : Around} {E : Value → Shared → Prop} {s : Shared} {h₀ : Heap} {L : Addr} {m : Str → Option Value} {env : Env} {R : Result → Shared → Prop}
theorem y_inv {a b : Str} {pa pb tp : Pos} {kk : Nat} {elt iter : Expr} {scope : Scope} {pos : Pos} {I ax C D : Addr} {its : Array Value} {nx : Nat} {keep : List (Addr × Obj)} {pr : Nat → Addr × Value × Value} {J : Nat → List Value → List (Addr × Obj) → Prop}
  {s₂ : Shared} {h₁ : Heap} {tk₁ : Nat} {m₀ : Str → Option Value} {news₀ : List (Addr × Obj)}
  (hh : A.handled = none) (hI0 : h₀.get? I = none) (hIL : I ≠ L) (hIC : I ≠ C) (hID : I ≠ D) (hCL : C ≠ L) (hDL : D ≠ L) (hCD : C ≠ D) (hC₀ : h₀.get? C = none) (hD₀ : h₀.get? D = none)
  (hlc : env.locals = C) (hxa : env.kindOf a = some .local) (hxb : env.kindOf b = some .local) (hab : ¬ a = b) (hp : (env.scope.kind == .class || (env.scope.kind == .module && env.locals != env.globals)) = false)
  (hka : (ax, listOf its nx) ∈ keep) (hpr : ∀ i v, its[i]? = some v → v = .ref (pr i).1 ∧ ((pr i).1, listOf #[(pr i).2.1, (pr i).2.2] 0) ∈ keep) (hsz : its.size ≤ sizeLine)
  (step : ∀ i oI oC m₂ h tk acc news (E' : Value → Shared → Prop), i < its.size → NsObj oC m₂ → m₂ a = some (pr i).2.1 → m₂ b = some (pr i).2.2 → Fr h₀ L h m → News h₀ L h ((I, oI) :: (C, oC) :: (D, lst acc) :: news) → Off3 I C D news → (∀ q ∈ keep, q ∈ news) → J i acc news →
    wpAny (model prog w) A (eval elt env) (CompEnd h₀ L m { s₂ with heap := h, toks := tk } I oI C oC D (lst acc) (fun nw => ∀ q ∈ keep, q ∈ nw) (fun y nw => J (i + 1) (acc ++ [y]) nw)) E' { s₂ with heap := h, toks := tk })
  (fin : ∀ h tk m' acc news, Fr h₀ L h m → News h₀ L h ((D, lst acc) :: news) → (∀ p ∈ news, p.1 ≠ C ∧ p.1 ≠ D) → h.Ns C m' → J its.size acc news → R (.ok .next) { s₂ with heap := h, toks := tk })
  (hit : h₁.IsListIter I ax 0) (hF : Fr h₀ L h₁ m) (hN : News h₀ L h₁ ((D, lst []) :: news₀)) (hn : h₁.Ns C m₀) (hoff : ∀ p ∈ news₀, p.1 ≠ I ∧ p.1 ≠ C ∧ p.1 ≠ D) (hkeep : ∀ q ∈ keep, q ∈ news₀) (hJ : J 0 [] news₀) :
  codeAny (model prog w) A (.compLoop (.ListComp elt [⟨.Tuple [.Name a pa, .Name b pb] kk tp, iter, [], 0⟩] scope pos) 0 (.ref I) (.ref D) env) R { s₂ with heap := h₁, toks := tk₁ } := by
  subst hlc
  refine zl_loop (fun k s' => ∃ h' tk i acc m' news', s' = { s₂ with heap := h', toks := tk } ∧ i ≤ its.size ∧ k = its.size + 1 - i ∧ h'.IsListIter I ax i ∧ Fr h₀ L h' m ∧ h'.Ns env.locals m' ∧ News h₀ L h' ((D, lst acc) :: news') ∧ acc.length = i ∧
     (∀ p ∈ news', p.1 ≠ I ∧ p.1 ≠ env.locals ∧ p.1 ≠ D) ∧ (∀ q ∈ keep, q ∈ news') ∧ J i acc news') ?_ (its.size + 1) _ ⟨h₁, tk₁, 0, [], m₀, news₀, rfl, Nat.zero_le _, rfl, hit, hF, hn, hN, rfl, hoff, hkeep, hJ⟩
  intro k s' W91
  walk_at "hide"
  obtain ⟨h', tk, i, acc, m', news', rfl, hi, rfl, hit', F', hn', N', hal, off', hk', J'⟩ := W91
  walk_at "unhide"
  have hl : h'.IsList ax its := ⟨_, (N' _ (.tail _ (hk' _ hka))).1, rfl, _, rfl⟩
  by_cases hlt : i < its.size
  · obtain ⟨v, hv⟩ : ∃ v, its[i]? = some v := ⟨_, Array.getElem?_eq_getElem hlt⟩
    obtain ⟨rfl, hpk⟩ := hpr i v hv
    refine wpAny_pyNext_list_item hit' hl hv fun h₂ hit₂ hs₂ => ?_
    have up₂ : ∀ c o, c ≠ I → h'.get? c = some o → h₂.get? c = some o := fun c o hc e => hs₂.extBut c o hc e
    refine wpAny_letOwnedTupleGo_listiter hit₂ ?_
    have hpl : h₂.IsList (pr i).1 #[(pr i).2.1, (pr i).2.2] := ⟨_, up₂ _ _ (off' _ (hk' _ hpk)).1 (N' _ (.tail _ (hk' _ hpk))).1, rfl, _, rfl⟩
    refine y_assign hh hpl hxa hxb hp (hn'.at' fun o e => up₂ _ o (Ne.symm hIC) e) fun h₄ tk₄ hn₄ hk₄ => ?_
    have up₄ : ∀ c o, c ≠ I → c ≠ env.locals → h'.get? c = some o → h₄.get? c = some o := fun c o h1 h2 e => hk₄ c o h2 (up₂ c o h1 e)
    have F₄ : Fr h₀ L h₄ m := ⟨F'.ns.at' fun o e => up₄ L o (Ne.symm hIL) (Ne.symm hCL) e, fun c o e => up₄ c o (fun q => by rw [q, hI0] at e; cases e) (fun q => by rw [q, hC₀] at e; cases e) (F'.keep c o e), F'.above⟩
    obtain ⟨oC, hoC, hNs⟩ := ns_obj hn₄
    have hit₄ : h₄.IsListIter I ax (i + 1) := hit₂.at fun o e => hk₄ I o hIC e
    obtain ⟨oI, hoI, hoI2⟩ := id hit₄
    have N₄ : News h₀ L h₄ ((I, oI) :: (env.locals, oC) :: (D, lst acc) :: news') := fun q hq => by
      rcases List.mem_cons.mp hq with rfl | hq
      · exact ⟨hoI, hIL, hI0⟩
      · rcases List.mem_cons.mp hq with rfl | hq
        · exact ⟨hoC, hCL, hC₀⟩
        · rcases List.mem_cons.mp hq with rfl | hq
          · exact ⟨up₄ _ _ (Ne.symm hID) (Ne.symm hCD) (N' _ (.head _)).1, hDL, hD₀⟩
          · exact ⟨up₄ _ _ (off' q hq).1 (off' q hq).2.1 (N' q (.tail _ hq)).1, (N' q (.tail _ hq)).2⟩
    have ma : (fun z => if z = b then some (pr i).2.2 else if z = a then some (pr i).2.1 else m' z) a = some (pr i).2.1 := by
      show (if a = b then some (pr i).2.2 else if a = a then some (pr i).2.1 else m' a) = _
      rw [if_neg hab, if_pos rfl]
    have mb' : (fun z => if z = b then some (pr i).2.2 else if z = a then some (pr i).2.1 else m' z) b = some (pr i).2.2 := if_pos rfl
    show wpAny _ _ (emL elt (.ref D) env) _ _ _
    refine wpAny_bind (wpAny_mono (step i oI oC _ h₄ tk₄ acc news' _ hlt hNs ma mb' F₄ N₄ (Off3.of off') hk' J') (fun y s₅ h₅ => ?_) fun _ _ e => e)
    walk_at "hide"
    obtain ⟨h₅, tk₅, news₅, rfl, F₅, N₅, off₅, hk₅, J₅⟩ := h₅
    walk_at "unhide"
    refine wpAny_bind (append_at (hsz := by show acc.toArray.size ≤ sizeLine; rw [List.size_toArray, hal]; exact Nat.le_trans hi hsz) (N₅ _ (tl2 (.head _))).1 fun h₆ hs₆ hD₆ => wpAny_pure ?_)
    have o5 := off₅.mem
    have hit₅ : h₅.IsListIter I ax (i + 1) := by
      have := (N₅ _ (.head _)).1
      exact ⟨oI, this, hoI2⟩
    refine ⟨its.size + 1 - (i + 1), by omega, h₆, tk₅, i + 1, acc ++ [y], _, news₅, rfl, hlt, rfl, hit₅.extBut hs₆.extBut hID, F₅.change hs₆ hDL hD₀, (hNs.ns (N₅ _ (.tail _ (.head _))).1).sameBut hs₆ hCD, fun q hq => ?_, by rw [List.length_append, hal]; rfl, o5, hk₅, J₅⟩
    rcases List.mem_cons.mp hq with rfl | hq
    · exact ⟨hD₆.trans (congrArg some (lst_snoc acc y)), hDL, hD₀⟩
    · exact ⟨hs₆.extBut _ _ (o5 q hq).2.2 (N₅ q (tl3 hq)).1, (N₅ q (tl3 hq)).2⟩
  · obtain rfl : i = its.size := Nat.le_antisymm hi (Nat.not_lt.mp hlt)
    refine wpAny_pyNext_list_end hh hit' hl (by simp) fun h₂ he₂ => ?_
    refine fin h₂ _ m' acc news' ⟨F'.ns.at' fun o e => he₂ L o (Ne.symm hIL) e, fun c o e => he₂ c o (fun q => by rw [q, hI0] at e; cases e) (F'.keep c o e), F'.above⟩ (fun q hq => ?_) (fun p hp => (off' p hp).2) (hn'.at' fun o e => he₂ _ o (Ne.symm hIC) e) J'
    rcases List.mem_cons.mp hq with rfl | hq
    · exact ⟨he₂ _ _ (Ne.symm hID) (N' _ (.head _)).1, hDL, hD₀⟩
    · exact ⟨he₂ _ _ (off' q hq).1 (N' q (.tail _ hq)).1, (N' q (.tail _ hq)).2⟩
def YSrc (prog : Program) (w : World) (A : Around) (h₀ : Heap) (L : Addr) (m : Str → Option Value) (env : Env) (elt : Expr) (a b : Str) (scope : Scope) (cl : List (Str × Addr)) (Q : Value → Shared → Prop) (xv : Value) (s₁ : Shared) : Prop :=
  ∃ (ax : Addr) (its : Array Value) (nx : Nat) (keep : List (Addr × Obj)) (pr : Nat → Addr × Value × Value) (news : List (Addr × Obj)) (J : Nat → List Value → List (Addr × Obj) → Prop), xv = .ref ax ∧ A.handled = none ∧ Fr h₀ L s₁.heap m ∧ News h₀ L s₁.heap news ∧ (ax, listOf its nx) ∈ keep ∧ (∀ (i : Nat) (v : Value), its[i]? = some v → v = .ref (pr i).1 ∧ ((pr i).1, listOf #[(pr i).2.1, (pr i).2.2] 0) ∈ keep) ∧ its.size ≤ sizeLine ∧ (∀ q ∈ keep, q ∈ news) ∧ J 0 [] news ∧
   (∀ i I oI C oC D m₂ h tk acc nw (E' : Value → Shared → Prop), i < its.size → NsObj oC m₂ → m₂ a = some (pr i).2.1 → m₂ b = some (pr i).2.2 → Fr h₀ L h m → News h₀ L h ((I, oI) :: (C, oC) :: (D, lst acc) :: nw) → Off3 I C D nw → (∀ q ∈ keep, q ∈ nw) → J i acc nw →
    wpAny (model prog w) A (eval elt (compEnvC scope cl C env)) (CompEnd h₀ L m { s₁ with heap := h, toks := tk } I oI C oC D (lst acc) (fun nw => ∀ q ∈ keep, q ∈ nw) (fun y nw => J (i + 1) (acc ++ [y]) nw)) E' { s₁ with heap := h, toks := tk }) ∧
   (∀ D h tk acc nw, Fr h₀ L h m → News h₀ L h ((D, lst acc) :: nw) → J its.size acc nw → Q (.ref D) { s₁ with heap := h, toks := tk })
theorem ListComp_Y {a b : Str} {pa pb tp : Pos} {kk : Nat} {elt iter : Expr} {scope : Scope} {cl : List (Str × Addr)} {pos : Pos} {Q : Value → Shared → Prop}
  (hclos : closureFor scope env = pure cl) (hcell : ∀ y ∈ scope.names, y.2 ≠ .cell) (hkind : scope.kind = .function)
  (hnames : ∀ y ∈ scope.names, y.2 = .local → scope.names.lookup y.1 = some .local) (hxa : scope.names.lookup a = some .local) (hxb : scope.names.lookup b = some .local) (hab : ¬ a = b)
  (h : wpAny (model prog w) A (eval iter env) (YSrc prog w A h₀ L m env elt a b scope cl Q) E s)
  (hs : ∀ x, foldedSetIterable iter env x = pure x := by intro _; rfl) :
  wpAny (model prog w) A (eval (.ListComp elt [⟨.Tuple [.Name a pa, .Name b pb] kk tp, iter, [], 0⟩] scope pos) env) Q E s := by
 rw [eval_ListComp]
 refine wpAny_comprehension_free (use := none) rfl hs hclos hkind hnames (wpAny_mono h (fun xv s₁ h₁ => ?_) fun _ _ e => e)
 walk_at "hide"
 obtain ⟨ax, its, nx, keep, pr, news, J, rfl, hh, F, N, hka, hpr, hsz, hk, J0, step, fin⟩ := h₁
 walk_at "unhide"
 have hl : s₁.heap.IsList ax its := ⟨_, (N _ (hk _ hka)).1, rfl, _, rfl⟩
 refine wpAny_pyIter_list hl ?_
 refine wpAny_newObj_type (wpAny_newFunctionEnv hcell (by intro y hy; simp at hy) (fun h₁ hns₁ hsb₁ => ?_) hkind)
 dsimp only at hns₁ hsb₁ ⊢
 generalize hH1 : s₁.heap.push { cls := .type "list_iterator", data := .fields #[.ref ax, .int 0 0] } = H1 at hns₁ hsb₁ ⊢
 have s1 : H1.objs.size = s₁.heap.objs.size + 1 := by rw [← hH1, Heap.size_push]
 generalize hH2 : H1.push { cls := .type "list", dict := none, data := .seq ([] : List Value).toArray } = H2 at hns₁ hsb₁ ⊢
 have s2 : H2.objs.size = s₁.heap.objs.size + 2 := by rw [← hH2, Heap.size_push, s1]
 have hLlt : L < s₁.heap.objs.size := F.ns.lt
 have a1 : s₁.heap.objs.size < H1.objs.size := by rw [s1]; exact Nat.lt_succ_self _
 have a2 : H1.objs.size < H2.objs.size := by rw [s1, s2]; exact Nat.lt_succ_self _
 have a3 := Nat.lt_trans a1 a2
 have aL1 := Nat.lt_trans hLlt a1
 have aL2 := Nat.lt_trans aL1 a2
 have old : ∀ c o, s₁.heap.get? c = some o → h₁.get? c = some o := fun c o e => hsb₁.extBut c o (Nat.ne_of_lt (Nat.lt_trans (Heap.lt_size e) a3)) (Heap.get?_push_of_some _ (hH2 ▸ Heap.get?_push_of_some _ (hH1 ▸ Heap.get?_push_of_some _ e)))
 have hIt : h₁.get? s₁.heap.objs.size = some { cls := .type "list_iterator", data := .fields #[.ref ax, .int 0 0] } := hsb₁.extBut _ _ (Nat.ne_of_lt a3) (Heap.get?_push_of_some _ (hH2 ▸ Heap.get?_push_of_some _ (hH1 ▸ Heap.get?_push_size _ rfl)))
 have hDt : h₁.get? H1.objs.size = some (lst []) := hsb₁.extBut _ _ (Nat.ne_of_lt a2) (Heap.get?_push_of_some _ (hH2 ▸ Heap.get?_push_size _ rfl))
 have fresh₀ : ∀ c, s₁.heap.objs.size ≤ c → h₀.get? c = none := fun c hc => by
  cases e : h₀.get? c with
  | none => rfl
  | some o' => exact absurd (Heap.lt_size (F.keep c o' e)) (Nat.not_lt.mpr hc)
 have below : ∀ p ∈ news, p.1 < s₁.heap.objs.size := fun p hp => Heap.lt_size (N p hp).1
 have loop : ∀ s₃ : Shared, s₃ = { s₁ with heap := h₁, toks := s₁.toks + ([] : List (Str × Value)).length } →
   codeAny (model prog w) A (.compLoop (.ListComp elt [⟨.Tuple [.Name a pa, .Name b pb] kk tp, iter, [], 0⟩] scope pos) 0 (.ref s₁.heap.objs.size) (.ref H1.objs.size) (compEnvC scope cl H2.objs.size env))
    (compPost (model prog w) A E none Q (.ref H1.objs.size) H2.objs.size) s₃ := by
  rintro s₃ rfl
  refine y_inv (env := compEnvC scope cl H2.objs.size env) (I := s₁.heap.objs.size) (ax := ax) (C := H2.objs.size) (D := H1.objs.size) (its := its) (nx := nx) (keep := keep) (pr := pr) (J := J) (news₀ := news) hh
   (fresh₀ _ (Nat.le_refl _)) (Nat.ne_of_gt hLlt) (Nat.ne_of_lt a3) (Nat.ne_of_lt a1) (Nat.ne_of_gt aL2) (Nat.ne_of_gt aL1) (Nat.ne_of_gt a2) (fresh₀ _ (Nat.le_of_lt a3)) (fresh₀ _ (Nat.le_of_lt a1))
   rfl (lookup_relabel_local hxa) (lookup_relabel_local hxb) hab (by simp [compEnvC, relabel, hkind]) hka hpr hsz (fun i oI oC m₂ h tk acc nw E' e1 e2 e3 e4 e5 e6 e7 e8 e9 => step i _ oI _ oC _ m₂ h tk acc nw E' e1 e2 e3 e4 e5 e6 e7 e8 e9) (fun h tk m' acc nw F' N' o1 hn' hJ' => ?_)
   ⟨_, hIt, rfl, rfl⟩ (F.keeps old) (fun q hq => ?_) hns₁ (fun p hp => ?_) hk J0
  ·refine ⟨m', hn', fun h'' hs'' => fin _ h'' tk acc nw (F'.change hs'' (Nat.ne_of_gt aL2) (fresh₀ _ (Nat.le_of_lt a3))) (fun p hp => ?_) hJ'⟩
   refine ⟨hs''.extBut _ _ ?_ (N' p hp).1, (N' p hp).2⟩
   rcases List.mem_cons.mp hp with rfl | hp
   ·exact Nat.ne_of_lt a2
   ·exact (o1 p hp).1
  ·rcases List.mem_cons.mp hq with rfl | hq
   ·exact ⟨hDt, Nat.ne_of_gt aL1, fresh₀ _ (Nat.le_of_lt a1)⟩
   ·exact ⟨old _ _ (N q hq).1, (N q hq).2⟩
  ·have := below p hp
   exact ⟨Nat.ne_of_lt this, Nat.ne_of_lt (Nat.lt_trans this a3), Nat.ne_of_lt (Nat.lt_trans this a1)⟩
 refine codeAny_compStart_list (loop _ rfl) ?_
 exact wpAny_pyIter_listiter ⟨_, hIt, rfl, rfl⟩ (loop _ rfl)
end
end Mine
namespace Mine
open TI PyProof.Rows.LCg PyProof.Rows.LCt
namespace SL21
def h9s_eval_ListComp := sT
def h9s_CompSrc := sT
def h9s_CompEnd := sT
def h9s_YSrc := sT
def h9s_compareOp_Eq_ref_ref := sT
def h9s_subscriptTail_Name_Name_ref_int := sT
end SL21
open SL21
structure EL where
 ad : Addr
 b : Bool
 R : Addr
 rc : Nat
 gs : List GL
instance : Nonempty NL := ⟨⟨0, [], 0⟩⟩
instance : Nonempty EL := ⟨⟨0, false, 0, 0, []⟩⟩
def elOf (e : EL) : List (Addr × Obj) := (e.ad, listOf #[Value.bool e.b, Value.ref e.R] 0) :: (e.R, listOf (glVs e.gs).toArray e.rc) :: glsOf e.gs
def elsOf (es : List EL) : List (Addr × Obj) := es.flatMap elOf
theorem els_snoc (es : List EL) (e : EL) : elsOf (es ++ [e]) = elsOf es ++ elOf e := by unfold elsOf; rw [List.flatMap_append]; simp
theorem stp1_sub {F : List Int} {G : Int → List Int} : ∀ n, ∀ g ∈ (stpI F G n).1, ∀ k ∈ g, k ∈ F
 | 0, _, h => (nomatch h)
 | n + 1, g, h => by
  rcases List.mem_append.mp h with h | h
  ·exact stp1_sub n g h
  ·rw [List.mem_singleton.mp h]
   exact fun k hk => (mem_grpI.mp hk).1
theorem stp1_len {F : List Int} {G : Int → List Int} : ∀ n, (stpI F G n).1.length = n
 | 0 => rfl
 | n + 1 => by
  show ((stpI F G n).1 ++ [grpI F G (stpI F G n).2]).length = n + 1
  rw [List.length_append, stp1_len n]; rfl
theorem stp1_small {F : List Int} {G : Int → List Int} : ∀ n, ∀ g ∈ (stpI F G n).1, g.length ≤ F.length
 | 0, _, h => (nomatch h)
 | n + 1, g, h => by
  rcases List.mem_append.mp h with h | h
  ·exact stp1_small n g h
  ·rw [List.mem_singleton.mp h]
   exact List.length_filter_le _ _
theorem rnd_small {F : List Int} {G : Int → List Int} {n : Nat} {gl : List NL} (hn : F.Nodup) (h5 : F.length ≤ 8) (he : EndsI F G n) (hg : nlNs gl = (stpI F G n).1) : gl.length ≤ 8 ∧ ∀ g ∈ gl, g.js.length ≤ 8 := by
 have h1 := stpI_ge he.1
 have h2 := stpI_le (G := G) hn n
 have h3 := congrArg List.length hg
 rw [stp1_len] at h3
 unfold nlNs at h3
 rw [List.length_map] at h3
 refine ⟨by omega, fun g hgm => ?_⟩
 have h4 : g.js.map (·.1) ∈ (stpI F G n).1 := by rw [← hg]; exact List.mem_map.mpr ⟨g, hgm, rfl⟩
 have := stp1_small n _ h4
 rw [List.length_map] at this
 omega
theorem mem_el {q : Addr × Obj} {P a b c d e : List (Addr × Obj)} {Le D3 : Addr} {bA : Bool} {n : Nat} {gs : List GL} (h : q ∈ P ++ (a ++ (b ++ (c ++ (d ++ (e ++ elOf ⟨Le, bA, D3, n, gs⟩)))))) : q ∈ (Le, listOf #[Value.bool bA, Value.ref D3] 0) :: (D3, listOf (glVs gs).toArray n) :: (P ++ (a ++ (b ++ (c ++ (d ++ (e ++ glsOf gs)))))) := by
 refine sub_of ?_ h
 (try dsimp only [elOf, List.cons_append, List.nil_append])
 walk_at "sub"
theorem mem_el2 {q : Addr × Obj} {P a b c d e : List (Addr × Obj)} {Le D3 : Addr} {bA : Bool} {n : Nat} {gs : List GL} (h : q ∈ P ++ (a ++ (b ++ (c ++ (d ++ (e ++ elOf ⟨Le, bA, D3, n, gs⟩)))))) : q ∈ P ++ (a ++ (b ++ (c ++ (d ++ e)))) ∨ q = (Le, listOf #[Value.bool bA, Value.ref D3] 0) ∨ q = (D3, listOf (glVs gs).toArray n) ∨ q ∈ glsOf gs := by
 have h2 : q ∈ (P ++ (a ++ (b ++ (c ++ (d ++ e))))) ++ ((Le, listOf #[Value.bool bA, Value.ref D3] 0) :: (D3, listOf (glVs gs).toArray n) :: glsOf gs) := by
  refine sub_of ?_ h
  (try dsimp only [elOf, List.cons_append, List.nil_append])
  walk_at "sub"
 exact (List.mem_append.mp h2).imp_right fun h => (List.mem_cons.mp h).imp_right fun h => List.mem_cons.mp h
def tdD (l : List (Bool × List (List Str))) : PyData := .list (l.map fun p => .list [.bool p.1, .list (p.2.map slD)])
theorem readsAll_els {h : Heap} : ∀ l : List EL, (∀ q ∈ elsOf l, h.get? q.1 = some q.2) → ∃ as, ReadsAll h (l.map fun e => Value.ref e.ad) ((l.map fun e => (e.b, glNs e.gs)).map fun p => .list [.bool p.1, .list (p.2.map slD)]) as
 | [], _ => ⟨_, .nil⟩
 | e :: r, x => by
  have hx : ∀ q ∈ elOf e, h.get? q.1 = some q.2 := fun q hq => x q (by unfold elsOf; rw [List.flatMap_cons]; exact List.mem_append_left _ hq)
  obtain ⟨as, ih⟩ := readsAll_els r fun q hq => x q (by unfold elsOf; rw [List.flatMap_cons]; exact List.mem_append_right _ hq)
  obtain ⟨bs, rg⟩ := reads_gls (h := h) (W := e.R) (wl := e.gs) (c := e.rc) (hx _ (.tail _ (.head _))) fun g hg => hx _ (tl2 (List.mem_map.mpr ⟨g, hg, rfl⟩))
  have re : Reads h (.ref e.ad) (.list [.bool e.b, .list ((glNs e.gs).map slD)]) _ := .list (hx _ (.head _)) rfl rfl (.cons (.bool e.b) (.cons rg .nil))
  exact ⟨_, .cons re ih⟩
theorem reads_told {h : Heap} {W : Addr} {c : Nat} {l : List EL} (e : h.get? W = some (listOf (l.map fun e => Value.ref e.ad).toArray c)) (x : ∀ q ∈ elsOf l, h.get? q.1 = some q.2) : ∃ as, Reads h (.ref W) (tdD (l.map fun e => (e.b, glNs e.gs))) as := by
 obtain ⟨as, r⟩ := readsAll_els l x
 exact ⟨_, .list e rfl rfl r⟩
theorem lay_strs : ∀ l : List Str, (∀ x ∈ l, PyData.strOk x = true) → PyData.canLayAll0 (l.map .str) = true
 | [], _ => by simp only [List.map_nil, PyData.canLayAll0]
 | x :: r, h => by
  have h1 := h x (.head _)
  have h2 := lay_strs r fun y hy => h y (.tail _ hy)
  simp only [List.map_cons, PyData.canLayAll0, PyData.canLay0, h1, h2, Bool.and_self]
theorem lay_sls : ∀ l : List (List Str), (∀ g ∈ l, ∀ x ∈ g, PyData.strOk x = true) → PyData.canLayAll0 (l.map slD) = true
 | [], _ => by simp only [List.map_nil, PyData.canLayAll0]
 | g :: r, h => by
  have h1 := lay_strs g (h g (.head _))
  have h2 := lay_sls r fun y hy => h y (.tail _ hy)
  have h3 : (slD g).canLay0 = true := by simp only [slD, PyData.canLay0, h1]
  simp only [List.map_cons, PyData.canLayAll0, h3, h2, Bool.and_self]
theorem lay_td : ∀ l : List (Bool × List (List Str)), (∀ p ∈ l, ∀ g ∈ p.2, ∀ x ∈ g, PyData.strOk x = true) → PyData.canLayAll0 (l.map fun p => .list [.bool p.1, .list (p.2.map slD)]) = true
 | [], _ => by simp only [List.map_nil, PyData.canLayAll0]
 | p :: r, h => by
  have h1 := lay_sls p.2 (h p (.head _))
  have h2 := lay_td r fun y hy => h y (.tail _ hy)
  simp only [List.map_cons, PyData.canLayAll0, PyData.canLay0, h1, h2, Bool.and_self]
theorem depth_sls : ∀ l : List (List Str), PyData.depthAll (l.map slD) ≤ 1
 | [] => Nat.zero_le _
 | g :: r => by
  show max (slD g).depth (PyData.depthAll (r.map slD)) ≤ 1
  rw [depth_slD]
  exact Nat.max_le.mpr ⟨Nat.le_refl _, depth_sls r⟩
theorem depth_td : ∀ l : List (Bool × List (List Str)), PyData.depthAll (l.map fun p => .list [.bool p.1, .list (p.2.map slD)]) ≤ 3
 | [] => Nat.zero_le _
 | p :: r => by
  show max (max 0 (max (PyData.depthAll (p.2.map slD) + 1) 0) + 1) (PyData.depthAll (r.map fun p => .list [.bool p.1, .list (p.2.map slD)])) ≤ 3
  have h1 := depth_sls p.2
  have h2 := depth_td r
  omega
theorem shaped_td {l : List (Bool × List (List Str))} (h : ∀ p ∈ l, ∀ g ∈ p.2, ∀ x ∈ g, PyData.strOk x = true) : SeqAt.shaped (tdD l) = true := by
 have h1 : (tdD l).canLay0 = true := by simp only [tdD, PyData.canLay0]; exact lay_td l h
 have h2 : (tdD l).depth ≤ 64 := by
  show PyData.depthAll (l.map fun p => .list [.bool p.1, .list (p.2.map slD)]) + 1 ≤ 64
  have := depth_td l
  omega
 unfold SeqAt.shaped
 rw [h1, decide_eq_true h2]; rfl
@[irreducible] def b2_S := b2_st.p
theorem b2_eq : b2_S = b2_st.p := by unfold b2_S; rfl
abbrev b2_u (z9 : (Addr × Addr × Heap × (List (Int × Tok)) × (Int → List Int) × Heap) × (Addr × Addr × Bool × Nat × (List NL) × Nat) × (Heap × Addr × Addr × Bool × Nat × (List NL)) × (Nat × Addr × Heap × Nat)) : Prop := u4 (u6 (u6 (u6 b2_S z9.1) z9.2.1) z9.2.2.1) z9.2.2.2
def b2_c := eps (by walk_at "ne") b2_u
namespace Kb2
@[irreducible] def Lp := b2_c.1.1
@[irreducible] def LO := b2_c.1.2.1
@[irreducible] def hn2 := b2_c.1.2.2.1
@[irreducible] def ps := b2_c.1.2.2.2.1
@[irreducible] def Gi := b2_c.1.2.2.2.2.1
@[irreducible] def v8b2 := b2_c.1.2.2.2.2.2
@[irreducible] def r3 := b2_c.2.1.1
@[irreducible] def rr3 := b2_c.2.1.2.1
@[irreducible] def b3 := b2_c.2.1.2.2.1
@[irreducible] def rc3 := b2_c.2.1.2.2.2.1
@[irreducible] def gl3 := b2_c.2.1.2.2.2.2.1
@[irreducible] def n3 := b2_c.2.1.2.2.2.2.2
@[irreducible] def h := b2_c.2.2.1.1
@[irreducible] def r4 := b2_c.2.2.1.2.1
@[irreducible] def rr4 := b2_c.2.2.1.2.2.1
@[irreducible] def b4 := b2_c.2.2.1.2.2.2.1
@[irreducible] def rc4 := b2_c.2.2.1.2.2.2.2.1
@[irreducible] def gl4 := b2_c.2.2.1.2.2.2.2.2
@[irreducible] def n4 := b2_c.2.2.2.1
@[irreducible] def Du := b2_c.2.2.2.2.1
@[irreducible] def h5 := b2_c.2.2.2.2.2.1
@[irreducible] def tk5 := b2_c.2.2.2.2.2.2
end Kb2
section
open Mine.Ka1 hiding tk1 tk
open Ka2
open Ka3
open Ka4
open Mine.Ka5 hiding tk
open Ka6
open Mine.Ka7 hiding tk hR t1R u1R v1R h5 tk5
open Mine.Ka8 hiding tk
open Mine.Ka9 hiding hR t1R u1R v1R tk
open Kb1
open Kb2
def c21_st : Stg2 ((Str → Option Value) → Nat → Addr → Obj → Addr → Obj → Addr → (Str → Option Value) → Heap → Nat → (Value → Shared → Prop) → (List EL) → Bool → Addr → Nat → (List NL) → Prop) ((Str → Option Value) → Addr → Heap → Nat → (List EL) → Prop) (fun p9 => ∀ mq i I oIq C oC D m₂ h tk' E' es bA RA cA glA, p9 mq i I oIq C oC D m₂ h tk' E' es bA RA cA glA) (fun p9 => ∀ mq Dz hz tkz es, p9 mq Dz hz tkz es) (b2_S Kb2.Lp Kb2.LO Kb2.hn2 Kb2.ps Kb2.Gi Kb2.v8b2 Kb2.r3 Kb2.rr3 Kb2.b3 Kb2.rc3 Kb2.gl3 Kb2.n3 Kb2.h Kb2.r4 Kb2.rr4 Kb2.b4 Kb2.rc4 Kb2.gl4 Kb2.n4 Kb2.Du Kb2.h5 Kb2.tk5) := by
 refine' Stg2.mk _ _ fun h9c21 h9f21 => ?hk9
 case hk9 =>
  unfold b2_S b2_st
  dsimp only
  intro hg KX T B TE TW M hL r0 hI hc63 hct hC5 dB dA dL l5 l4 l3 l2 hcu hcl ecl hcv hcvl hxs hxl hlks hfs hrl hgl hlo v1a3 ltx hsD v1a6 hoD hldG hlo2 e5 nDl nDr dW hwl nWy hwl5 hll hlg hl8 nDN hNT c5 dN v1a9 hks v1b1 K0 c6 o5f dQ a0 a1 v1a8 v2b1 nrX hans2 c7z nr7 dS v3b1 hzs hzl hal hfs5 hGd hG hG8 v4b1 v5b1 v6b1 v7b1 hE1 hgl1 hring1 rgR hfp v1b2 hsub hG2 hfl v8b1 v9b1 v10b1 v11b1 hE2 hgl2 hring2 FB hps hpl NB hGi hGn hGp hGk hkn hkl hll8 v11b2 v12b2 hE3 hgl3 hb3 hv v15b2 hE4 hgl4 hb4 F5 N5 off5
  have N6 : News s₁.heap s₁.heap.objs.size h5 ((Du, listOf #[Value.ref r3, Value.ref r4] 2) :: (r4, listOf #[Value.bool b4, Value.ref rr4] 0) :: (rr4, listOf (nlVs gl4).toArray rc4) :: (r3, listOf #[Value.bool b3, Value.ref rr3] 0) :: (rr3, listOf (nlVs gl3).toArray rc3) :: (LO, listOf #[Value.ref Lp, Value.ref DK] 0) :: (Lp, listOf (ps.map iV).toArray 0) :: (Dt, listOf #[Value.ref r1, Value.ref r2] 0) :: (r2, listOf #[Value.bool ring2, Value.ref rr2] 0) :: (rr2, listOf (glVs gl2).toArray rc2) :: (r1, listOf #[Value.bool ring1, Value.ref rr1] 0) :: (rr1, listOf (glVs gl1).toArray rc1) :: (DK, lst (ks.map iV)) :: (DN, listOf (nlVs nl).toArray (nlVs nl).length) :: (l1a, listOf (fs.map sV).toArray 0) :: (s₁.heap.objs.size + 1 + 1 + 1 + 1 + 1 + 1 + 1, oSq) :: (s₁.heap.objs.size + 1 + 1 + 1 + 1 + 1 + 1, oQq) :: (s₁.heap.objs.size + 1 + 1 + 1 + 1 + 1, oN) :: (s₁.heap.objs.size + 1 + 1 + 1 + 1, oWq) :: (s₁.heap.objs.size + 1 + 1 + 1, qL) :: (s₁.heap.objs.size + 1 + 1, qA) :: (s₁.heap.objs.size + 1, qB) :: (nlsOf nl ++ (glsOf gl1 ++ (glsOf gl2 ++ (nlsOf gl3 ++ nlsOf gl4))))) := N5
  obtain ⟨mq, F6⟩ : ∃ mq : Str → Option Value, Fr s₁.heap s₁.heap.objs.size h5 (fun z => if z = Str.ofString "due" then some (.ref Du) else mq z) := ⟨_, F5⟩
  clear F5 N5 off5
  replace N6 : News s₁.heap s₁.heap.objs.size h5 ((Du, listOf #[Value.ref r3, Value.ref r4] 2) :: (r3, listOf #[Value.bool b3, Value.ref rr3] 0) :: (rr3, listOf (nlVs gl3).toArray rc3) :: (r4, listOf #[Value.bool b4, Value.ref rr4] 0) :: (rr4, listOf (nlVs gl4).toArray rc4) :: (Dt, listOf #[Value.ref r1, Value.ref r2] 0) :: (r1, listOf #[Value.bool ring1, Value.ref rr1] 0) :: (rr1, listOf (glVs gl1).toArray rc1) :: (r2, listOf #[Value.bool ring2, Value.ref rr2] 0) :: (rr2, listOf (glVs gl2).toArray rc2) :: (l1a, listOf (fs.map sV).toArray 0) :: (s₁.heap.objs.size + 1 + 1 + 1 + 1 + 1 + 1 + 1, oSq) :: (s₁.heap.objs.size + 1 + 1 + 1 + 1 + 1 + 1, oQq) :: (s₁.heap.objs.size + 1 + 1 + 1 + 1 + 1, oN) :: (s₁.heap.objs.size + 1 + 1 + 1 + 1, oWq) :: (s₁.heap.objs.size + 1 + 1 + 1, qL) :: (s₁.heap.objs.size + 1 + 1, qA) :: (s₁.heap.objs.size + 1, qB) :: (glsOf gl1 ++ (glsOf gl2 ++ (nlsOf gl3 ++ nlsOf gl4)))) := fun q hq => by
   have hq : q ∈ [(Du, listOf #[Value.ref r3, Value.ref r4] 2), (r3, listOf #[Value.bool b3, Value.ref rr3] 0), (rr3, listOf (nlVs gl3).toArray rc3), (r4, listOf #[Value.bool b4, Value.ref rr4] 0), (rr4, listOf (nlVs gl4).toArray rc4), (Dt, listOf #[Value.ref r1, Value.ref r2] 0), (r1, listOf #[Value.bool ring1, Value.ref rr1] 0), (rr1, listOf (glVs gl1).toArray rc1), (r2, listOf #[Value.bool ring2, Value.ref rr2] 0), (rr2, listOf (glVs gl2).toArray rc2), (l1a, listOf (fs.map sV).toArray 0), (s₁.heap.objs.size + 1 + 1 + 1 + 1 + 1 + 1 + 1, oSq), (s₁.heap.objs.size + 1 + 1 + 1 + 1 + 1 + 1, oQq), (s₁.heap.objs.size + 1 + 1 + 1 + 1 + 1, oN), (s₁.heap.objs.size + 1 + 1 + 1 + 1, oWq), (s₁.heap.objs.size + 1 + 1 + 1, qL), (s₁.heap.objs.size + 1 + 1, qA), (s₁.heap.objs.size + 1, qB)] ++ (glsOf gl1 ++ (glsOf gl2 ++ (nlsOf gl3 ++ nlsOf gl4))) := hq
   refine N6 q ?_
   show q ∈ [(Du, listOf #[Value.ref r3, Value.ref r4] 2), (r4, listOf #[Value.bool b4, Value.ref rr4] 0), (rr4, listOf (nlVs gl4).toArray rc4), (r3, listOf #[Value.bool b3, Value.ref rr3] 0), (rr3, listOf (nlVs gl3).toArray rc3), (LO, listOf #[Value.ref Lp, Value.ref DK] 0), (Lp, listOf (ps.map iV).toArray 0), (Dt, listOf #[Value.ref r1, Value.ref r2] 0), (r2, listOf #[Value.bool ring2, Value.ref rr2] 0), (rr2, listOf (glVs gl2).toArray rc2), (r1, listOf #[Value.bool ring1, Value.ref rr1] 0), (rr1, listOf (glVs gl1).toArray rc1), (DK, lst (ks.map iV)), (DN, listOf (nlVs nl).toArray (nlVs nl).length), (l1a, listOf (fs.map sV).toArray 0), (s₁.heap.objs.size + 1 + 1 + 1 + 1 + 1 + 1 + 1, oSq), (s₁.heap.objs.size + 1 + 1 + 1 + 1 + 1 + 1, oQq), (s₁.heap.objs.size + 1 + 1 + 1 + 1 + 1, oN), (s₁.heap.objs.size + 1 + 1 + 1 + 1, oWq), (s₁.heap.objs.size + 1 + 1 + 1, qL), (s₁.heap.objs.size + 1 + 1, qA), (s₁.heap.objs.size + 1, qB)] ++ (nlsOf nl ++ (glsOf gl1 ++ (glsOf gl2 ++ (nlsOf gl3 ++ nlsOf gl4))))
   rcases List.mem_append.mp hq with hq | hq
   ·refine List.mem_append_left _ ?_
    refine sub_of ?_ hq
    (try dsimp only [List.cons_append, List.nil_append])
    walk_at "sub"
   ·exact List.mem_append_right _ (List.mem_append_right _ hq)
  have hfs5 : fs.length = 5 := by
   have := congrArg List.length hfs
   rw [List.length_map] at this
   exact this
  have hb34 : ∀ (F : List Int) (G : Int → List Int) (n : Nat) (gl : List NL), (∀ a ∈ F, ∃ k : Nat, k < 5 ∧ a = (k : Int)) → nlNs gl = (stpI F G n).1 → ∀ g ∈ gl, ∀ q ∈ g.js, ∃ k : Nat, k < 5 ∧ q.1 = (k : Int) := fun F G n gl hF hgl g hg q hq => by
   have h1 : g.js.map (·.1) ∈ (stpI F G n).1 := by rw [← hgl]; exact List.mem_map.mpr ⟨g, hg, rfl⟩
   exact hF _ (stp1_sub n _ h1 _ (List.mem_map_of_mem hq))
  have hF3 : ∀ a ∈ ps.map (·.1), ∃ k : Nat, k < 5 ∧ a = (k : Int) := fun a ha => by
   rw [hps] at ha
   simp only [List.mem_cons, List.not_mem_nil, or_false] at ha
   rcases ha with h | h | h | h | h
   ·exact ⟨0, by decide, h⟩
   ·exact ⟨1, by decide, h⟩
   ·exact ⟨2, by decide, h⟩
   ·exact ⟨3, by decide, h⟩
   ·exact ⟨4, by decide, h⟩
  have hF4 : ∀ a ∈ ks.map (·.1), ∃ k : Nat, k < 5 ∧ a = (k : Int) := fun a ha => by
   rw [hks] at ha
   obtain ⟨k, hk, e⟩ := List.mem_map.mp ha
   exact ⟨k, List.mem_range.mp (List.mem_filter.mp hk).1, e.symm⟩
  have hj3 := hb34 _ _ _ gl3 hF3 hgl3
  have hj4 := hb34 _ _ _ gl4 hF4 hgl4
  have hs3 := rnd_small (by rw [hps]; decide) (by rw [hps]; decide) hE3 hgl3
  have hs4 := rnd_small hkn (by rw [List.length_map]; exact hkl) hE4 hgl4
  refine ListComp_Y (h₀ := s₁.heap) (L := s₁.heap.objs.size) (m := (fun z => if z = Str.ofString "due" then some (.ref Du) else mq z)) (by with_unfolding_all rfl) (by decide) (by rfl) (by decide) (by rfl) (by rfl) (by decide) ?_
  k_steps
  refine stop_un ?_
  refine ⟨Du, #[Value.ref r3, Value.ref r4], 2, [(Du, listOf #[Value.ref r3, Value.ref r4] 2), (r3, listOf #[Value.bool b3, Value.ref rr3] 0), (r4, listOf #[Value.bool b4, Value.ref rr4] 0)], fun i => if i = 0 then (r3, .bool b3, .ref rr3) else (r4, .bool b4, .ref rr4), _, fun i ys nw => ∃ es : List EL, ys = es.map (fun e => Value.ref e.ad) ∧ es.length = i ∧ es.map (fun e => (e.b, glNs e.gs)) = ([(b3, (nlNs gl3).map (·.map nmS)), (b4, (nlNs gl4).map (·.map nmS))]).take i ∧ nw = (Du, listOf #[Value.ref r3, Value.ref r4] 2) :: (r3, listOf #[Value.bool b3, Value.ref rr3] 0) :: (rr3, listOf (nlVs gl3).toArray rc3) :: (r4, listOf #[Value.bool b4, Value.ref rr4] 0) :: (rr4, listOf (nlVs gl4).toArray rc4) :: (Dt, listOf #[Value.ref r1, Value.ref r2] 0) :: (r1, listOf #[Value.bool ring1, Value.ref rr1] 0) :: (rr1, listOf (glVs gl1).toArray rc1) :: (r2, listOf #[Value.bool ring2, Value.ref rr2] 0) :: (rr2, listOf (glVs gl2).toArray rc2) :: (l1a, listOf (fs.map sV).toArray 0) :: (s₁.heap.objs.size + 1 + 1 + 1 + 1 + 1 + 1 + 1, oSq) :: (s₁.heap.objs.size + 1 + 1 + 1 + 1 + 1 + 1, oQq) :: (s₁.heap.objs.size + 1 + 1 + 1 + 1 + 1, oN) :: (s₁.heap.objs.size + 1 + 1 + 1 + 1, oWq) :: (s₁.heap.objs.size + 1 + 1 + 1, qL) :: (s₁.heap.objs.size + 1 + 1, qA) :: (s₁.heap.objs.size + 1, qB) :: (glsOf gl1 ++ (glsOf gl2 ++ (nlsOf gl3 ++ (nlsOf gl4 ++ elsOf es)))), rfl, rfl, F6, N6, .head _, ?prr, ?szz, ?kk, ⟨[], rfl, rfl, rfl, by rw [show elsOf [] = [] from rfl, List.append_nil]⟩, ?step, ?fin⟩
  case prr =>
   intro i v hv
   match i, hv with
   | 0, hv => exact ⟨(Option.some.inj hv).symm, .tail _ (.head _)⟩
   | 1, hv => exact ⟨(Option.some.inj hv).symm, tl2 (.head _)⟩
   | i + 2, hv => simp at hv
  case szz => rw [sizeLine_eq]; exact Nat.le_of_ble_eq_true rfl
  case kk =>
   intro q hq
   simp only [List.mem_cons, List.not_mem_nil, or_false] at hq
   rcases hq with rfl | rfl | rfl
   ·(walk_at "hd")
   ·(walk_at "hd")
   ·(walk_at "hd")
  case step =>
   intro i I oIq C oC D m₂ h tk' acc nw E' hi hC hma hmb F3 N3 off hkp W91
   walk_at "hide"
   obtain ⟨es, rfl, hel, hes, rfl⟩ := W91
   walk_at "unhide"
   obtain ⟨bA, RA, cA, glA, hpa, hpb, hRA, hgA, hjA, hsA, hdA⟩ : ∃ (bA : Bool) (RA : Addr) (cA : Nat) (glA : List NL), m₂ (Str.ofString "ring") = some (.bool bA) ∧ m₂ (Str.ofString "rounds") = some (.ref RA) ∧ (RA, listOf (nlVs glA).toArray cA) ∈ (Du, listOf #[Value.ref r3, Value.ref r4] 2) :: (r3, listOf #[Value.bool b3, Value.ref rr3] 0) :: (rr3, listOf (nlVs gl3).toArray rc3) :: (r4, listOf #[Value.bool b4, Value.ref rr4] 0) :: (rr4, listOf (nlVs gl4).toArray rc4) :: (Dt, listOf #[Value.ref r1, Value.ref r2] 0) :: (r1, listOf #[Value.bool ring1, Value.ref rr1] 0) :: (rr1, listOf (glVs gl1).toArray rc1) :: (r2, listOf #[Value.bool ring2, Value.ref rr2] 0) :: (rr2, listOf (glVs gl2).toArray rc2) :: (l1a, listOf (fs.map sV).toArray 0) :: (s₁.heap.objs.size + 1 + 1 + 1 + 1 + 1 + 1 + 1, oSq) :: (s₁.heap.objs.size + 1 + 1 + 1 + 1 + 1 + 1, oQq) :: (s₁.heap.objs.size + 1 + 1 + 1 + 1 + 1, oN) :: (s₁.heap.objs.size + 1 + 1 + 1 + 1, oWq) :: (s₁.heap.objs.size + 1 + 1 + 1, qL) :: (s₁.heap.objs.size + 1 + 1, qA) :: (s₁.heap.objs.size + 1, qB) :: (glsOf gl1 ++ (glsOf gl2 ++ (nlsOf gl3 ++ (nlsOf gl4 ++ elsOf es)))) ∧ (∀ g ∈ glA, (g.ad, g.ob) ∈ (Du, listOf #[Value.ref r3, Value.ref r4] 2) :: (r3, listOf #[Value.bool b3, Value.ref rr3] 0) :: (rr3, listOf (nlVs gl3).toArray rc3) :: (r4, listOf #[Value.bool b4, Value.ref rr4] 0) :: (rr4, listOf (nlVs gl4).toArray rc4) :: (Dt, listOf #[Value.ref r1, Value.ref r2] 0) :: (r1, listOf #[Value.bool ring1, Value.ref rr1] 0) :: (rr1, listOf (glVs gl1).toArray rc1) :: (r2, listOf #[Value.bool ring2, Value.ref rr2] 0) :: (rr2, listOf (glVs gl2).toArray rc2) :: (l1a, listOf (fs.map sV).toArray 0) :: (s₁.heap.objs.size + 1 + 1 + 1 + 1 + 1 + 1 + 1, oSq) :: (s₁.heap.objs.size + 1 + 1 + 1 + 1 + 1 + 1, oQq) :: (s₁.heap.objs.size + 1 + 1 + 1 + 1 + 1, oN) :: (s₁.heap.objs.size + 1 + 1 + 1 + 1, oWq) :: (s₁.heap.objs.size + 1 + 1 + 1, qL) :: (s₁.heap.objs.size + 1 + 1, qA) :: (s₁.heap.objs.size + 1, qB) :: (glsOf gl1 ++ (glsOf gl2 ++ (nlsOf gl3 ++ (nlsOf gl4 ++ elsOf es))))) ∧
     (∀ g ∈ glA, ∀ q ∈ g.js, ∃ k : Nat, k < 5 ∧ q.1 = (k : Int)) ∧ (glA.length ≤ 8 ∧ ∀ g ∈ glA, g.js.length ≤ 8) ∧ [(b3, (nlNs gl3).map (·.map nmS)), (b4, (nlNs gl4).map (·.map nmS))][i]? = some (bA, (nlNs glA).map (·.map nmS)) := by
    have hi2 : i < 2 := hi
    match i, hi2, hma, hmb with
    | 0, _, hma, hmb => exact ⟨b3, rr3, rc3, gl3, hma, hmb, by (walk_at "hd"), fun g hg => by (repeat (first | (with_reducible exact List.mem_append_right _ (List.mem_append_right _ (List.mem_append_left _ (List.mem_map.mpr ⟨g, hg, rfl⟩)))) | apply List.mem_cons_of_mem)), hj3, hs3, rfl⟩
    | 1, _, hma, hmb => exact ⟨b4, rr4, rc4, gl4, hma, hmb, by (walk_at "hd"), fun g hg => by (repeat (first | (with_reducible exact List.mem_append_right _ (List.mem_append_right _ (List.mem_append_right _ (List.mem_append_left _ (List.mem_map.mpr ⟨g, hg, rfl⟩))))) | apply List.mem_cons_of_mem)), hj4, hs4, rfl⟩
   clear hma hmb
   (try dsimp only)
   rename_i v1c21
   revert hg KX T B TE TW M hL r0 hI hc63 hct hC5 dB dA dL l5 l4 l3 l2 hcu hcl ecl hcv hcvl hxs hxl hlks hfs hrl hgl hlo v1a3 ltx hsD v1a6 hoD hldG hlo2 e5 nDl nDr dW hwl nWy hwl5 hll hlg hl8 nDN hNT c5 dN v1a9 hks v1b1 K0 c6 o5f dQ a0 a1 v1a8 v2b1 nrX hans2 c7z nr7 dS v3b1 hzs hzl hal v1c21 hGd hG hG8 v4b1 v5b1 v6b1 v7b1 hE1 hgl1 hring1 rgR hfp v1b2 hsub hG2 hfl v8b1 v9b1 v10b1 v11b1 hE2 hgl2 hring2 FB hps hpl NB hGi hGn hGp hGk hkn hkl hll8 v11b2 v12b2 hE3 hgl3 hb3 hv v15b2 hE4 hgl4 hb4 F6 N6 hfs5 hb34 hF3 hF4 hj3 hj4 hs3 hs4 hi hC F3 hel hes off hkp N3 hpa hpb hRA hgA hjA hsA hdA
   exact h9c21 mq i I oIq C oC D m₂ h tk' E' es bA RA cA glA
  case fin =>
   intro Dz hz tkz acc nw FZ NZ W94
   walk_at "hide"
   obtain ⟨es, rfl, hel, hes, rfl⟩ := W94
   walk_at "unhide"
   dsimp only
   rename_i v1f21
   revert hg KX T B TE TW M hL r0 hI hc63 hct hC5 dB dA dL l5 l4 l3 l2 hcu hcl ecl hcv hcvl hxs hxl hlks hfs hrl hgl hlo v1a3 ltx hsD v1a6 hoD hldG hlo2 e5 nDl nDr dW hwl nWy hwl5 hll hlg hl8 nDN hNT c5 dN v1a9 hks v1b1 K0 c6 o5f dQ a0 a1 v1a8 v2b1 nrX hans2 c7z nr7 dS v3b1 hzs hzl hal v1f21 hGd hG hG8 v4b1 v5b1 v6b1 v7b1 hE1 hgl1 hring1 rgR hfp v1b2 hsub hG2 hfl v8b1 v9b1 v10b1 v11b1 hE2 hgl2 hring2 FB hps hpl NB hGi hGn hGp hGk hkn hkl hll8 v11b2 v12b2 hE3 hgl3 hb3 hv v15b2 hE4 hgl4 hb4 F6 N6 hfs5 hb34 hF3 hF4 hj3 hj4 hs3 hs4 FZ hel hes NZ
   exact h9f21 mq Dz hz tkz es
@[irreducible] def c21_S := c21_st.p
theorem c21_eq : c21_S = c21_st.p := by unfold c21_S; rfl
abbrev c21_u (z9 : ((Str → Option Value) × Nat × Addr × Obj × Addr × Obj) × (Addr × (Str → Option Value) × Heap × Nat × (Value → Shared → Prop) × (List EL)) × (Bool × Addr × Nat × (List NL))) : Prop := u4 (u6 (u6 c21_S z9.1) z9.2.1) z9.2.2
def c21_c := eps (by walk_at "ne") c21_u
namespace Kc21
@[irreducible] def mq := c21_c.1.1
@[irreducible] def i := c21_c.1.2.1
@[irreducible] def I := c21_c.1.2.2.1
@[irreducible] def oIq := c21_c.1.2.2.2.1
@[irreducible] def C := c21_c.1.2.2.2.2.1
@[irreducible] def oC := c21_c.1.2.2.2.2.2
@[irreducible] def D := c21_c.2.1.1
@[irreducible] def m₂ := c21_c.2.1.2.1
@[irreducible] def h := c21_c.2.1.2.2.1
@[irreducible] def tk' := c21_c.2.1.2.2.2.1
@[irreducible] def E' := c21_c.2.1.2.2.2.2.1
@[irreducible] def es := c21_c.2.1.2.2.2.2.2
@[irreducible] def bA := c21_c.2.2.1
@[irreducible] def RA := c21_c.2.2.2.1
@[irreducible] def cA := c21_c.2.2.2.2.1
@[irreducible] def glA := c21_c.2.2.2.2.2
end Kc21
end
section
open Mine.Ka1 hiding tk1 tk
open Ka2
open Ka3
open Ka4
open Mine.Ka5 hiding tk
open Ka6
open Mine.Ka7 hiding tk hR t1R u1R v1R h5 tk5
open Mine.Ka8 hiding tk
open Mine.Ka9 hiding hR t1R u1R v1R tk
open Kb1
open Mine.Kb2 hiding h
open Kc21
def d21_st : Stg (Heap → Nat → Nat → Addr → Obj → Addr → Obj → Addr → (Str → Option Value) → Heap → Nat → (Value → Shared → Prop) → (List GL) → NL → Prop) (fun p9 => ∀ ggA k2 i2 I2 oI2 C2 oC2 D2 m3 h2 tk2 E2 gs g0, p9 ggA k2 i2 I2 oI2 C2 oC2 D2 m3 h2 tk2 E2 gs g0) (c21_S Kc21.mq Kc21.i Kc21.I Kc21.oIq Kc21.C Kc21.oC Kc21.D Kc21.m₂ Kc21.h Kc21.tk' Kc21.E' Kc21.es Kc21.bA Kc21.RA Kc21.cA Kc21.glA) := by
 refine' Stg.mk _ fun h9d21 => ?hk9
 case hk9 =>
  unfold c21_S c21_st
  dsimp only
  intro hg KX T B TE TW M hL r0 hI hc63 hct hC5 dB dA dL l5 l4 l3 l2 hcu hcl ecl hcv hcvl hxs hxl hlks hfs hrl hgl hlo v1a3 ltx hsD v1a6 hoD hldG hlo2 e5 nDl nDr dW hwl nWy hwl5 hll hlg hl8 nDN hNT c5 dN v1a9 hks v1b1 K0 c6 o5f dQ a0 a1 v1a8 v2b1 nrX hans2 c7z nr7 dS v3b1 hzs hzl hal v1c21 hGd hG hG8 v4b1 v5b1 v6b1 v7b1 hE1 hgl1 hring1 rgR hfp v1b2 hsub hG2 hfl v8b1 v9b1 v10b1 v11b1 hE2 hgl2 hring2 FB hps hpl NB hGi hGn hGp hGk hkn hkl hll8 v11b2 v12b2 hE3 hgl3 hb3 hv v15b2 hE4 hgl4 hb4 F6 N6 hfs5 hb34 hF3 hF4 hj3 hj4 hs3 hs4 hi hC F3 hel hes off hkp N3 hpa hpb hRA hgA hjA hsA hdA
  k_steps
  refine stop_un ?_
  refine LCg.ListComp_U (F₀ := by exact F3) (by with_unfolding_all rfl) (by decide) (by rfl) (by decide) (by rfl) ?_
  k_steps
  refine stop_un ?_
  refine LCg.CompSrc.ledger rfl F3 N3 (its := (nlVs glA).toArray) (k := cA) (tl3 hRA) (by rw [List.size_toArray, sizeLine_eq]; unfold nlVs; rw [List.length_map]; omega) ?_
  intro ggA
  refine comp_ind (its := (nlVs glA).toArray) (J := fun i2 ys2 news2 => ∃ gs : List GL, ys2 = glVs gs ∧ glNs gs = ((nlNs glA).take i2).map (·.map nmS) ∧ news2 = (I, oIq) :: (C, oC) :: (D, lst (es.map (fun e => Value.ref e.ad))) :: (Du, listOf #[Value.ref r3, Value.ref r4] 2) :: (r3, listOf #[Value.bool b3, Value.ref rr3] 0) :: (rr3, listOf (nlVs gl3).toArray rc3) :: (r4, listOf #[Value.bool b4, Value.ref rr4] 0) :: (rr4, listOf (nlVs gl4).toArray rc4) :: (Dt, listOf #[Value.ref r1, Value.ref r2] 0) :: (r1, listOf #[Value.bool ring1, Value.ref rr1] 0) :: (rr1, listOf (glVs gl1).toArray rc1) :: (r2, listOf #[Value.bool ring2, Value.ref rr2] 0) :: (rr2, listOf (glVs gl2).toArray rc2) :: (l1a, listOf (fs.map sV).toArray 0) :: (s₁.heap.objs.size + 1 + 1 + 1 + 1 + 1 + 1 + 1, oSq) :: (s₁.heap.objs.size + 1 + 1 + 1 + 1 + 1 + 1, oQq) :: (s₁.heap.objs.size + 1 + 1 + 1 + 1 + 1, oN) :: (s₁.heap.objs.size + 1 + 1 + 1 + 1, oWq) :: (s₁.heap.objs.size + 1 + 1 + 1, qL) :: (s₁.heap.objs.size + 1 + 1, qA) :: (s₁.heap.objs.size + 1, qB) :: (glsOf gl1 ++ (glsOf gl2 ++ (nlsOf gl3 ++ (nlsOf gl4 ++ (elsOf es ++ glsOf gs))))) ∧ ∀ q ∈ glsOf gs, q.1 ≠ I ∧ q.1 ≠ C ∧ q.1 ≠ D) ?fin2 ?step2 _ 0 [] _ (Nat.zero_add _) ⟨[], rfl, by rw [List.take_zero]; rfl, by rw [show glsOf [] = [] from rfl, List.append_nil], fun _ h => (nomatch h)⟩
  case step2 =>
   intro k2 i2 ys2 news2 v2 hv2 W92 ih2 I2 oI2 C2 oC2 D2 m3 h2 tk2 E2 hC2 hx2 F4 N4 off4 nes4
   walk_at "hide"
   obtain ⟨gs, rfl, hgs, rfl, hgo⟩ := W92
   walk_at "unhide"
   obtain ⟨g0, hg0, rfl⟩ : ∃ g0, glA[i2]? = some g0 ∧ v2 = .ref g0.ad := by
    unfold nlVs at hv2
    rw [List.getElem?_toArray, List.getElem?_map, Option.map_eq_some_iff] at hv2
    obtain ⟨q, h1, h2⟩ := hv2
    exact ⟨q, h1, h2.symm⟩
   have hg0m := List.mem_of_getElem? hg0
   have hgz : (g0.ad, g0.ob) ∈ (I2, oI2) :: (C2, oC2) :: (D2, lst (glVs gs)) :: (I, oIq) :: (C, oC) :: (D, lst (es.map (fun e => Value.ref e.ad))) :: (Du, listOf #[Value.ref r3, Value.ref r4] 2) :: (r3, listOf #[Value.bool b3, Value.ref rr3] 0) :: (rr3, listOf (nlVs gl3).toArray rc3) :: (r4, listOf #[Value.bool b4, Value.ref rr4] 0) :: (rr4, listOf (nlVs gl4).toArray rc4) :: (Dt, listOf #[Value.ref r1, Value.ref r2] 0) :: (r1, listOf #[Value.bool ring1, Value.ref rr1] 0) :: (rr1, listOf (glVs gl1).toArray rc1) :: (r2, listOf #[Value.bool ring2, Value.ref rr2] 0) :: (rr2, listOf (glVs gl2).toArray rc2) :: (l1a, listOf (fs.map sV).toArray 0) :: (s₁.heap.objs.size + 1 + 1 + 1 + 1 + 1 + 1 + 1, oSq) :: (s₁.heap.objs.size + 1 + 1 + 1 + 1 + 1 + 1, oQq) :: (s₁.heap.objs.size + 1 + 1 + 1 + 1 + 1, oN) :: (s₁.heap.objs.size + 1 + 1 + 1 + 1, oWq) :: (s₁.heap.objs.size + 1 + 1 + 1, qL) :: (s₁.heap.objs.size + 1 + 1, qA) :: (s₁.heap.objs.size + 1, qB) :: (glsOf gl1 ++ (glsOf gl2 ++ (nlsOf gl3 ++ (nlsOf gl4 ++ (elsOf es ++ glsOf gs))))) := by
    refine tl4 (tl2 ?_)
    have h1 : (g0.ad, g0.ob) ∈ [(Du, listOf #[Value.ref r3, Value.ref r4] 2), (r3, listOf #[Value.bool b3, Value.ref rr3] 0), (rr3, listOf (nlVs gl3).toArray rc3), (r4, listOf #[Value.bool b4, Value.ref rr4] 0), (rr4, listOf (nlVs gl4).toArray rc4), (Dt, listOf #[Value.ref r1, Value.ref r2] 0), (r1, listOf #[Value.bool ring1, Value.ref rr1] 0), (rr1, listOf (glVs gl1).toArray rc1), (r2, listOf #[Value.bool ring2, Value.ref rr2] 0), (rr2, listOf (glVs gl2).toArray rc2), (l1a, listOf (fs.map sV).toArray 0), (s₁.heap.objs.size + 1 + 1 + 1 + 1 + 1 + 1 + 1, oSq), (s₁.heap.objs.size + 1 + 1 + 1 + 1 + 1 + 1, oQq), (s₁.heap.objs.size + 1 + 1 + 1 + 1 + 1, oN), (s₁.heap.objs.size + 1 + 1 + 1 + 1, oWq), (s₁.heap.objs.size + 1 + 1 + 1, qL), (s₁.heap.objs.size + 1 + 1, qA), (s₁.heap.objs.size + 1, qB)] ++ (glsOf gl1 ++ (glsOf gl2 ++ (nlsOf gl3 ++ (nlsOf gl4 ++ elsOf es)))) := hgA g0 hg0m
    show (g0.ad, g0.ob) ∈ [(Du, listOf #[Value.ref r3, Value.ref r4] 2), (r3, listOf #[Value.bool b3, Value.ref rr3] 0), (rr3, listOf (nlVs gl3).toArray rc3), (r4, listOf #[Value.bool b4, Value.ref rr4] 0), (rr4, listOf (nlVs gl4).toArray rc4), (Dt, listOf #[Value.ref r1, Value.ref r2] 0), (r1, listOf #[Value.bool ring1, Value.ref rr1] 0), (rr1, listOf (glVs gl1).toArray rc1), (r2, listOf #[Value.bool ring2, Value.ref rr2] 0), (rr2, listOf (glVs gl2).toArray rc2), (l1a, listOf (fs.map sV).toArray 0), (s₁.heap.objs.size + 1 + 1 + 1 + 1 + 1 + 1 + 1, oSq), (s₁.heap.objs.size + 1 + 1 + 1 + 1 + 1 + 1, oQq), (s₁.heap.objs.size + 1 + 1 + 1 + 1 + 1, oN), (s₁.heap.objs.size + 1 + 1 + 1 + 1, oWq), (s₁.heap.objs.size + 1 + 1 + 1, qL), (s₁.heap.objs.size + 1 + 1, qA), (s₁.heap.objs.size + 1, qB)] ++ (glsOf gl1 ++ (glsOf gl2 ++ (nlsOf gl3 ++ (nlsOf gl4 ++ (elsOf es ++ glsOf gs)))))
    refine sub_of ?_ h1
    (try dsimp only [List.cons_append, List.nil_append])
    walk_at "sub"
   clear F3 N3
   (try dsimp only)
   revert hg KX T B TE TW M hL r0 hI hc63 hct hC5 dB dA dL l5 l4 l3 l2 hcu hcl ecl hcv hcvl hxs hxl hlks hfs hrl hgl hlo v1a3 ltx hsD v1a6 hoD hldG hlo2 e5 nDl nDr dW hwl nWy hwl5 hll hlg hl8 nDN hNT c5 dN v1a9 hks v1b1 K0 c6 o5f dQ a0 a1 v1a8 v2b1 nrX hans2 c7z nr7 dS v3b1 hzs hzl hal v1c21 hGd hG hG8 v4b1 v5b1 v6b1 v7b1 hE1 hgl1 hring1 rgR hfp v1b2 hsub hG2 hfl v8b1 v9b1 v10b1 v11b1 hE2 hgl2 hring2 FB hps hpl NB hGi hGn hGp hGk hkn hkl hll8 v11b2 v12b2 hE3 hgl3 hb3 hv v15b2 hE4 hgl4 hb4 F6 N6 hfs5 hb34 hF3 hF4 hj3 hj4 hs3 hs4 hi hC hel hes off hkp hpa hpb hRA hgA hjA hsA hdA ih2 hC2 F4 nes4 hgs hgo off4 N4 hg0 hv2 hx2 hg0m hgz
   exact h9d21 ggA k2 i2 I2 oI2 C2 oC2 D2 m3 h2 tk2 E2 gs g0
  case fin2 =>
   intro ys2 news2 W93
   walk_at "hide"
   obtain ⟨gs, rfl, hgs, rfl, hgo⟩ := W93
   walk_at "unhide"
   unfold FinE
   intro D3 h4 tk4 F4 N4 off4
   rw [List.size_toArray, show (nlVs glA).length = glA.length by unfold nlVs; rw [List.length_map], List.take_of_length_le (by unfold nlNs; rw [List.length_map]; exact Nat.le_refl _)] at hgs
   clear F3 N3
   have o4 := off1_mem off4
   dsimp only
   k_steps
   refine stop_un ?_
   rename_i Le hLe F7 N7 l7
   refine CompEnd.intro F7 N7 ((Du, listOf #[Value.ref r3, Value.ref r4] 2) :: (r3, listOf #[Value.bool b3, Value.ref rr3] 0) :: (rr3, listOf (nlVs gl3).toArray rc3) :: (r4, listOf #[Value.bool b4, Value.ref rr4] 0) :: (rr4, listOf (nlVs gl4).toArray rc4) :: (Dt, listOf #[Value.ref r1, Value.ref r2] 0) :: (r1, listOf #[Value.bool ring1, Value.ref rr1] 0) :: (rr1, listOf (glVs gl1).toArray rc1) :: (r2, listOf #[Value.bool ring2, Value.ref rr2] 0) :: (rr2, listOf (glVs gl2).toArray rc2) :: (l1a, listOf (fs.map sV).toArray 0) :: (s₁.heap.objs.size + 1 + 1 + 1 + 1 + 1 + 1 + 1, oSq) :: (s₁.heap.objs.size + 1 + 1 + 1 + 1 + 1 + 1, oQq) :: (s₁.heap.objs.size + 1 + 1 + 1 + 1 + 1, oN) :: (s₁.heap.objs.size + 1 + 1 + 1 + 1, oWq) :: (s₁.heap.objs.size + 1 + 1 + 1, qL) :: (s₁.heap.objs.size + 1 + 1, qA) :: (s₁.heap.objs.size + 1, qB) :: (glsOf gl1 ++ (glsOf gl2 ++ (nlsOf gl3 ++ (nlsOf gl4 ++ elsOf (es ++ [⟨Le, bA, D3, (glVs gs).length, gs⟩])))))) (fun q hq => ?sub) (Off3.of fun q hq => ?off) (fun q hq => ?ks) ⟨es ++ [⟨Le, bA, D3, (glVs gs).length, gs⟩], by rw [List.map_append]; rfl, by rw [List.length_append, hel]; rfl, ?dat, rfl⟩
   case sub =>
    have hq : q ∈ [(I, oIq), (C, oC), (D, lst (es.map (fun e => Value.ref e.ad))), (Du, listOf #[Value.ref r3, Value.ref r4] 2), (r3, listOf #[Value.bool b3, Value.ref rr3] 0), (rr3, listOf (nlVs gl3).toArray rc3), (r4, listOf #[Value.bool b4, Value.ref rr4] 0), (rr4, listOf (nlVs gl4).toArray rc4), (Dt, listOf #[Value.ref r1, Value.ref r2] 0), (r1, listOf #[Value.bool ring1, Value.ref rr1] 0), (rr1, listOf (glVs gl1).toArray rc1), (r2, listOf #[Value.bool ring2, Value.ref rr2] 0), (rr2, listOf (glVs gl2).toArray rc2), (l1a, listOf (fs.map sV).toArray 0), (s₁.heap.objs.size + 1 + 1 + 1 + 1 + 1 + 1 + 1, oSq), (s₁.heap.objs.size + 1 + 1 + 1 + 1 + 1 + 1, oQq), (s₁.heap.objs.size + 1 + 1 + 1 + 1 + 1, oN), (s₁.heap.objs.size + 1 + 1 + 1 + 1, oWq), (s₁.heap.objs.size + 1 + 1 + 1, qL), (s₁.heap.objs.size + 1 + 1, qA), (s₁.heap.objs.size + 1, qB)] ++ (glsOf gl1 ++ (glsOf gl2 ++ (nlsOf gl3 ++ (nlsOf gl4 ++ elsOf (es ++ [⟨Le, bA, D3, (glVs gs).length, gs⟩]))))) := hq
    show q ∈ (Le, listOf #[Value.bool bA, Value.ref D3] 0) :: (D3, lst (glVs gs)) :: ([(I, oIq), (C, oC), (D, lst (es.map (fun e => Value.ref e.ad))), (Du, listOf #[Value.ref r3, Value.ref r4] 2), (r3, listOf #[Value.bool b3, Value.ref rr3] 0), (rr3, listOf (nlVs gl3).toArray rc3), (r4, listOf #[Value.bool b4, Value.ref rr4] 0), (rr4, listOf (nlVs gl4).toArray rc4), (Dt, listOf #[Value.ref r1, Value.ref r2] 0), (r1, listOf #[Value.bool ring1, Value.ref rr1] 0), (rr1, listOf (glVs gl1).toArray rc1), (r2, listOf #[Value.bool ring2, Value.ref rr2] 0), (rr2, listOf (glVs gl2).toArray rc2), (l1a, listOf (fs.map sV).toArray 0), (s₁.heap.objs.size + 1 + 1 + 1 + 1 + 1 + 1 + 1, oSq), (s₁.heap.objs.size + 1 + 1 + 1 + 1 + 1 + 1, oQq), (s₁.heap.objs.size + 1 + 1 + 1 + 1 + 1, oN), (s₁.heap.objs.size + 1 + 1 + 1 + 1, oWq), (s₁.heap.objs.size + 1 + 1 + 1, qL), (s₁.heap.objs.size + 1 + 1, qA), (s₁.heap.objs.size + 1, qB)] ++ (glsOf gl1 ++ (glsOf gl2 ++ (nlsOf gl3 ++ (nlsOf gl4 ++ (elsOf es ++ glsOf gs))))))
    rw [els_snoc] at hq
    exact mem_el hq
   case off =>
    have hq : q ∈ [(Du, listOf #[Value.ref r3, Value.ref r4] 2), (r3, listOf #[Value.bool b3, Value.ref rr3] 0), (rr3, listOf (nlVs gl3).toArray rc3), (r4, listOf #[Value.bool b4, Value.ref rr4] 0), (rr4, listOf (nlVs gl4).toArray rc4), (Dt, listOf #[Value.ref r1, Value.ref r2] 0), (r1, listOf #[Value.bool ring1, Value.ref rr1] 0), (rr1, listOf (glVs gl1).toArray rc1), (r2, listOf #[Value.bool ring2, Value.ref rr2] 0), (rr2, listOf (glVs gl2).toArray rc2), (l1a, listOf (fs.map sV).toArray 0), (s₁.heap.objs.size + 1 + 1 + 1 + 1 + 1 + 1 + 1, oSq), (s₁.heap.objs.size + 1 + 1 + 1 + 1 + 1 + 1, oQq), (s₁.heap.objs.size + 1 + 1 + 1 + 1 + 1, oN), (s₁.heap.objs.size + 1 + 1 + 1 + 1, oWq), (s₁.heap.objs.size + 1 + 1 + 1, qL), (s₁.heap.objs.size + 1 + 1, qA), (s₁.heap.objs.size + 1, qB)] ++ (glsOf gl1 ++ (glsOf gl2 ++ (nlsOf gl3 ++ (nlsOf gl4 ++ elsOf (es ++ [⟨Le, bA, D3, (glVs gs).length, gs⟩]))))) := hq
    rw [els_snoc] at hq
    rcases mem_el2 hq with hq | rfl | rfl | hq
    ·exact off.mem q hq
    ·exact ⟨Nat.ne_of_gt l7.2.1, Nat.ne_of_gt l7.2.2.1, Nat.ne_of_gt l7.2.2.2.1⟩
    ·exact ⟨(o4 (I, oIq) (.head _)).symm, (o4 (C, oC) (.tail _ (.head _))).symm, (o4 (D, lst (es.map (fun e => Value.ref e.ad))) (tl2 (.head _))).symm⟩
    ·exact hgo q hq
   case ks =>
    simp only [List.mem_cons, List.not_mem_nil, or_false] at hq
    rcases hq with rfl | rfl | rfl
    ·(walk_at "hd")
    ·(walk_at "hd")
    ·(walk_at "hd")
   case dat =>
    rw [List.take_add_one, hdA, List.map_append, hes, List.map_cons, List.map_nil, hgs]
    rfl
@[irreducible] def d21_S := d21_st.p
theorem d21_eq : d21_S = d21_st.p := by unfold d21_S; rfl
abbrev d21_u (z9 : (Heap × Nat × Nat × Addr × Obj × Addr) × (Obj × Addr × (Str → Option Value) × Heap × Nat × (Value → Shared → Prop)) × ((List GL) × NL)) : Prop := u2 (u6 (u6 d21_S z9.1) z9.2.1) z9.2.2
def d21_c := eps (by walk_at "ne") d21_u
namespace Kd21
@[irreducible] def ggA := d21_c.1.1
@[irreducible] def k2 := d21_c.1.2.1
@[irreducible] def i2 := d21_c.1.2.2.1
@[irreducible] def I2 := d21_c.1.2.2.2.1
@[irreducible] def oI2 := d21_c.1.2.2.2.2.1
@[irreducible] def C2 := d21_c.1.2.2.2.2.2
@[irreducible] def oC2 := d21_c.2.1.1
@[irreducible] def D2 := d21_c.2.1.2.1
@[irreducible] def m3 := d21_c.2.1.2.2.1
@[irreducible] def h2 := d21_c.2.1.2.2.2.1
@[irreducible] def tk2 := d21_c.2.1.2.2.2.2.1
@[irreducible] def E2 := d21_c.2.1.2.2.2.2.2
@[irreducible] def gs := d21_c.2.2.1
@[irreducible] def g0 := d21_c.2.2.2
end Kd21
end
section
open Mine.Ka1 hiding tk1 D2 tk
open Ka2
open Ka3
open Ka4
open Mine.Ka5 hiding tk
open Ka6
open Mine.Ka7 hiding tk hR t1R u1R v1R h5 tk5
open Mine.Ka8 hiding tk
open Mine.Ka9 hiding hR t1R u1R v1R tk
open Kb1
open Mine.Kb2 hiding h
open Kc21
open Kd21
def e21_st : Stg (Heap → Nat → Nat → (List (Str × Tok)) → Addr → Obj → Addr → Obj → Addr → (Str → Option Value) → Heap → Nat → (Value → Shared → Prop) → Nat → (Str × Tok) → Int → Tok → Prop) (fun p9 => ∀ ggB k3 i3 fq I3 oI3 C3 oC3 D3 m4 h3 tk3 E3 kk f0 q01 q02, p9 ggB k3 i3 fq I3 oI3 C3 oC3 D3 m4 h3 tk3 E3 kk f0 q01 q02) (d21_S Kd21.ggA Kd21.k2 Kd21.i2 Kd21.I2 Kd21.oI2 Kd21.C2 Kd21.oC2 Kd21.D2 Kd21.m3 Kd21.h2 Kd21.tk2 Kd21.E2 Kd21.gs Kd21.g0) := by
 refine' Stg.mk _ fun h9e21 => ?hk9
 case hk9 =>
  unfold d21_S d21_st
  dsimp only
  intro hg KX T B TE TW M hL r0 hI hc63 hct hC5 dB dA dL l5 l4 l3 l2 hcu hcl ecl hcv hcvl hxs hxl hlks hfs hrl hgl hlo v1a3 ltx hsD v1a6 hoD hldG hlo2 e5 nDl nDr dW hwl nWy hwl5 hll hlg hl8 nDN hNT c5 dN v1a9 hks v1b1 K0 c6 o5f dQ a0 a1 v1a8 v2b1 nrX hans2 c7z nr7 dS v3b1 hzs hzl hal v1c21 hGd hG hG8 v4b1 v5b1 v6b1 v7b1 hE1 hgl1 hring1 rgR hfp v1b2 hsub hG2 hfl v8b1 v9b1 v10b1 v11b1 hE2 hgl2 hring2 FB hps hpl NB hGi hGn hGp hGk hkn hkl hll8 v11b2 v12b2 hE3 hgl3 hb3 hv v15b2 hE4 hgl4 hb4 F6 N6 hfs5 hb34 hF3 hF4 hj3 hj4 hs3 hs4 hi hC hel hes off hkp hpa hpb hRA hgA hjA hsA hdA ih2 hC2 F4 nes4 hgs hgo off4 N4 hg0 hv2 hx2 hg0m hgz
  k_steps
  refine stop_un ?_
  refine LCg.ListComp_U (F₀ := by exact F4) (by with_unfolding_all rfl) (by decide) (by rfl) (by decide) (by rfl) ?_
  k_steps
  refine stop_un ?_
  refine LCg.CompSrc.ledger rfl F4 N4 (its := (g0.js.map iV).toArray) (k := g0.c) hgz (by rw [List.size_toArray, List.length_map, sizeLine_eq]; have := hsA.2 g0 hg0m; omega) ?_
  intro ggB
  refine comp_same (R := fun i3 ys3 => ∃ fq : List (Str × Tok), ys3 = fq.map sV ∧ fq.map (·.1) = ((g0.js.map (·.1)).take i3).map nmS) ⟨[], rfl, by rw [List.take_zero]; rfl⟩ ?fin3 ?step3
  case step3 =>
   rintro k3 i3 ys3 v3 hv3 ⟨fq, rfl, hfq⟩ ih3 I3 oI3 C3 oC3 D3 m4 h3 tk3 E3 hC3 hx3 F5 N5 off5
   obtain ⟨q0, hq0, rfl⟩ : ∃ q0, g0.js[i3]? = some q0 ∧ v3 = iV q0 := by
    rw [List.getElem?_toArray, List.getElem?_map, Option.map_eq_some_iff] at hv3
    obtain ⟨q, h1, h2⟩ := hv3
    exact ⟨q, h1, h2.symm⟩
   obtain ⟨kk, hk5, hkq⟩ := hjA g0 hg0m q0 (List.mem_of_getElem? hq0)
   obtain ⟨f0, hf0⟩ : ∃ f0, fs[kk]? = some f0 := ⟨_, List.getElem?_eq_getElem (by omega)⟩
   have hf1 : nmS q0.1 = f0.1 := by
    unfold nmS
    rw [hkq, Int.toNat_natCast, ← hfs, List.getD_eq_getElem?_getD, List.getElem?_map, hf0]; rfl
   obtain ⟨q01, q02⟩ := q0
   have hkq : q01 = (kk : Int) := hkq
   clear F4 N4
   (try dsimp only)
   rename_i v1e21
   revert hg KX T B TE TW M hL r0 hI hc63 hct hC5 dB dA dL l5 l4 l3 l2 hcu hcl ecl hcv hcvl hxs hxl hlks hfs hrl hgl hlo v1a3 ltx hsD v1a6 hoD hldG hlo2 e5 nDl nDr dW hwl nWy hwl5 hll hlg hl8 nDN hNT c5 dN v1a9 hks v1b1 K0 c6 o5f dQ a0 a1 v1a8 v2b1 nrX hans2 c7z nr7 dS v3b1 hzs hzl hal v1c21 hGd hG hG8 v4b1 v5b1 v6b1 v7b1 hE1 hgl1 hring1 rgR hfp v1b2 hsub hG2 hfl v8b1 v9b1 v10b1 v11b1 hE2 hgl2 hring2 FB hps hpl NB hGi hGn hGp hGk hkn hkl hll8 v11b2 v12b2 hE3 hgl3 hb3 hv v15b2 hE4 hgl4 hb4 F6 N6 hfs5 hb34 hF3 hF4 hj3 hj4 hs3 hs4 hi hC hel hes off hkp hpa hpb hRA hgA hjA hsA hdA ih2 hC2 nes4 hgs hgo off4 hg0 hv2 hx2 hg0m hgz hfq ih3 hC3 F5 N5 off5 hk5 hf0 hq0 hv3 hx3 v1e21 hf1 hkq
   exact h9e21 ggB k3 i3 fq I3 oI3 C3 oC3 D3 m4 h3 tk3 E3 kk f0 q01 q02
  case fin3 =>
   rintro ys3 ⟨fq, rfl, hfq⟩
   unfold FinE
   intro D4 h5 tk5 F5 N5 off5
   rw [List.size_toArray, List.length_map, List.take_of_length_le (by rw [List.length_map]; exact Nat.le_refl _)] at hfq
   clear F4 N4
   have o5 := off1_mem off5
   dsimp only
   k_steps
   refine stop_un ?_
   have hRA2 : (RA, listOf (nlVs glA).toArray cA) ∈ [(Du, listOf #[Value.ref r3, Value.ref r4] 2), (r3, listOf #[Value.bool b3, Value.ref rr3] 0), (rr3, listOf (nlVs gl3).toArray rc3), (r4, listOf #[Value.bool b4, Value.ref rr4] 0), (rr4, listOf (nlVs gl4).toArray rc4), (Dt, listOf #[Value.ref r1, Value.ref r2] 0), (r1, listOf #[Value.bool ring1, Value.ref rr1] 0), (rr1, listOf (glVs gl1).toArray rc1), (r2, listOf #[Value.bool ring2, Value.ref rr2] 0), (rr2, listOf (glVs gl2).toArray rc2), (l1a, listOf (fs.map sV).toArray 0), (s₁.heap.objs.size + 1 + 1 + 1 + 1 + 1 + 1 + 1, oSq), (s₁.heap.objs.size + 1 + 1 + 1 + 1 + 1 + 1, oQq), (s₁.heap.objs.size + 1 + 1 + 1 + 1 + 1, oN), (s₁.heap.objs.size + 1 + 1 + 1 + 1, oWq), (s₁.heap.objs.size + 1 + 1 + 1, qL), (s₁.heap.objs.size + 1 + 1, qA), (s₁.heap.objs.size + 1, qB)] ++ (glsOf gl1 ++ (glsOf gl2 ++ (nlsOf gl3 ++ (nlsOf gl4 ++ (elsOf es ++ glsOf gs))))) := by
    have h1 : (RA, listOf (nlVs glA).toArray cA) ∈ [(Du, listOf #[Value.ref r3, Value.ref r4] 2), (r3, listOf #[Value.bool b3, Value.ref rr3] 0), (rr3, listOf (nlVs gl3).toArray rc3), (r4, listOf #[Value.bool b4, Value.ref rr4] 0), (rr4, listOf (nlVs gl4).toArray rc4), (Dt, listOf #[Value.ref r1, Value.ref r2] 0), (r1, listOf #[Value.bool ring1, Value.ref rr1] 0), (rr1, listOf (glVs gl1).toArray rc1), (r2, listOf #[Value.bool ring2, Value.ref rr2] 0), (rr2, listOf (glVs gl2).toArray rc2), (l1a, listOf (fs.map sV).toArray 0), (s₁.heap.objs.size + 1 + 1 + 1 + 1 + 1 + 1 + 1, oSq), (s₁.heap.objs.size + 1 + 1 + 1 + 1 + 1 + 1, oQq), (s₁.heap.objs.size + 1 + 1 + 1 + 1 + 1, oN), (s₁.heap.objs.size + 1 + 1 + 1 + 1, oWq), (s₁.heap.objs.size + 1 + 1 + 1, qL), (s₁.heap.objs.size + 1 + 1, qA), (s₁.heap.objs.size + 1, qB)] ++ (glsOf gl1 ++ (glsOf gl2 ++ (nlsOf gl3 ++ (nlsOf gl4 ++ elsOf es)))) := hRA
    refine sub_of ?_ h1
    (try dsimp only [List.cons_append, List.nil_append])
    walk_at "sub"
   have hRA3 : (RA, listOf (nlVs glA).toArray cA) ∈ [(I, oIq), (C, oC), (D, lst (es.map (fun e => Value.ref e.ad))), (Du, listOf #[Value.ref r3, Value.ref r4] 2), (r3, listOf #[Value.bool b3, Value.ref rr3] 0), (rr3, listOf (nlVs gl3).toArray rc3), (r4, listOf #[Value.bool b4, Value.ref rr4] 0), (rr4, listOf (nlVs gl4).toArray rc4), (Dt, listOf #[Value.ref r1, Value.ref r2] 0), (r1, listOf #[Value.bool ring1, Value.ref rr1] 0), (rr1, listOf (glVs gl1).toArray rc1), (r2, listOf #[Value.bool ring2, Value.ref rr2] 0), (rr2, listOf (glVs gl2).toArray rc2), (l1a, listOf (fs.map sV).toArray 0), (s₁.heap.objs.size + 1 + 1 + 1 + 1 + 1 + 1 + 1, oSq), (s₁.heap.objs.size + 1 + 1 + 1 + 1 + 1 + 1, oQq), (s₁.heap.objs.size + 1 + 1 + 1 + 1 + 1, oN), (s₁.heap.objs.size + 1 + 1 + 1 + 1, oWq), (s₁.heap.objs.size + 1 + 1 + 1, qL), (s₁.heap.objs.size + 1 + 1, qA), (s₁.heap.objs.size + 1, qB)] ++ ((glsOf gl1 ++ (glsOf gl2 ++ (nlsOf gl3 ++ (nlsOf gl4 ++ (elsOf es ++ glsOf gs))))) ++ [(D4, lst (fq.map sV))]) := by
    rcases List.mem_append.mp hRA2 with h | h
    ·exact List.mem_append_left _ (tl3 h)
    ·exact List.mem_append_right _ (List.mem_append_left _ h)
   refine comp_snoc [(I, oIq), (C, oC), (D, lst (es.map (fun e => Value.ref e.ad))), (Du, listOf #[Value.ref r3, Value.ref r4] 2), (r3, listOf #[Value.bool b3, Value.ref rr3] 0), (rr3, listOf (nlVs gl3).toArray rc3), (r4, listOf #[Value.bool b4, Value.ref rr4] 0), (rr4, listOf (nlVs gl4).toArray rc4), (Dt, listOf #[Value.ref r1, Value.ref r2] 0), (r1, listOf #[Value.bool ring1, Value.ref rr1] 0), (rr1, listOf (glVs gl1).toArray rc1), (r2, listOf #[Value.bool ring2, Value.ref rr2] 0), (rr2, listOf (glVs gl2).toArray rc2), (l1a, listOf (fs.map sV).toArray 0), (s₁.heap.objs.size + 1 + 1 + 1 + 1 + 1 + 1 + 1, oSq), (s₁.heap.objs.size + 1 + 1 + 1 + 1 + 1 + 1, oQq), (s₁.heap.objs.size + 1 + 1 + 1 + 1 + 1, oN), (s₁.heap.objs.size + 1 + 1 + 1 + 1, oWq), (s₁.heap.objs.size + 1 + 1 + 1, qL), (s₁.heap.objs.size + 1 + 1, qA), (s₁.heap.objs.size + 1, qB)] (glsOf gl1 ++ (glsOf gl2 ++ (nlsOf gl3 ++ (nlsOf gl4 ++ (elsOf es ++ glsOf gs))))) F5 N5 off4 ⟨(o5 _ (.head _)).symm, (o5 _ (.tail _ (.head _))).symm, (o5 _ (tl2 (.head _))).symm⟩ (.inr ⟨_, hRA3, rfl, _, rfl⟩)
    (ih2 _ _ ⟨gs ++ [⟨D4, fq, (fq.map sV).length⟩], by unfold glVs; rw [List.map_append]; rfl, ?_, by rw [gls_snoc]; simp only [List.append_assoc, List.cons_append, List.nil_append], fun q hq => ?_⟩)
   ·have hgn : (nlNs glA)[i2]? = some (g0.js.map (·.1)) := by unfold nlNs; rw [List.getElem?_map, hg0]; rfl
    rw [takeS hgn, List.map_append, ← hgs, List.map_cons, List.map_nil]
    unfold glNs
    rw [List.map_append, List.map_cons, List.map_nil, hfq]
   ·rw [gls_snoc] at hq
    rcases List.mem_append.mp hq with hq | hq
    ·exact hgo q hq
    ·rw [List.mem_singleton.mp hq]
     exact ⟨(o5 (I, oIq) (tl3 (.head _))).symm, (o5 (C, oC) (tl4 (.head _))).symm, (o5 (D, lst (es.map (fun e => Value.ref e.ad))) (tl4 (.tail _ (.head _)))).symm⟩
@[irreducible] def e21_S := e21_st.p
theorem e21_eq : e21_S = e21_st.p := by unfold e21_S; rfl
abbrev e21_u (z9 : (Heap × Nat × Nat × (List (Str × Tok)) × Addr × Obj) × (Addr × Obj × Addr × (Str → Option Value) × Heap × Nat) × ((Value → Shared → Prop) × Nat × (Str × Tok) × Int × Tok)) : Prop := u5 (u6 (u6 e21_S z9.1) z9.2.1) z9.2.2
def e21_c := eps (by walk_at "ne") e21_u
namespace Ke21
@[irreducible] def ggB := e21_c.1.1
@[irreducible] def k3 := e21_c.1.2.1
@[irreducible] def i3 := e21_c.1.2.2.1
@[irreducible] def fq := e21_c.1.2.2.2.1
@[irreducible] def I3 := e21_c.1.2.2.2.2.1
@[irreducible] def oI3 := e21_c.1.2.2.2.2.2
@[irreducible] def C3 := e21_c.2.1.1
@[irreducible] def oC3 := e21_c.2.1.2.1
@[irreducible] def D3 := e21_c.2.1.2.2.1
@[irreducible] def m4 := e21_c.2.1.2.2.2.1
@[irreducible] def h3 := e21_c.2.1.2.2.2.2.1
@[irreducible] def tk3 := e21_c.2.1.2.2.2.2.2
@[irreducible] def E3 := e21_c.2.2.1
@[irreducible] def kk := e21_c.2.2.2.1
@[irreducible] def f0 := e21_c.2.2.2.2.1
@[irreducible] def q01 := e21_c.2.2.2.2.2.1
@[irreducible] def q02 := e21_c.2.2.2.2.2.2
end Ke21
end
section
open Mine.Ka1 hiding tk1 D2 tk
open Ka2
open Mine.Ka3 hiding h3 tk3
open Ka4
open Mine.Ka5 hiding tk
open Ka6
open Mine.Ka7 hiding tk hR t1R u1R v1R h5 tk5
open Mine.Ka8 hiding tk
open Mine.Ka9 hiding hR t1R u1R v1R tk
open Kb1
open Mine.Kb2 hiding h
open Kc21
open Kd21
open Ke21
theorem e21_1 : e21_S Ke21.ggB Ke21.k3 Ke21.i3 Ke21.fq Ke21.I3 Ke21.oI3 Ke21.C3 Ke21.oC3 Ke21.D3 Ke21.m4 Ke21.h3 Ke21.tk3 Ke21.E3 Ke21.kk Ke21.f0 Ke21.q01 Ke21.q02 := by
 unfold e21_S e21_st
 dsimp only
 intro hg KX T B TE TW M hL r0 hI hc63 hct hC5 dB dA dL l5 l4 l3 l2 hcu hcl ecl hcv hcvl hxs hxl hlks hfs hrl hgl hlo v1a3 ltx hsD v1a6 hoD hldG hlo2 e5 nDl nDr dW hwl nWy hwl5 hll hlg hl8 nDN hNT c5 dN v1a9 hks v1b1 K0 c6 o5f dQ a0 a1 v1a8 v2b1 nrX hans2 c7z nr7 dS v3b1 hzs hzl hal v1c21 hGd hG hG8 v4b1 v5b1 v6b1 v7b1 hE1 hgl1 hring1 rgR hfp v1b2 hsub hG2 hfl v8b1 v9b1 v10b1 v11b1 hE2 hgl2 hring2 FB hps hpl NB hGi hGn hGp hGk hkn hkl hll8 v11b2 v12b2 hE3 hgl3 hb3 hv v15b2 hE4 hgl4 hb4 F6 N6 hfs5 hb34 hF3 hF4 hj3 hj4 hs3 hs4 hi hC hel hes off hkp hpa hpb hRA hgA hjA hsA hdA ih2 hC2 nes4 hgs hgo off4 hg0 hv2 hx2 hg0m hgz hfq ih3 hC3 F5 N5 off5 hk5 hf0 hq0 hv3 hx3 v1e21 hf1 hkq
 k_steps
 refine stop_un ?_
 refine kim_list (l := fs.map sV) (lo := listOf (fs.map sV).toArray 0) N5 (by (walk_at "hd")) rfl rfl (by rw [hkq]; omega) (by rw [hkq]; omega) (x := sV f0) (by rw [hkq, Int.toNat_natCast, List.getElem?_map, hf0]; rfl) ?_
 k_steps
 refine stop_un ?_
 refine CompEnd.intro F5 N5 _ (fun _ h => h) off5 (.inr ⟨_, hgz, rfl, _, rfl⟩) (ih3 _ ⟨fq ++ [f0], by rw [List.map_append]; rfl, ?_⟩)
 rw [List.take_add_one, List.getElem?_map, hq0, List.map_append, List.map_append, hfq]
 simp only [Option.map_some, Option.toList_some, List.map_cons, List.map_nil]
 rw [← hf1]
end
section
open Mine.Ka1 hiding tk1 D2 tk
open Ka2
open Ka3
open Ka4
open Mine.Ka5 hiding tk
open Ka6
open Mine.Ka7 hiding tk hR t1R u1R v1R h5 tk5
open Mine.Ka8 hiding tk
open Mine.Ka9 hiding hR t1R u1R v1R tk
open Kb1
open Mine.Kb2 hiding h
open Kc21
open Kd21
theorem e21_all (ggB k3 i3 fq I3 oI3 C3 oC3 D3 m4 h3 tk3 E3 kk f0 q01 q02) : e21_S ggB k3 i3 fq I3 oI3 C3 oC3 D3 m4 h3 tk3 E3 kk f0 q01 q02 :=
 eps_all (S := e21_u) e21_c rfl (by have := e21_1; with_unfolding_all assumption) ((ggB, k3, i3, fq, I3, oI3), (C3, oC3, D3, m4, h3, tk3), (E3, kk, f0, q01, q02))
theorem d21_1 : d21_S Kd21.ggA Kd21.k2 Kd21.i2 Kd21.I2 Kd21.oI2 Kd21.C2 Kd21.oC2 Kd21.D2 Kd21.m3 Kd21.h2 Kd21.tk2 Kd21.E2 Kd21.gs Kd21.g0 :=
 stg_go e21_st e21_eq e21_all
end
section
open Mine.Ka1 hiding tk1 tk
open Ka2
open Ka3
open Ka4
open Mine.Ka5 hiding tk
open Ka6
open Mine.Ka7 hiding tk hR t1R u1R v1R h5 tk5
open Mine.Ka8 hiding tk
open Mine.Ka9 hiding hR t1R u1R v1R tk
open Kb1
open Mine.Kb2 hiding h
open Kc21
theorem d21_all (ggA k2 i2 I2 oI2 C2 oC2 D2 m3 h2 tk2 E2 gs g0) : d21_S ggA k2 i2 I2 oI2 C2 oC2 D2 m3 h2 tk2 E2 gs g0 :=
 eps_all (S := d21_u) d21_c rfl (by have := d21_1; with_unfolding_all assumption) ((ggA, k2, i2, I2, oI2, C2), (oC2, D2, m3, h2, tk2, E2), (gs, g0))
theorem c21_1 : c21_S Kc21.mq Kc21.i Kc21.I Kc21.oIq Kc21.C Kc21.oC Kc21.D Kc21.m₂ Kc21.h Kc21.tk' Kc21.E' Kc21.es Kc21.bA Kc21.RA Kc21.cA Kc21.glA :=
 stg_go d21_st d21_eq d21_all
end
section
open Mine.Ka1 hiding tk1 tk
open Ka2
open Ka3
open Ka4
open Mine.Ka5 hiding tk
open Ka6
open Mine.Ka7 hiding tk hR t1R u1R v1R h5 tk5
open Mine.Ka8 hiding tk
open Mine.Ka9 hiding hR t1R u1R v1R tk
open Kb1
open Kb2
@[irreducible] def f21_S := c21_st.q
theorem f21_eq : f21_S = c21_st.q := by unfold f21_S; rfl
abbrev f21_u (z9 : (Str → Option Value) × Addr × Heap × Nat × (List EL)) : Prop := u5 f21_S z9
def f21_c := eps (by walk_at "ne") f21_u
namespace Kf21
@[irreducible] def mq := f21_c.1
@[irreducible] def Dz := f21_c.2.1
@[irreducible] def hz := f21_c.2.2.1
@[irreducible] def tkz := f21_c.2.2.2.1
@[irreducible] def es := f21_c.2.2.2.2
end Kf21
end
section
open Mine.Ka1 hiding tk1 tk
open Ka2
open Ka3
open Ka4
open Mine.Ka5 hiding tk
open Ka6
open Mine.Ka7 hiding tk hR t1R u1R v1R h5 tk5
open Mine.Ka8 hiding tk
open Mine.Ka9 hiding hR t1R u1R v1R tk
open Kb1
open Kb2
open Kf21
theorem f21_1 : f21_S Kf21.mq Kf21.Dz Kf21.hz Kf21.tkz Kf21.es := by
 unfold f21_S c21_st
 dsimp only
 intro hg KX T B TE TW M hL r0 hI hc63 hct hC5 dB dA dL l5 l4 l3 l2 hcu hcl ecl hcv hcvl hxs hxl hlks hfs hrl hgl hlo v1a3 ltx hsD v1a6 hoD hldG hlo2 e5 nDl nDr dW hwl nWy hwl5 hll hlg hl8 nDN hNT c5 dN v1a9 hks v1b1 K0 c6 o5f dQ a0 a1 v1a8 v2b1 nrX hans2 c7z nr7 dS v3b1 hzs hzl hal v1f21 hGd hG hG8 v4b1 v5b1 v6b1 v7b1 hE1 hgl1 hring1 rgR hfp v1b2 hsub hG2 hfl v8b1 v9b1 v10b1 v11b1 hE2 hgl2 hring2 FB hps hpl NB hGi hGn hGp hGk hkn hkl hll8 v11b2 v12b2 hE3 hgl3 hb3 hv v15b2 hE4 hgl4 hb4 F6 N6 hfs5 hb34 hF3 hF4 hj3 hj4 hs3 hs4 FZ hel hes NZ
 k_steps
 refine stop_un ?_
 have hGx : G = GxS (xs.map (·.1)) := hGd
 have eFs : fs.map (·.1) = (ps.map (·.1)).map nmS := by rw [hfs, hps]; decide +kernel
 have eFp : fp.map (·.1) = (ks.map (·.1)).map nmS := by
  rw [hfp, hks, List.map_map]
  refine List.map_congr_left fun k _ => ?_
  show _ = nmS (k : Int)
  unfold nmS
  rw [Int.toNat_natCast]
 rw [hGx, eFs] at hE1 hgl1 hring1
 rw [hGx, eFp] at hE2 hgl2 hring2
 rw [hGi] at hE3 hgl3 hb3 hE4 hgl4 hb4
 have t1 := told_eq hF3 hE3 hE1
 have t2 := told_eq hF4 hE4 hE2
 rw [← hgl1, ← hgl3, ← hring1, ← hb3] at t1
 rw [← hgl2, ← hgl4, ← hring2, ← hb4] at t2
 have hes2 : es.map (fun e => (e.b, glNs e.gs)) = [(ring1, glNs gl1), (ring2, glNs gl2)] := by
  rw [hes, t1.1, t1.2, t2.1, t2.2]; rfl
 have memV : ∀ q ∈ [(Du, listOf #[Value.ref r3, Value.ref r4] 2), (r3, listOf #[Value.bool b3, Value.ref rr3] 0), (rr3, listOf (nlVs gl3).toArray rc3), (r4, listOf #[Value.bool b4, Value.ref rr4] 0), (rr4, listOf (nlVs gl4).toArray rc4), (Dt, listOf #[Value.ref r1, Value.ref r2] 0), (r1, listOf #[Value.bool ring1, Value.ref rr1] 0), (rr1, listOf (glVs gl1).toArray rc1), (r2, listOf #[Value.bool ring2, Value.ref rr2] 0), (rr2, listOf (glVs gl2).toArray rc2), (l1a, listOf (fs.map sV).toArray 0), (s₁.heap.objs.size + 1 + 1 + 1 + 1 + 1 + 1 + 1, oSq), (s₁.heap.objs.size + 1 + 1 + 1 + 1 + 1 + 1, oQq), (s₁.heap.objs.size + 1 + 1 + 1 + 1 + 1, oN), (s₁.heap.objs.size + 1 + 1 + 1 + 1, oWq), (s₁.heap.objs.size + 1 + 1 + 1, qL), (s₁.heap.objs.size + 1 + 1, qA), (s₁.heap.objs.size + 1, qB)] ++ (glsOf gl1 ++ (glsOf gl2 ++ (nlsOf gl3 ++ (nlsOf gl4 ++ elsOf es)))), News s₁.heap s₁.heap.objs.size hz [q] := fun q hq q' hq' => by
  rw [List.mem_singleton.mp hq']; exact NZ q (.tail _ hq)
 obtain ⟨as1, R1⟩ := reads_told (h := hz) (W := Dt) (c := 0) (l := [⟨r1, ring1, rr1, rc1, gl1⟩, ⟨r2, ring2, rr2, rc2, gl2⟩]) (NZ (Dt, listOf #[Value.ref r1, Value.ref r2] 0) (by (walk_at "hd"))).1 (fun q hq => by
  simp only [elsOf, elOf, List.flatMap_cons, List.flatMap_nil, List.append_nil, List.mem_append, List.mem_cons] at hq
  rcases hq with (rfl | rfl | hq) | (rfl | rfl | hq)
  ·exact (NZ _ (by (walk_at "hd"))).1
  ·exact (NZ _ (by (walk_at "hd"))).1
  ·exact (memV q (by simp only [List.mem_append]; exact .inr (.inl hq)) q (.head _)).1
  ·exact (NZ _ (by (walk_at "hd"))).1
  ·exact (NZ _ (by (walk_at "hd"))).1
  ·exact (memV q (by simp only [List.mem_append]; exact .inr (.inr (.inl hq))) q (.head _)).1)
 obtain ⟨as2, R2⟩ := reads_told (h := hz) (W := Dz) (c := (es.map fun e => Value.ref e.ad).length) (l := es) (NZ _ (.head _)).1 (fun q hq => (memV q (by simp only [List.mem_append]; exact .inr (.inr (.inr (.inr (.inr hq))))) q (.head _)).1)
 rw [hes2] at R2
 have hsh : SeqAt.shaped (tdD [(ring1, glNs gl1), (ring2, glNs gl2)]) = true := by
  refine shaped_td fun p hp g hg x hx => ?_
  have key : ∀ (F : List Int) (n : Nat) (gl : List NL), (∀ a ∈ F, ∃ k : Nat, k < 5 ∧ a = (k : Int)) → nlNs gl = (stpI F (giS (xs.map (·.1))) n).1 → ∀ g ∈ (nlNs gl).map (·.map nmS), ∀ x ∈ g, x ∈ vFiles := fun F n gl hF hgl g hg x hx => by
   obtain ⟨g', hg', rfl⟩ := List.mem_map.mp hg
   obtain ⟨k, hk, rfl⟩ := List.mem_map.mp hx
   rw [hgl] at hg'
   obtain ⟨j, hj, rfl⟩ := hF k (stp1_sub n g' hg' k hk)
   unfold nmS
   rw [Int.toNat_natCast]
   exact getD_mem hj
  have hso : ∀ f ∈ vFiles, PyData.strOk f = true := by decide +kernel
  simp only [List.mem_cons, List.not_mem_nil, or_false] at hp
  rcases hp with rfl | rfl
  ·have hg : g ∈ glNs gl1 := hg
   rw [t1.1] at hg
   exact hso x (key _ _ _ hF3 hgl3 g hg x hx)
  ·have hg : g ∈ glNs gl2 := hg
   rw [t2.1] at hg
   exact hso x (key _ _ _ hF4 hgl4 g hg x hx)
 have R1 : Reads hz (.ref Dt) (tdD [(ring1, glNs gl1), (ring2, glNs gl2)]) as1 := R1
 refine eq_dataH R1 R2 hsh hsh (Nat.le_of_ble_eq_true rfl) ?_
 rw [SeqAt.eqv_refl _ (SeqAt.canLay_of_shaped hsh)]
 show GoodW _ _ _ _ _ (.ok (.ret (.bool true))) _
 refine goodW_bool FZ hg (raisesW_false ?_) ?_
 ·wrow_none_raised
 ·wrow_post
end
section
open Mine.Ka1 hiding tk1 tk
open Ka2
open Ka3
open Ka4
open Mine.Ka5 hiding tk
open Ka6
open Mine.Ka7 hiding tk hR t1R u1R v1R h5 tk5
open Mine.Ka8 hiding tk
open Mine.Ka9 hiding hR t1R u1R v1R tk
open Kb1
open Kb2
theorem c21_all (mq i I oIq C oC D m₂ h tk' E' es bA RA cA glA) : c21_S mq i I oIq C oC D m₂ h tk' E' es bA RA cA glA :=
 eps_all (S := c21_u) c21_c rfl (by have := c21_1; with_unfolding_all assumption) ((mq, i, I, oIq, C, oC), (D, m₂, h, tk', E', es), (bA, RA, cA, glA))
theorem f21_all (mq Dz hz tkz es) : f21_S mq Dz hz tkz es :=
 eps_all (S := f21_u) f21_c rfl (by have := f21_1; with_unfolding_all assumption) ((mq, Dz, hz, tkz, es))
theorem b2_1 : b2_S Kb2.Lp Kb2.LO Kb2.hn2 Kb2.ps Kb2.Gi Kb2.v8b2 Kb2.r3 Kb2.rr3 Kb2.b3 Kb2.rc3 Kb2.gl3 Kb2.n3 Kb2.h Kb2.r4 Kb2.rr4 Kb2.b4 Kb2.rc4 Kb2.gl4 Kb2.n4 Kb2.Du Kb2.h5 Kb2.tk5 :=
 stg_go2 c21_st c21_eq f21_eq c21_all f21_all
end
theorem b2_all (Lp LO hn2 ps Gi v8b2 r3 rr3 b3 rc3 gl3 n3 h r4 rr4 b4 rc4 gl4 n4 Du h5 tk5) : b2_S Lp LO hn2 ps Gi v8b2 r3 rr3 b3 rc3 gl3 n3 h r4 rr4 b4 rc4 gl4 n4 Du h5 tk5 :=
 eps_all (S := b2_u) b2_c rfl (by have := b2_1; with_unfolding_all assumption) ((Lp, LO, hn2, ps, Gi, v8b2), (r3, rr3, b3, rc3, gl3, n3), (h, r4, rr4, b4, rc4, gl4), (n4, Du, h5, tk5))
theorem b1_1 : b1_S Kb1.G Kb1.h1 Kb1.tk1 Kb1.g1 Kb1.r1 Kb1.rr1 Kb1.ring1 Kb1.rc1 Kb1.gl1 Kb1.n1 Kb1.hR Kb1.t1R Kb1.u1R Kb1.v1R Kb1.fp Kb1.Dq Kb1.g2 Kb1.r2 Kb1.rr2 Kb1.ring2 Kb1.rc2 Kb1.gl2 Kb1.n2 Kb1.Dt Kb1.hq2 Kb1.tk :=
 stg_go b2_st b2_eq b2_all
theorem b1_all (G h1 tk1 g1 r1 rr1 ring1 rc1 gl1 n1 hR t1R u1R v1R fp Dq g2 r2 rr2 ring2 rc2 gl2 n2 Dt hq2 tk) : b1_S G h1 tk1 g1 r1 rr1 ring1 rc1 gl1 n1 hR t1R u1R v1R fp Dq g2 r2 rr2 ring2 rc2 gl2 n2 Dt hq2 tk :=
 eps_all (S := b1_u) b1_c rfl (by have := b1_1; with_unfolding_all assumption) ((G, h1, tk1, g1, r1, rr1), (ring1, rc1, gl1, n1, hR, t1R), (u1R, v1R, fp, Dq, g2, r2), (rr2, ring2, rc2, gl2, n2, Dt), (hq2, tk))
theorem a9_1 : a9_S Ka9.hq1 Ka9.oSq Ka9.v2a9 Ka9.hR Ka9.t1R Ka9.u1R Ka9.v1R Ka9.zs Ka9.hn8 Ka9.tk :=
 stg_go b1_st b1_eq b1_all
theorem a9_all (hq1 oSq v2a9 hR t1R u1R v1R zs hn8 tk) : a9_S hq1 oSq v2a9 hR t1R u1R v1R zs hn8 tk :=
 eps_all (S := a9_u) a9_c rfl (by have := a9_1; with_unfolding_all assumption) ((hq1, oSq, v2a9, hR, t1R, u1R), (v1R, zs, hn8, tk))
theorem a8_1 : a8_S Ka8.oQq Ka8.tk Ka8.f1 Ka8.f2 Ka8.f3 Ka8.fL Ka8.h6 Ka8.h7 Ka8.tk7 Ka8.ra Ka8.ans Ka8.c7 :=
 stg_go a9_st a9_eq a9_all
theorem a8_all (oQq tk f1 f2 f3 fL h6 h7 tk7 ra ans c7) : a8_S oQq tk f1 f2 f3 fL h6 h7 tk7 ra ans c7 :=
 eps_all (S := a8_u) a8_c rfl (by have := a8_1; with_unfolding_all assumption) ((oQq, tk, f1, f2, f3, fL), (h6, h7, tk7, ra, ans, c7))
theorem a7_1 : a7_S Ka7.hNa Ka7.oN Ka7.tk Ka7.hR Ka7.t1R Ka7.u1R Ka7.v1R Ka7.ks Ka7.DK Ka7.h5 Ka7.tk5 :=
 stg_go a8_st a8_eq a8_all
theorem a7_all (hNa oN tk hR t1R u1R v1R ks DK h5 tk5) : a7_S hNa oN tk hR t1R u1R v1R ks DK h5 tk5 :=
 eps_all (S := a7_u) a7_c rfl (by have := a7_1; with_unfolding_all assumption) ((hNa, oN, tk, hR, t1R, u1R), (v1R, ks, DK, h5, tk5))
theorem a6_1 : a6_S Ka6.DN Ka6.hn Ka6.tkn Ka6.nl :=
 stg_go a7_st a7_eq a7_all
theorem a6_all (DN hn tkn nl) : a6_S DN hn tkn nl :=
 eps_all (S := a6_u) a6_c rfl (by have := a6_1; with_unfolding_all assumption) ((DN, hn, tkn, nl))
theorem a5_1 : a5_S Ka5.Wy Ka5.hz7 Ka5.oWq Ka5.tk Ka5.wl :=
 stg_go a6_st a6_eq a6_all
theorem a5_all (Wy hz7 oWq tk wl) : a5_S Wy hz7 oWq tk wl :=
 eps_all (S := a5_u) a5_c rfl (by have := a5_1; with_unfolding_all assumption) ((Wy, hz7, oWq, tk, wl))
theorem a4_1 : a4_S Ka4.Dl Ka4.oD Ka4.hl Ka4.tkl Ka4.lds :=
 stg_go a5_st a5_eq a5_all
theorem a4_all (Dl oD hl tkl lds) : a4_S Dl oD hl tkl lds :=
 eps_all (S := a4_u) a4_c rfl (by have := a4_1; with_unfolding_all assumption) ((Dl, oD, hl, tkl, lds))
theorem a3_1 : a3_S Ka3.rl Ka3.Dr Ka3.h3 Ka3.tk3 :=
 stg_go a4_st a4_eq a4_all
theorem a3_all (rl Dr h3 tk3) : a3_S rl Dr h3 tk3 :=
 eps_all (S := a3_u) a3_c rfl (by have := a3_1; with_unfolding_all assumption) ((rl, Dr, h3, tk3))
theorem a2_1 : a2_S Ka2.cv Ka2.Dx Ka2.hx Ka2.xs Ka2.lks Ka2.fs :=
 stg_go a3_st a3_eq a3_all
theorem a2_all (cv Dx hx xs lks fs) : a2_S cv Dx hx xs lks fs :=
 eps_all (S := a2_u) a2_c rfl (by have := a2_1; with_unfolding_all assumption) ((cv, Dx, hx, xs, lks, fs))
theorem a1_1 : a1_S Ka1.w Ka1.s₀ Ka1.s₁ Ka1.mg Ka1.mb Ka1.fa Ka1.pm Ka1.doc Ka1.wa Ka1.wo Ka1.wb Ka1.sc Ka1.wd Ka1.wf Ka1.vs Ka1.tk1 Ka1.o7 Ka1.o6 Ka1.o5 Ka1.o4 Ka1.D1 Ka1.l1a Ka1.D2 Ka1.qB Ka1.qA Ka1.tkA Ka1.lK Ka1.hA Ka1.qL Ka1.tk Ka1.m0 Ka1.cu :=
 stg_go a2_st a2_eq a2_all
theorem a1_all (w s₀ s₁ mg mb fa pm doc wa wo wb sc wd wf vs tk1 o7 o6 o5 o4 D1 l1a D2 qB qA tkA lK hA qL tk m0 cu) : a1_S w s₀ s₁ mg mb fa pm doc wa wo wb sc wd wf vs tk1 o7 o6 o5 o4 D1 l1a D2 qB qA tkA lK hA qL tk m0 cu :=
 eps_all (S := a1_u) a1_c rfl (by have := a1_1; with_unfolding_all assumption) ((w, s₀, s₁, mg, mb, fa), (pm, doc, wa, wo, wb, sc), (wd, wf, vs, tk1, o7, o6), (o5, o4, D1, l1a, D2, qB), (qA, tkA, lK, hA, qL, tk), (m0, cu))
theorem thelaw : hdP.1 :=
 stg_go a1_st a1_eq a1_all
end Mine
end
theorem PySem.Challenge.cw_ik0152_01_holds : PySem.Challenge.rw_ik0152_01.Holds :=
  Mine.hdP.2 Mine.thelaw
