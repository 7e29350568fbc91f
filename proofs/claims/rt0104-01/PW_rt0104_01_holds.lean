import PyProof.Rows.All
import Wide.All
import OpenK.AllK
import Wide.FinOn
import Lean
import PySem.Challenge.RW_rt0104_01
set_option Elab.async false
set_option maxRecDepth 100000
set_option linter.unusedVariables false
set_option linter.unusedSimpArgs false
set_option maxHeartbeats 0
set_option compiler.extract_closed false
set_option genInjectivity false
set_option genSizeOf false
namespace Mine
open PySem PySem.W PyProof.Rows PySem.Calls
noncomputable abbrev VP := Value → Shared → Prop
noncomputable abbrev FP := Flow → Shared → Prop
noncomputable abbrev SM := Str → Option Value
noncomputable abbrev LD := List (Addr × Obj)
noncomputable abbrev SV := List (Str × Value)
noncomputable abbrev OV := List (Option Value)
noncomputable def PG : Program := PySem.Challenge.pw_rt0104_01
noncomputable def nS (i : Nat) (l : List Stmt) : Stmt := match l.drop i with | s :: _ => s | [] => .Return none default
noncomputable def sT (i : Nat) : Stmt := nS i PG.main.body
noncomputable def mT (i j : Nat) : Stmt := match sT i with | .ClassDef _ _ _ b .. => nS j b | s => s
noncomputable def fo (st : Stmt) (q : Str) (d m : Value) (c : Addr) : Obj := match st with
 | .FunctionDef n ps b _ _ _ sc _ _ _ => ⟨.type "function", none, .func { name := n, qualname := q, params := ps, body := .stmts b, scope := sc, globals := 3, closure := [], defaults := d, kwdefaults := .none, pyModule := m, code := .ref c }, #[]⟩
 | _ => default
noncomputable def co (n q : Str) (t : Tok) (line args flags : Int) (a b : Addr) (x y z : Value) (c : Addr) (k : Nat) : Obj := ⟨.type "code", none, .fields #[.str n t, .str q (t + 1), .str "/claim/cut.py" (t + 2), .int line 0, .int args 0, .int 0 0, .int 0 0, .int flags 0, .ref a, .bool true, .int 181 0, .ref b, x, y, z, .ref c, .int k 0, .int line 0, .str "/claim/cut.py" (k + 1)], #[]⟩
noncomputable def en (P : Params) (x : Str) (t : Tok) (v : Value) : DictEntry := ⟨PyData.keyHash P x, .str x t, v⟩
noncomputable def di (l : List DictEntry) (n : Nat) : Obj := ⟨.type "dict", none, .dict l.toArray n, #[]⟩
noncomputable def hK : Params → Frag := fun P =>
 (nat_lit 3, di [en P "__name__" 165 (.str "law_rt0104_01" 596), en P "__doc__" 166 (.none), en P "__package__" 167 (.none), en P "__loader__" 168 (.builtin "__main__.__loader__#opaque"), en P "__spec__" 169 (.none), en P "__annotations__" 170 (.ref 6), en P "__builtins__" 171 (.ref 4), en P "__file__" 173 (.str "/claim/cut.py" 172), en P "__cached__" 174 (.none), en P "_wall" 193 (.ref 21), en P "_NODE_OUT" 198 (.int (-1) 197), en P "_NODE_DONE" 201 (.int (-2) 200), en P "_NodeInfo" 238 (.ref 40), en P "CycleError" 256 (.ref 55), en P "TopologicalSorter" 375 (.ref 137), en P "_DIV_LIMIT" 379 (.int 4000 378), en P "_div2n1n" 396 (.ref 148), en P "_div3n2n" 410 (.ref 155), en P "_int2digits" 421 (.ref 162), en P "_digits2int" 432 (.ref 169), en P "_divmod_pos" 447 (.ref 176), en P "int_divmod" 457 (.ref 183), en P "_plain_name" 468 (.ref 190), en P "ABCMeta" 494 (.ref 207), en P "_ABCLike" 537 (.ref 240), en P "_abc_plain_meta" 544 (.ref 249), en P "fspath" 556 (.ref 256), en P "_check_arg_types" 569 (.ref 263), en P "_get_sep" 578 (.ref 270), en P "join" 589 (.ref 277), en P "commonpath" 595 (.ref 282), en P "_law_tree" 613 (.ref 289), en P "_law_waits" 628 (.ref 296), en P "_law_ring" 640 (.ref 303), en P "_law_run" 646 (.ref 308), en P "_law_code" 656 (.ref 315), en P "_law_orders" 670 (.ref 322), en P "_law_freed" 676 (.ref 327), en P "_law_kept" 682 (.ref 332), en P "_law_size" 691 (.ref 339), en P "law" 697 (.ref 344)] 41) ::
 (nat_lit 35, co "__init__" "_NodeInfo.__init__" 218 10 2 3 30 31 (.none) (.ref 32) (.ref 33) 34 223) ::
 (nat_lit 36, fo (mT 4 1) "_NodeInfo.__init__" (.none) (.str "cpy313.graphlib" 194) 35) ::
 (nat_lit 39, di [en P "__module__" 209 (.str "cpy313.graphlib" 194), en P "__firstlineno__" 213 (.int 7 212), en P "__slots__" 217 (.ref 29), en P "__init__" 225 (.ref 36), en P "__static_attributes__" 229 (.ref 37), en P "node" 231 (.ref 41), en P "npredecessors" 233 (.ref 42), en P "successors" 235 (.ref 43), en P "__doc__" 236 (.none)] 5) ::
 (nat_lit 40, ⟨.type "type", none, .cls { name := "_NodeInfo", bases := [.type "object"], mro := [.ref 40, .type "object"], ns := 39, qualname := "_NodeInfo", hasDict := false, slotNames := ["node", "npredecessors", "successors"] }, #[none, none, some (.str "_NodeInfo" 202), some (.str "_NodeInfo" 210), some (.builtin "object.__new__"), some (.bool false)]⟩) ::
 (nat_lit 41, ⟨.type "member_descriptor", none, .fields #[.str "node" 230, .ref 40, .builtin "proto.slot", .builtin "proto.slot#set", .int 2 0], #[]⟩) ::
 (nat_lit 42, ⟨.type "member_descriptor", none, .fields #[.str "npredecessors" 232, .ref 40, .builtin "proto.slot", .builtin "proto.slot#set", .int 1 0], #[]⟩) ::
 (nat_lit 43, ⟨.type "member_descriptor", none, .fields #[.str "successors" 234, .ref 40, .builtin "proto.slot", .builtin "proto.slot#set", .int 0 0], #[]⟩) ::
 (nat_lit 54, di [en P "__module__" 246 (.str "cpy313.graphlib" 194), en P "__firstlineno__" 250 (.int 14 249), en P "__static_attributes__" 251 (.ref 53), en P "__weakref__" 253 (.ref 56), en P "__doc__" 254 (.none)] 3) ::
 (nat_lit 55, ⟨.type "type", none, .cls { name := "CycleError", bases := [.type "ValueError"], mro := [.ref 55, .type "ValueError", .type "Exception", .type "BaseException", .type "object"], ns := 54, qualname := "CycleError" }, #[some (.ref 46), none, some (.str "CycleError" 239), some (.str "CycleError" 247), some (.builtin "ValueError.__new__"), some (.bool true)]⟩) ::
 (nat_lit 66, ⟨.type "tuple", none, .seq #[.none] 0, #[]⟩) ::
 (nat_lit 72, co "__init__" "TopologicalSorter.__init__" 269 18 2 3 67 68 (.none) (.ref 69) (.ref 70) 71 276) ::
 (nat_lit 73, fo (mT 6 0) "TopologicalSorter.__init__" (.ref 66) (.str "cpy313.graphlib" 194) 72) ::
 (nat_lit 79, co "_get_nodeinfo" "TopologicalSorter._get_nodeinfo" 279 27 2 3 74 75 (.none) (.ref 76) (.ref 77) 78 285) ::
 (nat_lit 80, fo (mT 6 1) "TopologicalSorter._get_nodeinfo" (.none) (.str "cpy313.graphlib" 194) 79) ::
 (nat_lit 86, co "add" "TopologicalSorter.add" 288 32 2 7 81 82 (.none) (.ref 83) (.ref 84) 85 297) ::
 (nat_lit 87, fo (mT 6 2) "TopologicalSorter.add" (.none) (.str "cpy313.graphlib" 194) 86) ::
 (nat_lit 91, co "prepare" "TopologicalSorter.prepare" 300 41 1 3 88 89 (.none) (.none) (.none) 90 303) ::
 (nat_lit 92, fo (mT 6 3) "TopologicalSorter.prepare" (.none) (.str "cpy313.graphlib" 194) 91) ::
 (nat_lit 98, co "get_ready" "TopologicalSorter.get_ready" 306 49 1 3 93 94 (.none) (.ref 95) (.ref 96) 97 313) ::
 (nat_lit 99, fo (mT 6 4) "TopologicalSorter.get_ready" (.none) (.str "cpy313.graphlib" 194) 98) ::
 (nat_lit 105, co "is_active" "TopologicalSorter.is_active" 316 60 1 3 100 101 (.none) (.ref 102) (.ref 103) 104 320) ::
 (nat_lit 106, fo (mT 6 5) "TopologicalSorter.is_active" (.none) (.str "cpy313.graphlib" 194) 105) ::
 (nat_lit 119, co "done" "TopologicalSorter.done" 330 68 1 7 114 115 (.none) (.ref 116) (.ref 117) 118 341) ::
 (nat_lit 120, fo (mT 6 7) "TopologicalSorter.done" (.none) (.str "cpy313.graphlib" 194) 119) ::
 (nat_lit 126, co "_find_cycle" "TopologicalSorter._find_cycle" 344 91 1 3 121 122 (.none) (.ref 123) (.ref 124) 125 354) ::
 (nat_lit 127, fo (mT 6 8) "TopologicalSorter._find_cycle" (.none) (.str "cpy313.graphlib" 194) 126) ::
 (nat_lit 136, di [en P "__module__" 264 (.str "cpy313.graphlib" 194), en P "__firstlineno__" 268 (.int 16 267), en P "__init__" 278 (.ref 73), en P "_get_nodeinfo" 287 (.ref 80), en P "add" 299 (.ref 87), en P "prepare" 305 (.ref 92), en P "get_ready" 315 (.ref 99), en P "is_active" 322 (.ref 106), en P "__bool__" 329 (.ref 113), en P "done" 343 (.ref 120), en P "_find_cycle" 356 (.ref 127), en P "static_order" 363 (.ref 134), en P "__static_attributes__" 368 (.ref 135), en P "__dict__" 370 (.ref 138), en P "__weakref__" 372 (.ref 139), en P "__doc__" 373 (.none)] 4) ::
 (nat_lit 137, ⟨.type "type", none, .cls { name := "TopologicalSorter", bases := [.type "object"], mro := [.ref 137, .type "object"], ns := 136, qualname := "TopologicalSorter" }, #[none, none, some (.str "TopologicalSorter" 257), some (.str "TopologicalSorter" 265), some (.builtin "object.__new__"), some (.bool true)]⟩) ::
 (nat_lit 147, co "_div2n1n" "_div2n1n" 380 124 3 3 142 143 (.none) (.ref 144) (.ref 145) 146 394) ::
 (nat_lit 148, fo (sT 9) "_div2n1n" (.none) (.str "cpy313._pylong" 376) 147) ::
 (nat_lit 161, co "_int2digits" "_int2digits" 411 150 2 3 156 157 (.none) (.ref 158) (.ref 159) 160 419) ::
 (nat_lit 162, fo (sT 11) "_int2digits" (.none) (.str "cpy313._pylong" 376) 161) ::
 (nat_lit 168, co "_digits2int" "_digits2int" 422 166 2 3 163 164 (.none) (.ref 165) (.ref 166) 167 430) ::
 (nat_lit 169, fo (sT 12) "_digits2int" (.none) (.str "cpy313._pylong" 376) 168) ::
 (nat_lit 175, co "_divmod_pos" "_divmod_pos" 433 175 2 3 170 171 (.none) (.ref 172) (.ref 173) 174 445) ::
 (nat_lit 176, fo (sT 13) "_divmod_pos" (.none) (.str "cpy313._pylong" 376) 175) ::
 (nat_lit 182, co "int_divmod" "int_divmod" 448 186 2 3 177 178 (.none) (.ref 179) (.ref 180) 181 455) ::
 (nat_lit 183, fo (sT 14) "int_divmod" (.none) (.str "cpy313._pylong" 376) 182) ::
 (nat_lit 255, co "fspath" "fspath" 547 228 1 3 250 251 (.none) (.ref 252) (.ref 253) 254 554) ::
 (nat_lit 256, fo (sT 23) "fspath" (.none) (.str "os" 545) 255) ::
 (nat_lit 262, co "_check_arg_types" "_check_arg_types" 559 245 1 7 257 258 (.none) (.ref 259) (.ref 260) 261 567) ::
 (nat_lit 263, fo (sT 25) "_check_arg_types" (.none) (.str "cpy313.genericpath" 557) 262) ::
 (nat_lit 269, co "_get_sep" "_get_sep" 572 257 1 3 264 265 (.none) (.ref 266) (.ref 267) 268 576) ::
 (nat_lit 270, fo (sT 27) "_get_sep" (.none) (.str "cpy313.posixpath" 570) 269) ::
 (nat_lit 276, co "join" "join" 579 262 1 7 271 272 (.none) (.ref 273) (.ref 274) 275 587) ::
 (nat_lit 277, fo (sT 28) "join" (.none) (.str "cpy313.posixpath" 570) 276) ::
 (nat_lit 281, co "commonpath" "commonpath" 590 279 1 3 278 279 (.none) (.none) (.none) 280 593) ::
 (nat_lit 282, fo (sT 29) "commonpath" (.none) (.str "cpy313.posixpath" 570) 281) ::
 (nat_lit 288, co "_law_tree" "_law_tree" 598 309 1 3 283 284 (.none) (.ref 285) (.ref 286) 287 611) ::
 (nat_lit 289, fo (sT 31) "_law_tree" (.none) (.str "law_rt0104_01" 596) 288) ::
 (nat_lit 295, co "_law_waits" "_law_waits" 614 324 2 3 290 291 (.none) (.ref 292) (.ref 293) 294 626) ::
 (nat_lit 296, fo (sT 32) "_law_waits" (.none) (.str "law_rt0104_01" 596) 295) ::
 (nat_lit 302, co "_law_ring" "_law_ring" 629 337 2 3 297 298 (.none) (.ref 299) (.ref 300) 301 638) ::
 (nat_lit 303, fo (sT 33) "_law_ring" (.none) (.str "law_rt0104_01" 596) 302) ::
 (nat_lit 307, co "_law_run" "_law_run" 641 345 3 3 304 305 (.none) (.none) (.none) 306 644) ::
 (nat_lit 308, fo (sT 34) "_law_run" (.none) (.str "law_rt0104_01" 596) 307) ::
 (nat_lit 314, co "_law_code" "_law_code" 647 362 2 3 309 310 (.none) (.ref 311) (.ref 312) 313 654) ::
 (nat_lit 315, fo (sT 35) "_law_code" (.none) (.str "law_rt0104_01" 596) 314) ::
 (nat_lit 321, co "_law_orders" "_law_orders" 657 367 3 3 316 317 (.none) (.ref 318) (.ref 319) 320 668) ::
 (nat_lit 322, fo (sT 36) "_law_orders" (.none) (.str "law_rt0104_01" 596) 321) ::
 (nat_lit 326, co "_law_freed" "_law_freed" 671 378 2 3 323 324 (.none) (.none) (.none) 325 674) ::
 (nat_lit 327, fo (sT 37) "_law_freed" (.none) (.str "law_rt0104_01" 596) 326) ::
 (nat_lit 331, co "_law_kept" "_law_kept" 677 384 4 3 328 329 (.none) (.none) (.none) 330 680) ::
 (nat_lit 332, fo (sT 38) "_law_kept" (.none) (.str "law_rt0104_01" 596) 331) ::
 (nat_lit 338, co "_law_size" "_law_size" 683 392 1 3 333 334 (.none) (.ref 335) (.ref 336) 337 689) ::
 (nat_lit 339, fo (sT 39) "_law_size" (.none) (.str "law_rt0104_01" 596) 338) ::
 (nat_lit 343, co "law" "law" 692 397 1 3 340 341 (.none) (.none) (.none) 342 695) ::
 (nat_lit 344, fo (sT 40) "law" (.none) (.str "law_rt0104_01" 596) 343) :: []
noncomputable def asK : List Addr := [3, 35, 36, 39, 40, 41, 42, 43, 54, 55, 66, 72, 73, 79, 80, 86, 87, 91, 92, 98, 99, 105, 106, 119, 120, 126, 127, 136, 137, 147, 148, 161, 162, 168, 169, 175, 176, 182, 183, 255, 256, 262, 263, 269, 270, 276, 277, 281, 282, 288, 289, 295, 296, 302, 303, 307, 308, 314, 315, 321, 322, 326, 327, 331, 332, 338, 339, 343, 344]
noncomputable def vw : Program := view PG [40]
noncomputable def lse : List Str := ["_wall", "_NODE_OUT", "_NODE_DONE", "_NodeInfo", "CycleError", "TopologicalSorter", "_DIV_LIMIT", "_div2n1n", "_div3n2n", "_int2digits", "_digits2int", "_divmod_pos", "int_divmod", "_plain_name", "ABCMeta", "_ABCLike", "_abc_plain_meta", "fspath", "_check_arg_types", "_get_sep", "join", "commonpath", "_law_tree", "_law_waits", "_law_ring", "_law_run", "_law_code", "_law_orders", "_law_freed", "_law_kept", "_law_size"]
noncomputable def HK : Hook := kmHook hK asK (fun _ => by kernel_rfl) [164, 157]
theorem lookP {α : Type} {p q : Program} {loose : List Str} {Xt : Shared → Bool} {Yf : Shared → α} {Ya : World → α} {N M : Nat} {g0 : Bool} {H0 : Params → Heap} {gs0 : Array GenState} {d0 : Drawn} {k_0 m0 : Nat} {ann : Option Value}
  (open_ : ∀ w : World, (fencedOpening treeTable p w N).map (fun s => (s.heap, s.gens, s.drawn, s.toks)) = some (H0 w.params, gs0, d0, k_0))
  (size : ∀ w : World, ((H0 w.params).isNs mainGlobals && gs0.size == 0, (H0 w.params).objs.size, (H0 w.params).nsMap mainGlobals "__annotations__") = (true, m0, ann))
  (run : ∀ (w : World) (os : OsState), (topRun treeTable p w m0 ann M ⟨H0 w.params, gs0, d0, k_0, os⟩ (topStub p)).map (fun s => ((staticsOk (importedModules p.main.body) (H0 w.params) s.heap && namesBound p s.heap && gensDone s && laidKept (H0 w.params) s.heap),
    openSeen q loose (importedModules p.main.body) Xt g0 s, Yf s)) = some (true, openGood q loose, Ya w)) (le : Nat.ble M N = true) : LeftO p q loose Xt Yf Ya N g0 := fun w => by
 obtain ⟨⟨h, gs, d, k, os⟩, e, e'⟩ := Option.map_eq_some_iff.mp (open_ w)
 obtain ⟨rfl, rfl, rfl, rfl⟩ : h = H0 w.params ∧ gs = gs0 ∧ d = d0 ∧ k = k_0 := by simpa using e'
 obtain ⟨z1, z2, z3⟩ : _ ∧ _ ∧ _ := by simpa only [Prod.mk.injEq] using size w
 obtain ⟨s_1, r, l⟩ := Option.map_eq_some_iff.mp (run w os)
 obtain ⟨l1, l2, l3⟩ : _ ∧ _ ∧ _ := by simpa only [Prod.mk.injEq] using l
 replace r := topRun_mono (N - M) _ _ _ _ r
 rw [show M + (N - M) = N by have := Nat.le_of_ble_eq_true le; omega] at r
 have t : topFrom treeTable p w N ⟨H0 w.params, gs, d, k, os⟩ = some s_1 := by
  unfold topFrom
  dsimp only
  rw [z1, z2, z3, r]
  show (match staticsOk (importedModules p.main.body) (H0 w.params) s_1.heap && namesBound p s_1.heap && gensDone s_1 && laidKept (H0 w.params) s_1.heap with | true => _ | false => _) = _
  rw [l1]
 unfold openEnds
 rw [e]
 show (topFrom treeTable p w N _).map _ = _
 rw [t]
 exact congrArg some (Prod.ext l2 l3)
noncomputable def XT : Shared → Bool := fun s => xlAt vw [] s && recOk (RowW.records PySem.Challenge.rw_rt0104_01.row.toRowW) s
theorem fenced (s : Shared) : fenceModules? PG s = some s := by kernel_rfl
theorem opn : opening PG = plainProg PG.main.scope.names := by kernel_rfl
theorem sized (w : World) : ((boot_heap w.params).isNs mainGlobals && (Array.mk [] : Array GenState).size == 0, (boot_heap w.params).objs.size, (boot_heap w.params).nsMap mainGlobals "__annotations__") = (true, 11, some (.ref 6)) := by kernel_rfl
theorem runs (w : World) (os : OsState) : (PySem.W.Fast.tw14082659384304107361 PySem.W.Fast.tw14364793385576792824 PG w 11 (some (.ref 6)) 2400 ⟨boot_heap w.params, Array.mk [], boot_drawn, boot_toks, os⟩ (topStub PG)).map (fun s => ((staticsOk (importedModules PG.main.body) (boot_heap w.params) s.heap && namesBound PG s.heap && gensDone s && laidKept (boot_heap w.params) s.heap),
    PySem.W.Fast.tw4187177175401517315 vw lse (importedModules PG.main.body) XT true s, HK.obs s)) = some (true, openGood vw lse, HK.val w) := by kernel_rfl
theorem left : LeftO PG vw lse XT HK.obs HK.val 2400 :=
 lookP (boot_open opn rfl fenced) sized (fun w os => by
  rw [PySem.W.Fast.te14082659384304107361, PySem.W.Fast.te14364793385576792824, PySem.W.Fast.te4187177175401517315]
  exact runs w os) rfl
theorem said : PySem.Challenge.rw_rt0104_01.wellSaid = true := by
 rw [PySem.W.Fast.te9446332074065402090]
 delta PySem.W.Fast.tw9446332074065402090 PySem.W.Fast.tw17960256430627541270 PySem.W.Fast.tw2436336058641802641 PySem.W.Fast.tw12908688711261696721
 repeat' (with_reducible refine look_both ?_ ?_)
 all_goals decide +kernel
inductive Ex2 {α0 α1 : Type} (p : α0 → α1 → Prop) : Prop
 | mk (a0 : α0) (a1 : α1) (h : p a0 a1) : Ex2 p
inductive Ex3 {α0 α1 α2 : Type} (p : α0 → α1 → α2 → Prop) : Prop
 | mk (a0 : α0) (a1 : α1) (a2 : α2) (h : p a0 a1 a2) : Ex3 p
inductive Ex4 {α0 α1 α2 α3 : Type} (p : α0 → α1 → α2 → α3 → Prop) : Prop
 | mk (a0 : α0) (a1 : α1) (a2 : α2) (a3 : α3) (h : p a0 a1 a2 a3) : Ex4 p
inductive Ex5 {α0 α1 α2 α3 α4 : Type} (p : α0 → α1 → α2 → α3 → α4 → Prop) : Prop
 | mk (a0 : α0) (a1 : α1) (a2 : α2) (a3 : α3) (a4 : α4) (h : p a0 a1 a2 a3 a4) : Ex5 p
inductive Ex6 {α0 α1 α2 α3 α4 α5 : Type} (p : α0 → α1 → α2 → α3 → α4 → α5 → Prop) : Prop
 | mk (a0 : α0) (a1 : α1) (a2 : α2) (a3 : α3) (a4 : α4) (a5 : α5) (h : p a0 a1 a2 a3 a4 a5) : Ex6 p
inductive Ex7 {α0 α1 α2 α3 α4 α5 α6 : Type} (p : α0 → α1 → α2 → α3 → α4 → α5 → α6 → Prop) : Prop
 | mk (a0 : α0) (a1 : α1) (a2 : α2) (a3 : α3) (a4 : α4) (a5 : α5) (a6 : α6) (h : p a0 a1 a2 a3 a4 a5 a6) : Ex7 p
inductive Ex8 {α0 α1 α2 α3 α4 α5 α6 α7 : Type} (p : α0 → α1 → α2 → α3 → α4 → α5 → α6 → α7 → Prop) : Prop
 | mk (a0 : α0) (a1 : α1) (a2 : α2) (a3 : α3) (a4 : α4) (a5 : α5) (a6 : α6) (a7 : α7) (h : p a0 a1 a2 a3 a4 a5 a6 a7) : Ex8 p
inductive Ex9 {α0 α1 α2 α3 α4 α5 α6 α7 α8 : Type} (p : α0 → α1 → α2 → α3 → α4 → α5 → α6 → α7 → α8 → Prop) : Prop
 | mk (a0 : α0) (a1 : α1) (a2 : α2) (a3 : α3) (a4 : α4) (a5 : α5) (a6 : α6) (a7 : α7) (a8 : α8) (h : p a0 a1 a2 a3 a4 a5 a6 a7 a8) : Ex9 p
inductive Ex10 {α0 α1 α2 α3 α4 α5 α6 α7 α8 α9 : Type} (p : α0 → α1 → α2 → α3 → α4 → α5 → α6 → α7 → α8 → α9 → Prop) : Prop
 | mk (a0 : α0) (a1 : α1) (a2 : α2) (a3 : α3) (a4 : α4) (a5 : α5) (a6 : α6) (a7 : α7) (a8 : α8) (a9 : α9) (h : p a0 a1 a2 a3 a4 a5 a6 a7 a8 a9) : Ex10 p
inductive Ex11 {α0 α1 α2 α3 α4 α5 α6 α7 α8 α9 α10 : Type} (p : α0 → α1 → α2 → α3 → α4 → α5 → α6 → α7 → α8 → α9 → α10 → Prop) : Prop
 | mk (a0 : α0) (a1 : α1) (a2 : α2) (a3 : α3) (a4 : α4) (a5 : α5) (a6 : α6) (a7 : α7) (a8 : α8) (a9 : α9) (a10 : α10) (h : p a0 a1 a2 a3 a4 a5 a6 a7 a8 a9 a10) : Ex11 p
inductive Ex12 {α0 α1 α2 α3 α4 α5 α6 α7 α8 α9 α10 α11 : Type} (p : α0 → α1 → α2 → α3 → α4 → α5 → α6 → α7 → α8 → α9 → α10 → α11 → Prop) : Prop
 | mk (a0 : α0) (a1 : α1) (a2 : α2) (a3 : α3) (a4 : α4) (a5 : α5) (a6 : α6) (a7 : α7) (a8 : α8) (a9 : α9) (a10 : α10) (a11 : α11) (h : p a0 a1 a2 a3 a4 a5 a6 a7 a8 a9 a10 a11) : Ex12 p
inductive Ex13 {α0 α1 α2 α3 α4 α5 α6 α7 α8 α9 α10 α11 α12 : Type} (p : α0 → α1 → α2 → α3 → α4 → α5 → α6 → α7 → α8 → α9 → α10 → α11 → α12 → Prop) : Prop
 | mk (a0 : α0) (a1 : α1) (a2 : α2) (a3 : α3) (a4 : α4) (a5 : α5) (a6 : α6) (a7 : α7) (a8 : α8) (a9 : α9) (a10 : α10) (a11 : α11) (a12 : α12) (h : p a0 a1 a2 a3 a4 a5 a6 a7 a8 a9 a10 a11 a12) : Ex13 p
inductive Ex14 {α0 α1 α2 α3 α4 α5 α6 α7 α8 α9 α10 α11 α12 α13 : Type} (p : α0 → α1 → α2 → α3 → α4 → α5 → α6 → α7 → α8 → α9 → α10 → α11 → α12 → α13 → Prop) : Prop
 | mk (a0 : α0) (a1 : α1) (a2 : α2) (a3 : α3) (a4 : α4) (a5 : α5) (a6 : α6) (a7 : α7) (a8 : α8) (a9 : α9) (a10 : α10) (a11 : α11) (a12 : α12) (a13 : α13) (h : p a0 a1 a2 a3 a4 a5 a6 a7 a8 a9 a10 a11 a12 a13) : Ex14 p
inductive An3 (p0 p1 p2 : Prop) : Prop
 | mk (h0 : p0) (h1 : p1) (h2 : p2) : An3 p0 p1 p2
inductive An4 (p0 p1 p2 p3 : Prop) : Prop
 | mk (h0 : p0) (h1 : p1) (h2 : p2) (h3 : p3) : An4 p0 p1 p2 p3
inductive An5 (p0 p1 p2 p3 p4 : Prop) : Prop
 | mk (h0 : p0) (h1 : p1) (h2 : p2) (h3 : p3) (h4 : p4) : An5 p0 p1 p2 p3 p4
inductive An6 (p0 p1 p2 p3 p4 p5 : Prop) : Prop
 | mk (h0 : p0) (h1 : p1) (h2 : p2) (h3 : p3) (h4 : p4) (h5 : p5) : An6 p0 p1 p2 p3 p4 p5
inductive An7 (p0 p1 p2 p3 p4 p5 p6 : Prop) : Prop
 | mk (h0 : p0) (h1 : p1) (h2 : p2) (h3 : p3) (h4 : p4) (h5 : p5) (h6 : p6) : An7 p0 p1 p2 p3 p4 p5 p6
inductive An8 (p0 p1 p2 p3 p4 p5 p6 p7 : Prop) : Prop
 | mk (h0 : p0) (h1 : p1) (h2 : p2) (h3 : p3) (h4 : p4) (h5 : p5) (h6 : p6) (h7 : p7) : An8 p0 p1 p2 p3 p4 p5 p6 p7
inductive An9 (p0 p1 p2 p3 p4 p5 p6 p7 p8 : Prop) : Prop
 | mk (h0 : p0) (h1 : p1) (h2 : p2) (h3 : p3) (h4 : p4) (h5 : p5) (h6 : p6) (h7 : p7) (h8 : p8) : An9 p0 p1 p2 p3 p4 p5 p6 p7 p8
inductive An10 (p0 p1 p2 p3 p4 p5 p6 p7 p8 p9 : Prop) : Prop
 | mk (h0 : p0) (h1 : p1) (h2 : p2) (h3 : p3) (h4 : p4) (h5 : p5) (h6 : p6) (h7 : p7) (h8 : p8) (h9 : p9) : An10 p0 p1 p2 p3 p4 p5 p6 p7 p8 p9
noncomputable abbrev NE : VP := fun _ _ => False
noncomputable def lcs : List Str → List (Option Value) → SM
 | x :: xs, v :: vs => fun y => if y = x then v else lcs xs vs y
 | _, _ => fun _ => none
inductive Lk (x : Str) (v : Value) : List Str → List (Option Value) → Prop where
 | head {xs vs} : Lk x v (x :: xs) (some v :: vs)
 | tail {y u xs vs} (h : Lk x v xs vs) : Lk x v (y :: xs) (u :: vs)
theorem Lk.i1 {x : Str} {v : Value} {a0 u0 xs vs} : Lk x v (a0 :: x :: xs) (u0 :: some v :: vs) := .tail .head
theorem Lk.i2 {x : Str} {v : Value} {a0 a1 u0 u1 xs vs} : Lk x v (a0 :: a1 :: x :: xs) (u0 :: u1 :: some v :: vs) := .tail Lk.i1
theorem Lk.i3 {x : Str} {v : Value} {a0 a1 a2 u0 u1 u2 xs vs} : Lk x v (a0 :: a1 :: a2 :: x :: xs) (u0 :: u1 :: u2 :: some v :: vs) := .tail Lk.i2
theorem Lk.i4 {x : Str} {v : Value} {a b c d p q r t xs vs} (h : Lk x v xs vs) : Lk x v (a :: b :: c :: d :: xs) (p :: q :: r :: t :: vs) := .tail (.tail (.tail (.tail h)))
theorem Lk.mem {x : Str} {v : Value} {xs vs} (h : Lk x v xs vs) : x ∈ xs := by
 induction h with
 | head => exact .head _
 | tail _ ih => exact .tail _ ih
theorem Lk.get {x : Str} {v : Value} {xs vs} (h : Lk x v xs vs) (nd : xs.Nodup) : lcs xs vs x = some v := by
 induction h with
 | head => exact if_pos rfl
 | tail h ih =>
  have n := List.nodup_cons.mp nd
  refine (if_neg fun e => ?_).trans (ih n.2)
  exact n.1 (by rw [← e]; exact h.mem)
inductive Up (x : Str) (v : Option Value) : List Str → List (Option Value) → List (Option Value) → Prop where
 | head {xs u vs} : Up x v (x :: xs) (u :: vs) (v :: vs)
 | tail {y u xs vs vs'} (h : Up x v xs vs vs') : Up x v (y :: xs) (u :: vs) (u :: vs')
theorem Up.i1 {x : Str} {v : Option Value} {a0 u0 w xs vs} : Up x v (a0 :: x :: xs) (u0 :: w :: vs) (u0 :: v :: vs) := .tail .head
theorem Up.i2 {x : Str} {v : Option Value} {a0 a1 u0 u1 w xs vs} : Up x v (a0 :: a1 :: x :: xs) (u0 :: u1 :: w :: vs) (u0 :: u1 :: v :: vs) := .tail Up.i1
theorem Up.i3 {x : Str} {v : Option Value} {a0 a1 a2 u0 u1 u2 w xs vs} : Up x v (a0 :: a1 :: a2 :: x :: xs) (u0 :: u1 :: u2 :: w :: vs) (u0 :: u1 :: u2 :: v :: vs) := .tail Up.i2
theorem Up.i4 {x : Str} {v : Option Value} {a b c d p q r t xs vs us} (h : Up x v xs vs us) : Up x v (a :: b :: c :: d :: xs) (p :: q :: r :: t :: vs) (p :: q :: r :: t :: us) := .tail (.tail (.tail (.tail h)))
theorem mI1 {α : Type} {x a0 : α} {l : List α} : x ∈ a0 :: x :: l := .tail _ (.head _)
theorem mI2 {α : Type} {x a0 a1 : α} {l : List α} : x ∈ a0 :: a1 :: x :: l := .tail _ mI1
theorem mI3 {α : Type} {x a0 a1 a2 : α} {l : List α} : x ∈ a0 :: a1 :: a2 :: x :: l := .tail _ mI2
theorem mI4 {α : Type} {x a b c d : α} {l : List α} (h : x ∈ l) : x ∈ a :: b :: c :: d :: l := .tail _ (.tail _ (.tail _ (.tail _ h)))
theorem byG {P : Prop} (h : ∀ G : Prop, (P → G) → G) : P := h P id
theorem if_p {c : Prop} [Decidable c] {A B : Prop} (h : c) (k : A) : if c then A else B := by rw [if_pos h]; exact k
theorem if_n {c : Prop} [Decidable c] {A B : Prop} (h : ¬ c) (k : B) : if c then A else B := by rw [if_neg h]; exact k
theorem Up.mem {x : Str} {v : Option Value} {xs vs vs'} (h : Up x v xs vs vs') : x ∈ xs := by
 induction h with
 | head => exact .head _
 | tail _ ih => exact .tail _ ih
theorem Up.eq {x : Str} {v : Option Value} {xs vs vs'} (h : Up x v xs vs vs') (nd : xs.Nodup) : (fun y => if y = x then v else lcs xs vs y) = lcs xs vs' := by
 induction h with
 | head =>
  funext y
  by_cases h : y = x
  ·exact (if_pos h).trans (if_pos h).symm
  ·exact (if_neg h).trans ((if_neg h).trans (if_neg h).symm)
 | tail h ih =>
  have n := List.nodup_cons.mp nd
  have ih := ih n.2
  funext y
  have ihy := congrFun ih y
  by_cases h1 : y = x
  ·subst h1
   refine (if_pos rfl).trans (((if_pos rfl).symm.trans ihy).trans (if_neg fun e => ?_).symm)
   exact n.1 (by rw [← e]; exact h.mem)
  ·rw [if_neg h1] at ihy ⊢
   show (if _ then _ else _) = if _ then _ else _
   rw [ihy]
inductive Ch (a : Addr) (o o' : Obj) : List (Addr × Obj) → List (Addr × Obj) → Prop where
 | head {r} : Ch a o o' ((a, o) :: r) ((a, o') :: r)
 | tail {p r r'} (h : Ch a o o' r r') : Ch a o o' (p :: r) (p :: r')
theorem Ch.split {a : Addr} {o o' : Obj} {l l'} (h : Ch a o o' l l') : ∃ pre post, l = pre ++ (a, o) :: post ∧ l' = pre ++ (a, o') :: post := by
 induction h with
 | head => exact ⟨[], _, rfl, rfl⟩
 | @tail q _ _ _ ih =>
  obtain ⟨pre, post, h1, h2⟩ := ih
  exact ⟨q :: pre, post, congrArg _ h1, congrArg _ h2⟩
theorem Ch.keys {a : Addr} {o o' : Obj} {l l'} (h : Ch a o o' l l') : l'.map (·.1) = l.map (·.1) := by
 obtain ⟨pre, post, rfl, rfl⟩ := h.split
 simp
theorem Ch.append {a : Addr} {o o' : Obj} {pre l l' : LD} (h : Ch a o o' l l') : Ch a o o' (pre ++ l) (pre ++ l') := by
 induction pre with
 | nil => exact h
 | cons p r ih => exact .tail ih
structure Stt (s0 : Shared) (g : Heap) (L : Addr) (m : SM) (news : LD) (s : Shared) : Prop where
 same : ∃ h tk, s = { s0 with heap := h, toks := tk }
 fr : Fr g L s.heap m
 led : News g L s.heap news
 nd : (news.map (·.1)).Nodup
section
variable {s0 s : Shared} {g : Heap} {L : Addr} {m : SM} {news news' : LD}
theorem same_of {h : Heap} {tk : Nat} (x : ∃ h tk, s = { s0 with heap := h, toks := tk }) : ∃ h' tk', ({ s with heap := h, toks := tk } : Shared) = { s0 with heap := h', toks := tk' } := by
 obtain ⟨_, _, rfl⟩ := x
 exact ⟨h, tk, rfl⟩
theorem Stt.tok (S : Stt s0 g L m news s) (tk : Nat) : Stt s0 g L m news { s with toks := tk } := ⟨same_of S.same, S.fr, S.led, S.nd⟩
theorem Stt.get (S : Stt s0 g L m news s) {a : Addr} {o : Obj} (h : (a, o) ∈ news) : s.heap.get? a = some o := (S.led _ h).1
theorem Stt.base (S : Stt s0 g L m news s) {a : Addr} {o : Obj} (h : g.get? a = some o) : s.heap.get? a = some o := S.fr.keep _ _ h
theorem Stt.push (S : Stt s0 g L m news s) (o : Obj) (tk : Nat) (hf : o.isFreed = false := by rfl) : Stt s0 g L m ((s.heap.objs.size, o) :: news) { s with heap := s.heap.push o, toks := tk } := by
 refine ⟨same_of S.same, S.fr.push o, S.led.push S.fr o hf, ?_⟩
 simp only [List.map_cons, List.nodup_cons]
 refine ⟨fun hm => ?_, S.nd⟩
 obtain ⟨p, hp, e⟩ := List.mem_map.mp hm
 exact absurd (Heap.lt_size (S.led p hp).1) (by rw [e]; exact Nat.lt_irrefl _)
theorem Stt.upd (S : Stt s0 g L m news s) {a : Addr} {o o' : Obj} {f : Obj → Obj} (tk : Nat) (U : Ch a o o' news news') (e : f o = o') (hf : o'.isFreed = false := by rfl) :
  Stt s0 g L m news' { s with heap := s.heap.update a f, toks := tk } := by
 have hk := U.keys
 obtain ⟨pre, post, rfl, rfl⟩ := U.split
 have nd := S.nd
 simp only [List.map_append, List.map_cons, List.nodup_append, List.nodup_cons] at nd
 obtain ⟨F, N⟩ := news_upd S.fr S.led (o' := o') (f := f) (fun p hp q => nd.2.2 p.1 (List.mem_map_of_mem hp) a (.head _) q)
  (fun p hp q => nd.2.1.1 (q ▸ List.mem_map_of_mem hp)) e hf
 exact ⟨same_of S.same, F, N, hk ▸ S.nd⟩
theorem Stt.setAt (S : Stt s0 g L m news s) {a : Addr} {o o' : Obj} {h' : Heap} (tk : Nat) (U : Ch a o o' news news') (hs : Heap.SameBut a s.heap h') (ho : h'.get? a = some o') :
  Stt s0 g L m news' { s with heap := h', toks := tk } := by
 have hk := U.keys
 obtain ⟨pre, post, rfl, rfl⟩ := U.split
 have nd := S.nd
 simp only [List.map_append, List.map_cons, List.nodup_append, List.nodup_cons] at nd
 have D := S.led (a, o) (by simp)
 refine ⟨same_of S.same, ⟨S.fr.ns.sameBut hs (Ne.symm D.2.1), fun b ob e => (hs.2 b (fun q => ?_)).trans (S.fr.keep b ob e), S.fr.above⟩, ?_, hk ▸ S.nd⟩
 ·rw [q, D.2.2] at e; cases e
 ·exact news_set S.led (fun p hp q => nd.2.2 p.1 (List.mem_map_of_mem hp) a (.head _) q) (fun p hp q => nd.2.1.1 (q ▸ List.mem_map_of_mem hp)) hs ho
theorem Stt.sub (S : Stt s0 g L m news s) (h : news'.Sublist news) : Stt s0 g L m news' s :=
 ⟨S.same, S.fr, fun p hp => S.led p (h.subset hp), S.nd.sublist (h.map _)⟩
theorem Stt.perm (S : Stt s0 g L m news s) (h : news'.Perm news) : Stt s0 g L m news' s :=
 ⟨S.same, S.fr, fun p hp => S.led p (h.subset hp), (h.map _).nodup_iff.mpr S.nd⟩
theorem Stt.ns (S : Stt s0 g L m news s) {m' : SM} {h' : Heap} (tk : Nat) (hn : h'.Ns L m') (hs : Heap.SameBut L s.heap h') : Stt s0 g L m' news { s with heap := h', toks := tk } :=
 ⟨same_of S.same, S.fr.set hn hs, S.led.set hs, S.nd⟩
theorem Stt.keeps (S : Stt s0 g L m news s) {h' : Heap} (tk : Nat) (hk : ∀ b o, s.heap.get? b = some o → h'.get? b = some o) : Stt s0 g L m news { s with heap := h', toks := tk } :=
 ⟨same_of S.same, ⟨S.fr.ns.keeps hk, fun b o e => hk b o (S.fr.keep b o e), S.fr.above⟩, fun p hp => ⟨hk _ _ (S.led p hp).1, (S.led p hp).2⟩, S.nd⟩
theorem Stt.enter (S : Stt s0 g L m news s) {h' : Heap} (tk : Nat) (hk : ∀ b o, s.heap.get? b = some o → h'.get? b = some o) {a : Addr} {o : Obj} (hn : s.heap.get? a = none) (ho : h'.get? a = some o) :
  Stt s0 g L m ((a, o) :: news) { s with heap := h', toks := tk } := by
 have S' := S.keeps tk hk
 have hL : a ≠ L := by
  rintro rfl
  obtain ⟨_, _, _, e, _⟩ := S.fr.ns
  rw [hn] at e; cases e
 have hg : g.get? a = none := by
  cases e : g.get? a with
  | none => rfl
  | some o' => rw [S.fr.keep _ _ e] at hn; cases hn
 refine ⟨S'.same, S'.fr, fun p hp => ?_, ?_⟩
 ·rcases List.mem_cons.mp hp with rfl | hp
  ·exact ⟨ho, hL, hg⟩
  ·exact S'.led p hp
 ·simp only [List.map_cons, List.nodup_cons]
  refine ⟨fun hm => ?_, S.nd⟩
  obtain ⟨p, hp, e⟩ := List.mem_map.mp hm
  have := (S.led p hp).1
  rw [e, hn] at this; cases this
end
noncomputable def GT (w : World) (x : Str) (v : Value) : Prop :=
 nsIn (hK w.params) mainGlobals x = some (some v) ∨ (nsIn (hK w.params) mainGlobals x = some none ∧ bootBuiltins x = some v ∧ x ≠ "__name__")
structure Fm (w : World) (A : Around) (env : Env) (g base : Heap) (outer : List Env) (nm : List Str) (G : SV) : Prop where
 X : (hK w.params).In g
 T : ∃ p loose mean mg mb, Top p loose mean mg mb g
 B : True
 hA : A.frames = some (env :: outer)
 hf : env.frame = some env.locals
 hk : env.scope.kind = .function
 hh : A.handled = none
 hg : env.globals = mainGlobals
 hb : env.builtins = builtinsNs
 nd : nm.Nodup
 loc : ∀ x ∈ nm, env.kindOf x = some .local ∧ (x == ("__debug__" : Str)) = false
 glo : ∀ p ∈ G, env.kindOf p.1 = some .globalImplicit ∧ (p.1 == ("__debug__" : Str)) = false ∧ GT w p.1 p.2
section
variable {M : Model} {prog : Program} {w : World} {A : Around} {env : Env} {g base : Heap} {outer : List Env} {nm : List Str} {G : SV}
 {E : VP} {s0 s : Shared} {vals vals' : OV} {m : SM} {news news' : LD}
theorem Fm.plain (C : Fm w A env g base outer nm G) : (env.scope.kind == .class || (env.scope.kind == .module && env.locals != env.globals)) = false := by
 rw [C.hk]; rfl
theorem r_name (C : Fm w A env g base outer nm G) (S : Stt s0 g env.locals (lcs nm vals) news s) {x : Str} {v : Value} {pos : Pos} {Q : VP}
  (h : Lk x v nm vals) (k : Q v s) : wpAny M A (eval (.Name x pos) env) Q E s :=
 wpAny_Name (wpAny_loadName_local C.hk (C.loc x h.mem).1 S.fr.ns (h.get C.nd) k) (C.loc x h.mem).2
theorem r_load (C : Fm w A env g base outer nm G) (S : Stt s0 g env.locals (lcs nm vals) news s) {x : Str} {v : Value} {Q : VP}
  (h : Lk x v nm vals) (k : Q v s) : wpAny M A (loadName env x) Q E s :=
 wpAny_loadName_local C.hk (C.loc x h.mem).1 S.fr.ns (h.get C.nd) k
theorem r_store (C : Fm w A env g base outer nm G) (S : Stt s0 g env.locals (lcs nm vals) news s) {x : Str} {v : Value} {Q : Unit → Shared → Prop}
  (h : Up x (some v) nm vals vals') (k : ∀ s', Stt s0 g env.locals (lcs nm vals') news s' → Q () s') : wpAny M A (storeName env x v) Q E s :=
 wpAny_storeName_local (C.loc x h.mem).1 S.fr.ns (fun h' hn hs => k _ (h.eq C.nd ▸ S.ns _ hn hs)) C.plain
theorem r_glob (C : Fm w A env g base outer nm G) (S : Stt s0 g env.locals m news s) {x : Str} {v : Value} {pos : Pos} {Q : VP}
  (h : (x, v) ∈ G) (k : Q v s) : wpAny M A (eval (.Name x pos) env) Q E s := by
 obtain ⟨h1, h2, h3⟩ := C.glo _ h
 obtain ⟨p, loose, mean, mg, mb, T⟩ := C.T
 refine Name_function_global C.hk h1 ?_ h2
 rcases h3 with h3 | ⟨h3, h4, h5⟩
 ·exact loadGlobal_global (by rw [C.hg]; exact T.g.keeps S.fr.keep) (mg_of C.X T.g h3) k
 ·exact loadGlobal_builtin (by rw [C.hg]; exact T.g.keeps S.fr.keep) (mg_none_of C.X T.g h3) (by rw [C.hb]; exact T.b.keeps S.fr.keep) ((T.builtins x h5).trans h4) k
theorem r_int (S : Stt s0 g env.locals m news s) {i : Int} {k pos} {Q : VP} (h : ∀ t s', Stt s0 g env.locals m news s' → Q (.int i t) s') :
  wpAny M A (eval (.Constant (.int i) k pos) env) Q E s := wpAny_Constant_int (h _ _ (S.tok _))
theorem r_str (S : Stt s0 g env.locals m news s) {x : Str} {k pos} {Q : VP} (h : ∀ t s', Stt s0 g env.locals m news s' → Q (.str x t) s') :
  wpAny M A (eval (.Constant (.str x) k pos) env) Q E s := wpAny_Constant_str (h _ _ (S.tok _))
theorem r_add (S : Stt s0 g env.locals m news s) {a b : Int} {t u : Tok} {Q : VP} (h : ∀ t s', Stt s0 g env.locals m news s' → Q (.int (a + b) t) s') :
  wpAny (model prog w) A (binaryOp .Add (.int a t) (.int b u)) Q E s := wpAny_add_int (h _ _ (S.tok _))
end
theorem n1 {a b c n : Nat} (h : a - b ≤ n) (h1 : 1 ≤ c) : a - (b + c) ≤ n - 1 := by rw [Nat.sub_add_eq]; exact Nat.le_trans (Nat.sub_le_sub_right h c) (Nat.sub_le_sub_left h1 n)
theorem n2 {r s n : Nat} (h : s = n) (h1 : r < n) : (-1 - (r : Int) + (s : Int)).toNat = n - 1 - r := by
 obtain ⟨k, rfl⟩ := Nat.exists_eq_add_of_lt h1
 subst h
 rw [show (-1 - (r : Int) + ((r + k + 1 : Nat) : Int)) = (k : Nat) by lia, Int.toNat_natCast, Nat.add_sub_cancel, Nat.add_sub_cancel_left]
theorem n3 {i L M R : Nat} (h : L < M) (h1 : i < R - L) (h2 : ¬ i < M - L) : i - (M - L) < R - M := by
 have := Nat.sub_lt_sub_right (Nat.le_of_not_lt h2) h1
 rwa [Nat.sub_sub_sub_cancel_right (Nat.le_of_lt h)] at this
theorem n4 {n : Nat} : max 0 (min (-1 + (n : Int)) (n : Int)) = ((n - 1 : Nat) : Int) := by
 cases n with
 | zero => rfl
 | succ k => rw [show -1 + ((k + 1 : Nat) : Int) = (k : Nat) by lia, Int.min_eq_left (by lia), Int.max_eq_right (by lia)]; rfl
theorem n5 {d l : Nat} (h : d ≤ l) : min d l + 1 + (l - d) = l + 1 := by rw [Nat.min_eq_left h, Nat.add_right_comm, Nat.add_sub_of_le h]
theorem n5a {d l u k : Nat} {p : Prop} (h : p ∧ k = u + 1) (h1 : l = u) (h2 : d < k) : min d l + 1 + (l - d) = k := by rw [n5 (by rw [h1]; exact Nat.le_of_lt_succ (h.2 ▸ h2 : d < u + 1)), h1, h.2]
theorem n6 {d l u k : Nat} (h : k = u + 1) (h1 : l = u) (h2 : k ≤ 7) (h3 : d < k) : min d l + 1 + (l - d) ≤ 1000 := by rw [n5 (by rw [h1]; exact Nat.le_of_lt_succ (h ▸ h3 : d < u + 1)), h1, ← h]; exact Nat.le_trans h2 (by decide)
theorem n7 {L M R : Nat} (h : M < R) (h1 : L < M) : R - M + (M - L) = R - L := Nat.sub_add_sub_cancel (Nat.le_of_lt h) (Nat.le_of_lt h1)
theorem n8 {L M R : Nat} (h : M < R) (h1 : L < M) : R - L = M - L + (R - M) := by rw [Nat.add_comm]; exact (n7 h h1).symm
theorem n9 {a n M : Nat} : min a (n - M) ≤ n := Nat.le_trans (Nat.min_le_right _ _) (Nat.sub_le _ _)
theorem n10 {N i : Nat} (h : i < N) : N - (N - i) = i := Nat.sub_sub_self (Nat.le_of_lt h)
theorem n10a {N i : Nat} (h : i < N) : N - (N - (i + 1)) = i + 1 := Nat.sub_sub_self h
theorem n11 {L M R n : Nat} (h : M < R) (h1 : R ≤ n) : M - L ≤ n - L := Nat.sub_le_sub_right (Nat.le_trans (Nat.le_of_lt h) h1) _
theorem n12 {N k q : Nat} (h : N - k = q + 1) : N - q = k + 1 := by
 have : N = q + 1 + k := (Nat.sub_eq_iff_eq_add (Nat.le_of_lt (Nat.lt_of_sub_pos (h ▸ Nat.succ_pos q)))).mp h
 rw [this, Nat.add_assoc, Nat.add_sub_cancel_left, Nat.add_comm]
theorem n14 {a b c n : Nat} (h : a - b ≤ n) (h1 : b + c ≤ a) (h2 : 1 ≤ c) : n - 1 < n := Nat.sub_lt (Nat.lt_of_lt_of_le (Nat.sub_pos_of_lt (Nat.lt_of_lt_of_le (Nat.lt_add_of_pos_right h2) h1)) h) Nat.one_pos
theorem n15 {i r k : Nat} (h : r ≤ k) : min i (r - 1) ≤ k := Nat.le_trans (Nat.min_le_right _ _) (Nat.le_trans (Nat.sub_le _ _) h)
theorem n16 {D i : Nat} (h : i < D) : D - 1 - i + 1 = D - i := by rw [Nat.sub_right_comm, Nat.sub_add_cancel (Nat.sub_pos_of_lt h)]
theorem n17 {D i : Nat} (h : i < D) : D - 1 - i < D := Nat.lt_of_le_of_lt (Nat.sub_le _ _) (Nat.sub_lt (Nat.lt_of_le_of_lt (Nat.zero_le _) h) Nat.one_pos)
theorem n18 {n r : Nat} (h : ¬ n = 0) : n - 1 - r < n := Nat.lt_of_le_of_lt (Nat.sub_le _ _) (Nat.sub_lt (Nat.pos_of_ne_zero h) Nat.one_pos)
theorem n19 {N i : Nat} (h : i < N) : N - (i + 1) < N := Nat.sub_lt (Nat.lt_of_le_of_lt (Nat.zero_le _) h) (Nat.succ_pos _)
theorem n20 {N i q : Nat} (h : N - i = q + 1) : N - (i + 1) = q := by rw [Nat.sub_add_eq, h]; rfl
theorem n21 {n i : Nat} (h : i < n) : n + 1 - (i + 1) < n + 1 - i := Nat.sub_lt_sub_left (Nat.lt_succ_of_lt h) (Nat.lt_succ_self i)
theorem n22 {q r : Nat} (h : q < r) : min q r = q := Nat.min_eq_left (Nat.le_of_lt h)
theorem n23 {L M i : Nat} (h : L < M) (h1 : ¬ i < M - L) : L + i = M + (i - (M - L)) := by
 rw [← Nat.add_sub_assoc (Nat.le_of_not_lt h1), Nat.sub_sub_right _ (Nat.le_of_lt h), Nat.add_right_comm, Nat.add_assoc, Nat.add_sub_cancel_left, Nat.add_comm]
theorem n24 {i n N : Nat} (h : n = N) (h1 : i < N) : (-((i + 1 : Nat) : Int) + (n : Int)).toNat = N - (i + 1) := by
 obtain ⟨k, rfl⟩ := Nat.exists_eq_add_of_lt h1
 subst h
 rw [show -((i + 1 : Nat) : Int) + ((i + k + 1 : Nat) : Int) = (k : Nat) by lia, Int.toNat_natCast, Nat.add_right_comm, Nat.add_sub_cancel_left]
theorem n25 {y p : Nat} (h : y = p + 1) : (-1 + (y : Int)).toNat = p := by rw [h, show -1 + ((p + 1 : Nat) : Int) = (p : Nat) by lia, Int.toNat_natCast]
theorem n26 {l k : Nat} {p : Prop} (h : l ≤ k + 1 ∧ p) : l - 1 ≤ k := Nat.sub_le_of_le_add h.1
theorem n27 {L M R n k : Nat} (h : M < R) (h1 : R ≤ n) (h2 : n ≤ k) : M - L ≤ k := Nat.le_trans (Nat.sub_le _ _) (Nat.le_trans (Nat.le_of_lt h) (Nat.le_trans h1 h2))
theorem n28 {r k : Nat} (h : r ≤ 7) (h1 : 7 < k) : r - 1 < k := Nat.lt_of_le_of_lt (Nat.le_trans (Nat.sub_le _ _) h) h1
theorem n29 {n m k : Nat} (h : n ≤ m) (h1 : m < k) : (n : Int).natAbs < k := by rw [Int.natAbs_natCast]; exact Nat.lt_of_le_of_lt h h1
theorem n35 {d e a b r : Nat} (h : d = e + 1) (h1 : e + b < r) (h2 : a + 1 ≤ b) : d + a < r := by rw [h, Nat.add_assoc, Nat.add_comm 1]; exact Nat.lt_of_le_of_lt (Nat.add_le_add_left h2 e) h1
theorem n36 {e a b r : Nat} (h : e + b < r) (h1 : a ≤ b) : e + a < r := Nat.lt_of_le_of_lt (Nat.add_le_add_left h1 e) h
theorem n37 {a b : Nat} (h : a < b) : (a : Int) < (b : Int) := Int.ofNat_lt.mpr h
theorem n38 {a b : Nat} (h : a ≤ b) : (a : Int) ≤ (b : Int) := Int.ofNat_le.mpr h
theorem n39 {a b : Nat} (h : a + 1 ≤ b) : a ≤ b := Nat.le_of_succ_le h
theorem n40 {n m : Nat} {k : Int} (h : n ≤ m) (h1 : (m : Int) < k) : (n : Int) < k := Int.lt_of_le_of_lt (Int.ofNat_le.mpr h) h1
theorem n41 {n m : Nat} {k : Int} (h : n ≤ m) (h1 : (m : Int) ≤ k) : (n : Int) ≤ k := Int.le_trans (Int.ofNat_le.mpr h) h1
noncomputable def gT1 : SV := [("_NODE_OUT", .int (-1) 197), ("_NODE_DONE", .int (-2) 200), ("_NodeInfo", .ref 40), ("CycleError", .ref 55), ("TopologicalSorter", .ref 137), ("_DIV_LIMIT", .int 4000 378), ("_div2n1n", .ref 148), ("_int2digits", .ref 162), ("_digits2int", .ref 169), ("_divmod_pos", .ref 176), ("int_divmod", .ref 183), ("fspath", .ref 256), ("_get_sep", .ref 270), ("join", .ref 277), ("commonpath", .ref 282), ("_law_tree", .ref 289), ("_law_waits", .ref 296), ("_law_ring", .ref 303), ("_law_run", .ref 308), ("_law_code", .ref 315), ("_law_orders", .ref 322), ("_law_freed", .ref 327), ("_law_kept", .ref 332), ("_law_size", .ref 339)]
noncomputable def gT2 : SV := [("len", .builtin "len"), ("sum", .builtin "sum"), ("range", .type "range"), ("type", .type "type"), ("issubclass", .builtin "issubclass"), ("str", .type "str"), ("bytes", .type "bytes"), ("isinstance", .builtin "isinstance"), ("map", .type "map"), ("tuple", .type "tuple"), ("min", .builtin "min"), ("max", .builtin "max"), ("enumerate", .type "enumerate"), ("set", .type "set"), ("iter", .builtin "iter"), ("bool", .type "bool"), ("reversed", .type "reversed"), ("divmod", .builtin "divmod"), ("StopIteration", .type "StopIteration"), ("ValueError", .type "ValueError"), ("TypeError", .type "TypeError"), ("AttributeError", .type "AttributeError"), ("BytesWarning", .type "BytesWarning"), ("ZeroDivisionError", .type "ZeroDivisionError")]
noncomputable def gtab : SV := gT1 ++ gT2
theorem ga1 (w : World) : (gT1.all fun p => decide (nsIn (hK w.params) mainGlobals p.1 = some (some p.2))) = true := by kernel_rfl
theorem ga2 (w : World) : (gT2.all fun p => decide (nsIn (hK w.params) mainGlobals p.1 = some none) && decide (p.1 ≠ ("__name__" : Str))) = true := by kernel_rfl
theorem gb2 : ∀ p ∈ gT2, bootBuiltins p.1 = some p.2 := List.forall_mem_cons.mpr ⟨PyProof.Rows.Boot.«len», List.forall_mem_cons.mpr ⟨PyProof.Rows.Boot.«sum», List.forall_mem_cons.mpr ⟨PyProof.Rows.Boot.«range», List.forall_mem_cons.mpr ⟨PyProof.Rows.Boot.«type», List.forall_mem_cons.mpr ⟨PyProof.Rows.Boot.«issubclass», List.forall_mem_cons.mpr ⟨PyProof.Rows.Boot.«str», List.forall_mem_cons.mpr ⟨PyProof.Rows.Boot.«bytes», List.forall_mem_cons.mpr ⟨PyProof.Rows.Boot.«isinstance», List.forall_mem_cons.mpr ⟨PyProof.Rows.Boot.«map», List.forall_mem_cons.mpr ⟨PyProof.Rows.Boot.«tuple», List.forall_mem_cons.mpr ⟨PyProof.Rows.Boot.«min», List.forall_mem_cons.mpr ⟨PyProof.Rows.Boot.«max», List.forall_mem_cons.mpr ⟨PyProof.Rows.Boot.«enumerate», List.forall_mem_cons.mpr ⟨PyProof.Rows.Boot.«set», List.forall_mem_cons.mpr ⟨PyProof.Rows.Boot.«iter», List.forall_mem_cons.mpr ⟨PyProof.Rows.Boot.«bool», List.forall_mem_cons.mpr ⟨PyProof.Rows.Boot.«reversed», List.forall_mem_cons.mpr ⟨PyProof.Rows.Boot.«divmod», List.forall_mem_cons.mpr ⟨PyProof.Rows.Boot.«StopIteration», List.forall_mem_cons.mpr ⟨PyProof.Rows.Boot.«ValueError», List.forall_mem_cons.mpr ⟨PyProof.Rows.Boot.«TypeError», List.forall_mem_cons.mpr ⟨PyProof.Rows.Boot.«AttributeError», List.forall_mem_cons.mpr ⟨PyProof.Rows.Boot.«BytesWarning», List.forall_mem_cons.mpr ⟨PyProof.Rows.Boot.«ZeroDivisionError», List.forall_mem_nil _⟩⟩⟩⟩⟩⟩⟩⟩⟩⟩⟩⟩⟩⟩⟩⟩⟩⟩⟩⟩⟩⟩⟩⟩
theorem gts (w : World) : ∀ p ∈ gtab, GT w p.1 p.2 := fun p hp => by
 rcases List.mem_append.mp hp with h | h
 ·exact .inl (of_decide_eq_true (List.all_eq_true.mp (ga1 w) p h))
 ·have := Bool.and_eq_true_iff.mp (List.all_eq_true.mp (ga2 w) p h)
  exact .inr ⟨of_decide_eq_true this.1, gb2 p h, of_decide_eq_true this.2⟩
noncomputable def ckNames (sc : Scope) (nm : List Str) (G : SV) : Bool :=
 (nm.all fun x => sc.names.lookup x == some .local && !(x == ("__debug__" : Str))) && (G.all fun p => sc.names.lookup p.1 == some .globalImplicit && !(p.1 == ("__debug__" : Str)) && gtab.contains p) && decide nm.Nodup
theorem lookup_rev_zip {y : Str} : ∀ {ps : List Str} {vs : List Value}, y ∉ ps → (ps.zip vs).reverse.lookup y = none
 | [], _, _ => by simp
 | _ :: _, [], _ => by simp
 | p :: ps, v :: vs, h => by
  rw [List.zip_cons_cons, List.reverse_cons, List.lookup_append, lookup_rev_zip (fun q => h (.tail _ q))]
  have : (y == p) = false := beq_eq_false_iff_ne.mpr fun e => h (e ▸ .head _)
  simp [List.lookup, this]
theorem lcs_none : ∀ (xs : List Str) (y : Str), lcs xs (List.replicate xs.length none) y = none
 | [], _ => rfl
 | x :: xs, y => by
  show (if y = x then none else lcs xs (List.replicate xs.length none) y) = none
  rw [lcs_none xs y]; simp
theorem binds_lcs : ∀ {nm : List Str} {vs : List Value}, vs.length ≤ nm.length → nm.Nodup →
  (fun y => (nm.zip vs).reverse.lookup y) = lcs nm (vs.map some ++ List.replicate (nm.length - vs.length) none)
 | nm, [], _, _ => by funext y; simpa using (lcs_none nm y).symm
 | [], _ :: _, h, _ => by simp at h
 | p :: ps, v :: vs, h, nd => by
  have n := List.nodup_cons.mp nd
  have ih := binds_lcs (nm := ps) (vs := vs) (by simpa using h) n.2
  funext y
  have ihy := congrFun ih y
  have e : (p :: ps).length - (v :: vs).length = ps.length - vs.length := by simp
  rw [e]
  show _ = (if y = p then some v else lcs ps (vs.map some ++ List.replicate (ps.length - vs.length) none) y)
  rw [List.zip_cons_cons, List.reverse_cons, List.lookup_append]
  by_cases hy : y = p
  ·subst hy
   rw [lookup_rev_zip n.1]; simp [List.lookup]
  ·have : (y == p) = false := beq_eq_false_iff_ne.mpr hy
   rw [if_neg hy, ← ihy]; simp [List.lookup, this]
noncomputable def rv : Flow → Value
 | .ret v => v
 | _ => .none
section
variable {prog : Program} {w : World} {A : Around} {env : Env} {g base : Heap} {outer : List Env} {nm : List Str} {G : SV}
 {E : VP} {s0 s : Shared} {m : SM} {sub rest : LD}
theorem news_left {h₀ h : Heap} {L : Addr} {a b : LD} (N : News h₀ L h (a ++ b)) : News h₀ L h a := fun p hp => N p (List.mem_append_left _ hp)
theorem back {g' : Heap} {L L' : Addr} {m' : SM} {news' : LD} {s_2 : Shared} (S : Stt s0 g L m (sub ++ rest) s)
  (hx : ∀ b o, s.heap.get? b = some o → b ∉ sub.map (·.1) → g'.get? b = some o) (S_2 : Stt s g' L' m' news' s_2) (hL' : s.heap.objs.size ≤ L') : Stt s0 g L m (news' ++ rest) s_2 := by
 have up : ∀ b o, s.heap.get? b = some o → b ∉ sub.map (·.1) → s_2.heap.get? b = some o := fun b o e n => S_2.fr.keep b o (hx b o e n)
 have nL : L ∉ sub.map (·.1) := fun q => by
  obtain ⟨p, hp, e⟩ := List.mem_map.mp q
  exact (S.led p (List.mem_append_left _ hp)).2.1 e
 have ng : ∀ b o, g.get? b = some o → b ∉ sub.map (·.1) := fun b o e q => by
  obtain ⟨p, hp, rfl⟩ := List.mem_map.mp q
  rw [(S.led p (List.mem_append_left _ hp)).2.2] at e; cases e
 refine byG fun GG hGG => ?_
 obtain ⟨oL, es, ep, hL, hLr⟩ := S.fr.ns
 refine hGG ?_
 clear hGG GG
 have nd := S.nd
 simp only [List.map_append, List.nodup_append] at nd
 have nr : ∀ p ∈ rest, p.1 ∉ sub.map (·.1) := fun p hp q => nd.2.2 _ q _ (List.mem_map_of_mem hp) rfl
 refine ⟨?_, ⟨⟨oL, es, ep, up L oL hL nL, hLr⟩, fun b o e => up b o (S.fr.keep b o e) (ng b o e), S.fr.above⟩, fun p hp => ?_, ?_⟩
 ·obtain ⟨h, tk, e⟩ := S_2.same
  obtain ⟨h', tk', e'⟩ := S.same
  exact ⟨h, tk, by rw [e, e']⟩
 ·rcases List.mem_append.mp hp with hp | hp
  ·have P := S_2.led p hp
   refine ⟨P.1, fun q => ?_, ?_⟩
   ·have := hx L oL hL nL
    rw [← q, P.2.2] at this; cases this
   ·cases e : g.get? p.1 with
    | none => rfl
    | some o => have := hx _ _ (S.fr.keep _ _ e) (ng _ _ e); rw [P.2.2] at this; cases this
  ·have P := S.led p (List.mem_append_right _ hp)
   exact ⟨up _ _ P.1 (nr p hp), P.2⟩
 ·simp only [List.map_append, List.nodup_append]
  refine ⟨S_2.nd, nd.2.1, fun a ha b hb e => ?_⟩
  refine byG fun GG hGG => ?_
  obtain ⟨p, hp, rfl⟩ := List.mem_map.mp ha
  obtain ⟨q, hq, rfl⟩ := List.mem_map.mp hb
  refine hGG ?_
  clear hGG GG
  have := hx _ _ (S.led q (List.mem_append_right _ hq)).1 (nr q hq)
  rw [← e, (S_2.led p hp).2.2] at this; cases this
inductive DPost (s : Shared) (g' : Heap) (L' : Addr) (s0 : Shared) (g : Heap) (L : Addr) (m : SM) (rest : LD) (Q : VP) (fl : Flow) (s_2 : Shared) : Prop
 | mk (m' : SM) (news' : LD) (S : Stt s g' L' m' news' s_2) (k : Stt s0 g L m (news' ++ rest) s_2 → Q (rv fl) s_2) : DPost s g' L' s0 g L m rest Q fl s_2
theorem Fm.callK (C : Fm w A env g base outer nm G) (S : Stt s0 g env.locals m (sub ++ rest) s)
  {f : Addr} {fo : Obj} {name qual : Str} {params : Arguments} {body : List Stmt} {scope : Scope} {cl : List (Str × Addr)} {dV kV doc pm cdv ct : Value} {an : Option Addr}
  {args vs : List Value} {nm' : List Str} {vals' : OV} {G' : SV} {Q : VP} (E' : Env → VP)
  (ho : s.heap.get? f = some fo) (hd : fo.data = .func (fnX name qual params body scope cl dV kV doc pm an cdv ct)) (hcd : s.heap.CodeRec cdv qual) (hroom : A.depth < recursionLimit)
  (hbind : BindsTo s (fnX name qual params body scope cl dV kV doc pm an cdv ct) ⟨args, []⟩ (nm'.zip vs)) (hlen : vs.length ≤ nm'.length) (hvals : vals' = vs.map some ++ List.replicate (nm'.length - vs.length) none)
  (hck : ckNames scope nm' G' = true)
  (hcell : ∀ x ∈ scope.names, x.2 ≠ .cell) (hco : scope.isCoroutine = false) (hgen : scope.isGenerator = false) (hkf : scope.kind = .function)
  (hE : ∀ env' e s', E' env' e s' → wpAny (model prog w) (A.deeper env') (leaving env' e) (fun _ s'' => E e s'') (fun e' s'' => E e' s'') s')
  (h : ∀ g' L' s_1, (∀ b o, s.heap.get? b = some o → b ∉ sub.map (·.1) → g'.get? b = some o) → (∀ b o, g'.get? b = some o → s.heap.get? b = some o) →
   Fm w (A.deeper (envX qual scope L' f cdv cl)) (envX qual scope L' f cdv cl) g' base (env :: outer) nm' G' →
   Stt s g' L' (lcs nm' vals') sub s_1 →
   wpAny (model prog w) (A.deeper (envX qual scope L' f cdv cl)) (execs body (envX qual scope L' f cdv cl))
    (DPost s g' L' s0 g env.locals m rest Q) (E' (envX qual scope L' f cdv cl)) s_1) :
  codeAny (model prog w) A (.call (.ref f) ⟨args, []⟩) (fun r s' => match r with | .ok (.ret v) => Q v s' | .ok _ => False | .error e => E e s') s := by
 refine byG fun GG hGG => ?_
 obtain ⟨p, loose, mean, mg, mb, T⟩ := C.T
 refine hGG ?_
 clear hGG GG
 have N := news_left S.led
 have st : g.StaysIn (hideAll s.heap (sub.map (·.1))) := fun b o e => hideAll_get _ (S.fr.keep b o e) (fun q => by obtain ⟨p, hp, rfl⟩ := List.mem_map.mp q; rw [(N p hp).2.2] at e; cases e)
 simp only [ckNames, Bool.and_eq_true, List.all_eq_true, decide_eq_true_eq] at hck
 obtain ⟨⟨hk1, hk2⟩, hk3⟩ := hck
 have hp1 : ∀ x ∈ nm', scope.names.lookup x = some .local ∧ (x == ("__debug__" : Str)) = false := fun x hx => by
  have := hk1 x hx
  exact ⟨eq_of_beq this.1, by simpa using this.2⟩
 refine codeAny_call_def (fd := fnX name qual params body scope cl dV kV doc pm an cdv ct) (body := body) (binds := nm'.zip vs) hroom ho hd (T.nolimit.keeps S.fr.keep) hcd rfl hbind hcell
  (fun y hy => (hp1 y.1 (List.of_mem_zip hy).1).1) (fun h_1 hns hk_1 => ?_) hco hgen hkf
 have up : ∀ b o, s.heap.get? b = some o → b ∉ sub.map (·.1) → (hideAll s.heap (sub.map (·.1))).get? b = some o := fun b o e n => hideAll_get _ e n
 refine wpAny_mono (h (hideAll s.heap (sub.map (·.1))) s.heap.objs.size _ up (fun b o e => of_hideAll _ e) ?_ ?_) (fun fl s_2 hl => ?_) fun e s' he => hE _ e s' he
 ·refine ⟨C.X.keeps st, ⟨p, loose, mean, mg, mb, T.keeps st⟩, trivial, Around.frames_deeper C.hA, rfl, hkf, C.hh, rfl, rfl, hk3, hp1, fun q hq => ?_⟩
  have := hk2 q hq
  exact ⟨eq_of_beq this.1.1, by simpa using this.1.2, gts w q (List.contains_iff_mem.mp this.2)⟩
 ·refine ⟨⟨_, _, rfl⟩, ?_, fun p hp => ⟨hk_1 _ _ (N p hp).1, Nat.ne_of_lt (Heap.lt_size (N p hp).1), hideAll_none _ (List.mem_map_of_mem hp)⟩, ?_⟩
  ·rw [hvals, ← binds_lcs hlen hk3]
   exact ⟨hns, fun b o e => hk_1 b o (of_hideAll _ e), Nat.le_of_eq (hideAll_size _ _)⟩
  ·have nd := S.nd
   simp only [List.map_append, List.nodup_append] at nd
   exact nd.1
 ·obtain ⟨m', news', S_2, k⟩ := hl
  have := k (back S up S_2 (Nat.le_refl _))
  cases fl <;> exact this
theorem Fm.callE (C : Fm w A env g base outer nm G) (S : Stt s0 g env.locals m (sub ++ rest) s)
  {f : Addr} {fo : Obj} {name qual : Str} {params : Arguments} {body : List Stmt} {scope : Scope} {cl : List (Str × Addr)} {dV kV doc pm cdv ct : Value} {an : Option Addr}
  {args vs : List Value} {nm' : List Str} {vals' : OV} {G' : SV} {Q : VP} (E' : Env → VP)
  (ho : s.heap.get? f = some fo) (hd : fo.data = .func (fnX name qual params body scope cl dV kV doc pm an cdv ct)) (hcd : s.heap.CodeRec cdv qual) (hroom : A.depth < recursionLimit)
  (hbind : BindsTo s (fnX name qual params body scope cl dV kV doc pm an cdv ct) ⟨args, []⟩ (nm'.zip vs)) (hlen : vs.length ≤ nm'.length) (hvals : vals' = vs.map some ++ List.replicate (nm'.length - vs.length) none)
  (hck : ckNames scope nm' G' = true)
  (hcell : ∀ x ∈ scope.names, x.2 ≠ .cell) (hco : scope.isCoroutine = false) (hgen : scope.isGenerator = false) (hkf : scope.kind = .function)
  (hE : ∀ env' e s', E' env' e s' → wpAny (model prog w) (A.deeper env') (leaving env' e) (fun _ s'' => E e s'') (fun e' s'' => E e' s'') s')
  (h : ∀ g' L' s_1, (∀ b o, s.heap.get? b = some o → b ∉ sub.map (·.1) → g'.get? b = some o) → (∀ b o, g'.get? b = some o → s.heap.get? b = some o) →
   Fm w (A.deeper (envX qual scope L' f cdv cl)) (envX qual scope L' f cdv cl) g' base (env :: outer) nm' G' →
   Stt s g' L' (lcs nm' vals') sub s_1 →
   wpAny (model prog w) (A.deeper (envX qual scope L' f cdv cl)) (execs body (envX qual scope L' f cdv cl))
    (DPost s g' L' s0 g env.locals m rest Q) (E' (envX qual scope L' f cdv cl)) s_1) :
  wpAny (model prog w) A (call (.ref f) args) Q E s :=
 wpAny_call (C.callK S E' ho hd hcd hroom hbind hlen hvals hck hcell hco hgen hkf hE h)
theorem Fm.call (C : Fm w A env g base outer nm G) (S : Stt s0 g env.locals m (sub ++ rest) s)
  {f : Addr} {oc : Value} {od : Option Addr} {osl : Array (Option Value)} {name qual : Str} {params : Arguments} {body : List Stmt} {scope : Scope} {dV kV doc pm cdv ct : Value} {an : Option Addr}
  {args : List Value} {Q : VP} (nm' : List Str) (vs : List Value) (vals' : OV) (G' : SV)
  (ho : (hK w.params).lookup f = some ⟨oc, od, .func (fnOf name qual params body scope dV kV doc pm an cdv ct), osl⟩) (hcd : codeIn (hK w.params) cdv qual = true) (hroom : A.depth < recursionLimit)
  (hbind : BindsTo s (fnOf name qual params body scope dV kV doc pm an cdv ct) ⟨args, []⟩ (nm'.zip vs)) (hlen : vs.length ≤ nm'.length) (hvals : vals' = vs.map some ++ List.replicate (nm'.length - vs.length) none)
  (hck : ckNames scope nm' G' = true)
  (hcell : ∀ x ∈ scope.names, x.2 ≠ .cell) (hco : scope.isCoroutine = false) (hgen : scope.isGenerator = false) (hkf : scope.kind = .function)
  (h : ∀ g' L' env' s_1, env'.locals = L' → (∀ b o, s.heap.get? b = some o → b ∉ sub.map (·.1) → g'.get? b = some o) → (∀ b o, g'.get? b = some o → s.heap.get? b = some o) →
   Fm w (A.deeper env') env' g' base (env :: outer) nm' G' →
   Stt s g' env'.locals (lcs nm' vals') sub s_1 →
   wpAny (model prog w) (A.deeper env') (execs body env')
    (DPost s g' env'.locals s0 g env.locals m rest Q) NE s_1) :
  wpAny (model prog w) A (PySem.call (.ref f) args) Q E s :=
 have X : (hK w.params).In s.heap := C.X.keeps S.fr.keep
 C.callE S (cl := []) (fun _ => NE) (X _ _ ho) rfl (codeRec_of X hcd) hroom hbind hlen hvals hck hcell hco hgen hkf (fun _ _ _ x => x.elim)
  (fun g' L' s_1 a b c d => h g' L' _ s_1 rfl a b c d)
end
noncomputable def LPost (s0 : Shared) (g : Heap) (L : Addr) (I : Addr) (it : Obj) (J : (SM) → List (Addr × Obj) → Prop) (Q : FP) (f : Flow) (s : Shared) : Prop :=
 match f with
 | .ret v => Q (.ret v) s
 | .brk => Q .next s
 | _ => Ex2 fun m r => And (Stt s0 g L m ((I, it) :: r) s) (J m r)
section
variable {prog : Program} {w : World} {A : Around} {env : Env} {g base : Heap} {outer : List Env} {nm : List Str} {G : SV}
 {s0 s : Shared} {m : SM} {rest : LD}
theorem for_walk (C : Fm w A env g base outer nm G) {x : Str} {px : Pos} {body : List Stmt} {I : Addr} {it0 : Obj} {fp : List Addr} {n : Nat} {P : Nat → Value → Prop} {St : Nat → Heap → Prop} {Q : FP}
  (W : Walks prog w A I fp [I] n P St) (hx : x ∈ nm) (S : Stt s0 g env.locals m ((I, it0) :: rest) s) (hst : St 0 s.heap)
  (hlive : ∀ i h, St i h → ∃ o, h.get? I = some o) (hL : env.locals ∉ fp)
  (J : Nat → (SM) → List (Addr × Obj) → Prop)
  (hkeep : ∀ b ∈ fp, b ≠ I → g.get? b = none → ∃ o, ∀ i m r, J i m r → (b, o) ∈ r)
  (h0 : J 0 m rest)
  (turn : ∀ i v m1 r_1 it s_1, i < n → P i v → J i m1 r_1 → Stt s0 g env.locals (fun y => if y = x then some v else m1 y) ((I, it) :: r_1) s_1 →
   wpAny (model prog w) A (execs body env) (LPost s0 g env.locals I it (J (i + 1)) Q) NE s_1)
  (done : ∀ m1 r_1 s_1, J n m1 r_1 → Stt s0 g env.locals m1 r_1 s_1 → Q .next s_1) :
  codeAny (model prog w) A (.forLoop (.Name x px) (.ref I) body [] env) (fun r s' => match r with | .ok f => Q f s' | .error e => cameBackBy (model prog w) A env NE e s') s := by
 have hnd := S.nd
 simp only [List.map_cons, List.nodup_cons] at hnd
 have hI : g.get? I = none := (S.led _ (.head _)).2.2
 have hIL : I ≠ env.locals := (S.led _ (.head _)).2.1
 have Ifp : I ∈ fp := W.sub I (.head _)
 obtain ⟨hh, tt, hs0⟩ := S.same
 refine codeAny_forLoop_frV W (C.loc x hx).1 C.plain hL (fun b hb => by rw [List.mem_singleton.mp hb]; exact hI)
  (news := rest) (fun p hp q => hnd.1 (by rw [← List.mem_singleton.mp q]; exact List.mem_map_of_mem hp)) hst S.fr (fun p hp => S.led p (.tail _ hp))
  (fun i m r => J i m r ∧ (r.map (·.1)).Nodup) ⟨h0, hnd.2⟩ ?_ ?_
 ·rintro i v m1 r_1 s_1 own ⟨h_1, tk1, rfl⟩ hi hP ⟨hJ, hn1⟩ hoff hown hget hall hst1 F1 N1
  obtain ⟨it, hit⟩ := hlive _ _ hst1
  have hio : (I, it) ∈ own := hall I Ifp hI it hit
  have hIr : I ∉ r_1.map (·.1) := fun q => by
   obtain ⟨p, hp, e⟩ := List.mem_map.mp q
   exact hoff p hp (by rw [e]; exact .head _)
  have S_1 : Stt s0 g env.locals (fun y => if y = x then some v else m1 y) ((I, it) :: r_1) { s with heap := h_1, toks := tk1 } := by
   refine ⟨⟨h_1, tk1, by rw [hs0]⟩, F1, fun p hp => ?_, ?_⟩
   ·rcases List.mem_cons.mp hp with rfl | hp
    ·exact N1 _ (List.mem_append_left _ hio)
    ·exact N1 _ (List.mem_append_right _ hp)
   ·simp only [List.map_cons, List.nodup_cons]; exact ⟨hIr, hn1⟩
  refine wpAny_mono (turn i v m1 r_1 it _ hi hP hJ S_1) (fun f s_2 p => ?_) fun _ _ e => e.elim
  have fin : (Ex2 fun m r => And (Stt s0 g env.locals m ((I, it) :: r) s_2) (J (i + 1) m r)) →
    LoopStepU g env.locals [I] own (fun m r => J (i + 1) m r ∧ (r.map (·.1)).Nodup) { s with heap := h_1, toks := tk1 } .next s_2 := by
   rintro ⟨m2, r_2, S_2, hJ2⟩
   obtain ⟨h_2, tk2, e_2⟩ := S_2.same
   have nd2 := S_2.nd
   simp only [List.map_cons, List.nodup_cons] at nd2
   refine ⟨rfl, h_2, tk2, m2, r_2, by rw [e_2, hs0], by rw [e_2] at S_2; exact S_2.fr, fun p hp => ?_, fun p hp q => nd2.1 (by rw [← List.mem_singleton.mp q]; exact List.mem_map_of_mem hp), hJ2, nd2.2⟩
   have L2 : News g env.locals h_2 ((I, it) :: r_2) := by rw [e_2] at S_2; exact S_2.led
   rcases List.mem_append.mp hp with hp | hp
   ·by_cases hpI : p.1 = I
    ·have : p = (I, it) := by
      have e := hget p hp
      rw [hpI, hit] at e
      exact Prod.ext hpI (Option.some.inj e).symm
     rw [this]; exact L2 _ (.head _)
    ·have hgn : g.get? p.1 = none := (N1 p (List.mem_append_left _ hp)).2.2
     obtain ⟨o, ho⟩ := hkeep p.1 (hown p hp) hpI hgn
     have h1 := ho _ _ _ hJ
     have h2 := (N1 _ (List.mem_append_right _ h1)).1
     have h3 := hget p hp
     rw [h2] at h3
     have : p = (p.1, o) := Prod.ext rfl (Option.some.inj h3).symm
     rw [this]; exact L2 _ (.tail _ (ho _ _ _ hJ2))
   ·exact L2 p (.tail _ hp)
  cases f with
  | ret v => exact .ret p
  | brk => exact .brk p
  | next => exact .next (fin p)
  | cont => exact .cont (fin p)
 ·rintro h' tk m' r' F' N' _ ⟨hJ, hn⟩
  exact done m' r' _ hJ ⟨⟨h', tk, by rw [hs0]⟩, F', N', hn⟩
theorem for_list (C : Fm w A env g base outer nm G) {x : Str} {px pos : Pos} {iter : Expr} {body : List Stmt} {Q : FP} (hx : x ∈ nm)
  (h : wpAny (model prog w) A (eval iter env) (fun xv s_1 => Ex7 fun (s0 : Shared) (l : Addr) (lo : Obj) (vs : List Value) (J : Nat → (SM) → List (Addr × Obj) → Prop) (m : SM) (rest : LD) => An8 (xv = .ref l) (lo.cls = .type "list") (∃ n, lo.data = .seq vs.toArray n) (Stt s0 g env.locals m rest s_1) (g.get? l = some lo ∨ ∀ i m r, J i m r → (l, lo) ∈ r) (J 0 m rest) (∀ i v m1 r_1 I it s_2, vs[i]? = some v → J i m1 r_1 → Stt s0 g env.locals (fun y => if y = x then some v else m1 y) ((I, it) :: r_1) s_2 → wpAny (model prog w) A (execs body env) (LPost s0 g env.locals I it (J (i + 1)) Q) NE s_2) (∀ m1 r_1 s_2, J vs.length m1 r_1 → Stt s0 g env.locals m1 r_1 s_2 → Q .next s_2)) NE s)
  (hs : ∀ x, foldedSetIterable iter env x = pure x := by intro _; rfl) :
  wpAny (model prog w) A (exec (.For (.Name x px) iter body [] pos) env) Q NE s := by
 refine wpAny_For (wpAny_mono h (fun xv s_1 h_1 => ?_) fun _ _ e => e) hs
 obtain ⟨s0, l, lo, vs, J, m, rest, rfl, hc, ⟨n, hd⟩, S, hl, h0, turn, done⟩ := h_1
 have hlo : s_1.heap.get? l = some lo := hl.elim (fun e => S.base e) fun e => S.get (e _ _ _ h0)
 have hls : s_1.heap.IsList l vs.toArray := ⟨lo, hlo, hc, n, hd⟩
 have hne : l ≠ s_1.heap.objs.size := Nat.ne_of_lt (Heap.lt_size hlo)
 have hlL : l ≠ env.locals := by
  rcases hl with e | e
  ·exact Nat.ne_of_lt (Nat.lt_of_lt_of_le (Heap.lt_size e) S.fr.above)
  ·exact (S.led _ (e _ _ _ h0)).2.1
 refine wpAny_pyIter_list hls ?_
 have S' := S.push { cls := .type "list_iterator", data := .fields #[.ref l, .int 0 0] } s_1.toks
 refine for_walk C (Walks.list C.hh s_1.heap.objs.size l hne vs.toArray) hx S' ⟨⟨_, Heap.get?_push_size _ rfl, rfl, rfl⟩, hls.at fun o e => Heap.get?_push_of_some _ e⟩
  (fun i h ⟨⟨o, e, _⟩, _⟩ => ⟨o, e⟩) ?_ J ?_ h0 ?_ ?_
 ·intro hm
  rcases List.mem_cons.mp hm with e | hm
  ·exact (S'.led _ (.head _)).2.1 e.symm
  ·exact hlL (List.mem_singleton.mp hm).symm
 ·intro b hb hbI hg
  rcases List.mem_cons.mp hb with e | hb
  ·exact absurd e hbI
  ·obtain rfl := List.mem_singleton.mp hb
   rcases hl with e | e
   ·rw [hg] at e; cases e
   ·exact ⟨lo, e⟩
 ·intro i v m1 r_1 it s_2 hi hP hJ S_2
  exact turn i v m1 r_1 _ it s_2 (by simpa using hP) hJ S_2
 ·intro m1 r_1 s_2 hJ S_2
  exact done m1 r_1 s_2 (by simpa using hJ) S_2
theorem for_tuple (C : Fm w A env g base outer nm G) {x : Str} {px pos : Pos} {iter : Expr} {body : List Stmt} {Q : FP} (hx : x ∈ nm)
  (h : wpAny (model prog w) A (eval iter env) (fun xv s_1 => Ex7 fun (s0 : Shared) (l : Addr) (lo : Obj) (vs : List Value) (J : Nat → (SM) → List (Addr × Obj) → Prop) (m : SM) (rest : LD) => An8 (xv = .ref l) (lo.cls = .type "tuple") (∃ n, lo.data = .seq vs.toArray n) (Stt s0 g env.locals m rest s_1) (g.get? l = some lo ∨ ∀ i m r, J i m r → (l, lo) ∈ r) (J 0 m rest) (∀ i v m1 r_1 I it s_2, vs[i]? = some v → J i m1 r_1 → Stt s0 g env.locals (fun y => if y = x then some v else m1 y) ((I, it) :: r_1) s_2 → wpAny (model prog w) A (execs body env) (LPost s0 g env.locals I it (J (i + 1)) Q) NE s_2) (∀ m1 r_1 s_2, J vs.length m1 r_1 → Stt s0 g env.locals m1 r_1 s_2 → Q .next s_2)) NE s)
  (hs : ∀ x, foldedSetIterable iter env x = pure x := by intro _; rfl) :
  wpAny (model prog w) A (exec (.For (.Name x px) iter body [] pos) env) Q NE s := by
 refine wpAny_For (wpAny_mono h (fun xv s_1 h_1 => ?_) fun _ _ e => e) hs
 obtain ⟨s0, l, lo, vs, J, m, rest, rfl, hc, ⟨n, hd⟩, S, hl, h0, turn, done⟩ := h_1
 have hlo : s_1.heap.get? l = some lo := hl.elim (fun e => S.base e) fun e => S.get (e _ _ _ h0)
 have hls : s_1.heap.IsTuple l vs.toArray := ⟨lo, hlo, hc, n, hd⟩
 have hne : l ≠ s_1.heap.objs.size := Nat.ne_of_lt (Heap.lt_size hlo)
 have hlL : l ≠ env.locals := by
  rcases hl with e | e
  ·exact Nat.ne_of_lt (Nat.lt_of_lt_of_le (Heap.lt_size e) S.fr.above)
  ·exact (S.led _ (e _ _ _ h0)).2.1
 refine wpAny_pyIter_tuple hls ?_
 have S' := S.push { cls := .type "tuple_iterator", data := .fields #[.ref l, .int 0 0] } s_1.toks
 refine for_walk C (Walks.tuple C.hh s_1.heap.objs.size l hne vs.toArray) hx S' ⟨⟨_, Heap.get?_push_size _ rfl, rfl, rfl⟩, hls.push _⟩
  (fun i h ⟨⟨o, e, _⟩, _⟩ => ⟨o, e⟩) ?_ J ?_ h0 ?_ ?_
 ·intro hm
  rcases List.mem_cons.mp hm with e | hm
  ·exact (S'.led _ (.head _)).2.1 e.symm
  ·exact hlL (List.mem_singleton.mp hm).symm
 ·intro b hb hbI hg
  rcases List.mem_cons.mp hb with e | hb
  ·exact absurd e hbI
  ·obtain rfl := List.mem_singleton.mp hb
   rcases hl with e | e
   ·rw [hg] at e; cases e
   ·exact ⟨lo, e⟩
 ·intro i v m1 r_1 it s_2 hi hP hJ S_2
  exact turn i v m1 r_1 _ it s_2 (by simpa using hP) hJ S_2
 ·intro m1 r_1 s_2 hJ S_2
  exact done m1 r_1 s_2 (by simpa using hJ) S_2
noncomputable abbrev rangeObj (a b c : Int) (t u v : Tok) : Obj := { cls := .type "range", data := .fields #[.int a t, .int b u, .int c v] }
theorem for_range (C : Fm w A env g base outer nm G) {x : Str} {px pos : Pos} {iter : Expr} {body : List Stmt} {Q : FP} (hx : x ∈ nm)
  (h : wpAny (model prog w) A (eval iter env) (fun xv s_1 => Ex11 fun (s0 : Shared) (l : Addr) (a : Int) (b : Int) (n : Nat) (t : Tok) (u : Tok) (v : Tok) (J : Nat → (SM) → List (Addr × Obj) → Prop) (m : SM) (rest : LD) => An7 (xv = .ref l) (Stt s0 g env.locals m rest s_1) (s_1.heap.get? l = some (rangeObj a b 1 t u v)) (b = a + n ∧ -(2 ^ 60) ≤ a ∧ a < 2 ^ 60 ∧ n < 2 ^ 60) (J 0 m rest) (∀ i t m1 r_1 I it s_2, i < n → J i m1 r_1 → Stt s0 g env.locals (fun y => if y = x then some (.int (a + i) t) else m1 y) ((I, it) :: r_1) s_2 → wpAny (model prog w) A (execs body env) (LPost s0 g env.locals I it (J (i + 1)) Q) NE s_2) (∀ m1 r_1 s_2, J n m1 r_1 → Stt s0 g env.locals m1 r_1 s_2 → Q .next s_2)) NE s)
  (hs : ∀ x, foldedSetIterable iter env x = pure x := by intro _; rfl) :
  wpAny (model prog w) A (exec (.For (.Name x px) iter body [] pos) env) Q NE s := by
 refine wpAny_For (wpAny_mono h (fun xv s_1 h_1 => ?_) fun _ _ e => e) hs
 obtain ⟨s0, l, a, b, n, t, u, v, J, m, rest, rfl, S, hr, ⟨rfl, b1, b2, b3⟩, h0, turn, done⟩ := h_1
 have hr' : IsRange s_1.heap l a (a + n) 1 t u v := hr
 have hsz : Builtin.Range.rangeSize a (a + n) 1 = (n : Int) := by
  rw [rangeSize_one]; split <;> lia
 refine wpAny_pyIter_range hr' (small_one (by lia) (by lia) (by lia) (by lia)) ?_
 rw [hsz]
 have S' := S.push { cls := .type "range_iterator", data := .fields #[rawInt a, rawInt n, rawInt 1] } s_1.toks
 refine for_walk C (Walks.range C.hh s_1.heap.objs.size a 1 n) hx S' (by simpa using Heap.get?_push_size _ rfl)
  (fun i h e => ⟨_, e⟩) ?_ J ?_ h0 ?_ ?_
 ·intro hm
  exact (S'.led _ (.head _)).2.1 (List.mem_singleton.mp hm).symm
 ·intro b hb hbI hg
  exact absurd (List.mem_singleton.mp hb) hbI
 ·rintro i _ m1 r_1 it s_2 hi ⟨t, rfl⟩ hJ S_2
  rw [Int.mul_one] at S_2
  exact turn i t m1 r_1 _ it s_2 hi hJ S_2
 ·exact done
end
inductive All2 {α β : Type} (R : α → β → Prop) : List α → List β → Prop where
 | nil : All2 R [] []
 | cons {a b as bs} : R a b → All2 R as bs → All2 R (a :: as) (b :: bs)
namespace All2
variable {α β : Type} {R S : α → β → Prop}
theorem length {as : List α} {bs : List β} (h : All2 R as bs) : as.length = bs.length := by
 induction h with
 | nil => rfl
 | cons _ _ ih => exact congrArg (· + 1) ih
theorem mono (f : ∀ a b, R a b → S a b) {as : List α} {bs : List β} (h : All2 R as bs) : All2 S as bs := by
 induction h with
 | nil => exact .nil
 | cons x _ ih => exact .cons (f _ _ x) ih
theorem get {as : List α} {bs : List β} {i : Nat} {b : β} (h : All2 R as bs) (e : bs[i]? = some b) : ∃ a, as[i]? = some a ∧ R a b := by
 induction h generalizing i with
 | nil => cases e
 | cons x _ ih =>
  cases i with
  | zero => cases e; exact ⟨_, rfl, x⟩
  | succ i => exact ih (i := i) e
theorem get' {as : List α} {bs : List β} {i : Nat} {a : α} (h : All2 R as bs) (e : as[i]? = some a) : ∃ b, bs[i]? = some b ∧ R a b := by
 induction h generalizing i with
 | nil => cases e
 | cons x _ ih =>
  cases i with
  | zero => cases e; exact ⟨_, rfl, x⟩
  | succ i => exact ih (i := i) e
theorem append {as as' : List α} {bs bs' : List β} (h : All2 R as bs) (h' : All2 R as' bs') : All2 R (as ++ as') (bs ++ bs') := by
 induction h with
 | nil => exact h'
 | cons x _ ih => exact .cons x ih
theorem snoc {as : List α} {bs : List β} {a : α} {b : β} (h : All2 R as bs) (x : R a b) : All2 R (as ++ [a]) (bs ++ [b]) := h.append (.cons x .nil)
theorem drop (n : Nat) {as : List α} {bs : List β} (h : All2 R as bs) : All2 R (as.drop n) (bs.drop n) := by
 induction h generalizing n with
 | nil => rw [List.drop_nil, List.drop_nil]; exact .nil
 | cons x h ih =>
  cases n with
  | zero => exact .cons x h
  | succ n => exact ih n
theorem take (n : Nat) {as : List α} {bs : List β} (h : All2 R as bs) : All2 R (as.take n) (bs.take n) := by
 induction h generalizing n with
 | nil => rw [List.take_nil, List.take_nil]; exact .nil
 | cons x h ih =>
  cases n with
  | zero => exact .nil
  | succ n => exact .cons x (ih n)
theorem set {i : Nat} {as : List α} {bs : List β} {a : α} {b : β} (h : All2 R as bs) (x : R a b) : All2 R (as.set i a) (bs.set i b) := by
 induction h generalizing i with
 | nil => exact .nil
 | cons y h ih =>
  cases i with
  | zero => exact .cons x h
  | succ i => exact .cons y ih
theorem reverse {as : List α} {bs : List β} (h : All2 R as bs) : All2 R as.reverse bs.reverse := by
 induction h with
 | nil => exact .nil
 | cons x _ ih => rw [List.reverse_cons, List.reverse_cons]; exact ih.snoc x
theorem mem {as : List α} {bs : List β} {a : α} (h : All2 R as bs) (q : a ∈ as) : ∃ b, b ∈ bs ∧ R a b := by
 induction h with
 | nil => cases q
 | cons x _ ih =>
  cases q with
  | head => exact ⟨_, .head _, x⟩
  | tail _ q => exact (ih q).imp fun _ h => ⟨.tail _ h.1, h.2⟩
end All2
noncomputable def Vi (v : Value) (i : Int) : Prop := ∃ t, v = .int i t
noncomputable def Vs (v : Value) (x : Str) : Prop := ∃ t, v = .str x t
theorem vi (i : Int) (t : Tok) : Vi (.int i t) i := ⟨t, rfl⟩
theorem vs_ (x : Str) (t : Tok) : Vs (.str x t) x := ⟨t, rfl⟩
noncomputable abbrev hp (h : Heap) : Addr → Obj → Prop := fun a o => h.get? a = some o
noncomputable abbrev ld (nw : LD) : Addr → Obj → Prop := fun a o => (a, o) ∈ nw
noncomputable def Ls (ρ : Addr → Obj → Prop) {α : Type} (R : Value → α → Prop) (v : Value) (xs : List α) : Prop :=
 ∃ a vs n, v = .ref a ∧ ρ a (W.listOf vs.toArray n) ∧ All2 R vs xs
noncomputable abbrev LsI (ρ : Addr → Obj → Prop) : Value → List Int → Prop := Ls ρ Vi
noncomputable abbrev LsLI (ρ : Addr → Obj → Prop) : Value → List (List Int) → Prop := Ls ρ (LsI ρ)
noncomputable abbrev LsS (ρ : Addr → Obj → Prop) : Value → List Str → Prop := Ls ρ Vs
noncomputable abbrev LI (h : Heap) : Value → List Int → Prop := LsI (hp h)
noncomputable abbrev LLI (h : Heap) : Value → List (List Int) → Prop := LsLI (hp h)
noncomputable abbrev LS (h : Heap) : Value → List Str → Prop := LsS (hp h)
theorem Ls.mono {ρ ρ' : Addr → Obj → Prop} {α : Type} {R S : Value → α → Prop} (hk : ∀ a o, ρ a o → ρ' a o) (f : ∀ a b, R a b → S a b) {v : Value} {xs : List α} (x : Ls ρ R v xs) : Ls ρ' S v xs := by
 refine byG fun GG hGG => ?_
 obtain ⟨a, vs, n, e, ho, hall⟩ := x
 refine hGG ?_
 clear hGG GG
 exact ⟨a, vs, n, e, hk _ _ ho, hall.mono f⟩
theorem LsI.up {ρ ρ' : Addr → Obj → Prop} (hk : ∀ a o, ρ a o → ρ' a o) {v : Value} {xs : List Int} (x : LsI ρ v xs) : LsI ρ' v xs := Ls.mono hk (fun _ _ y => y) x
theorem LsS.up {ρ ρ' : Addr → Obj → Prop} (hk : ∀ a o, ρ a o → ρ' a o) {v : Value} {xs : List Str} (x : LsS ρ v xs) : LsS ρ' v xs := Ls.mono hk (fun _ _ y => y) x
theorem LsLI.up {ρ ρ' : Addr → Obj → Prop} (hk : ∀ a o, ρ a o → ρ' a o) {v : Value} {xs : List (List Int)} (x : LsLI ρ v xs) : LsLI ρ' v xs := Ls.mono hk (fun _ _ y => LsI.up hk y) x
theorem isL {h : Heap} {a : Addr} {its : Array Value} {n : Nat} (e : h.get? a = some (W.listOf its n)) : h.IsList a its := ⟨_, e, rfl, n, rfl⟩
section
variable {M : Model} {prog : Program} {w : World} {A : Around} {env : Env} {g base : Heap} {outer : List Env} {nm : List Str} {G : SV}
 {E : VP} {s0 s : Shared} {vals vals' : OV} {m : SM} {news news' : LD}
theorem r_expr (C : Fm w A env g base outer nm G) {e : Expr} {pos : Pos} {Q : FP} (h : wpAny M A (eval e env) (fun v s' => match v with | .ref _ => False | _ => Q .next s') E s)
  (hs : swapsWith e none pos.line env = pure false := by exact rfl) : wpAny M A (exec (.Expr e pos) env) Q E s :=
 wpAny_Expr h (by unfold interactive; rw [C.hk]; rfl) hs
theorem r_item {l : Addr} {vs : List Value} {n : Nat} {k : Int} {u : Tok} {v : Value} {value slice : Expr} {Q : VP}
  (hl : s.heap.get? l = some (W.listOf vs.toArray n)) (h0 : 0 ≤ k) (hk : k < 2 ^ 63) (hx : vs[k.toNat]? = some v) (h : Q v s)
  (hs : subscripted slice false (.ref l) (.int k u) = operate [.ref l, .int k u] (getItem (.ref l) (.int k u)) := by with_unfolding_all rfl) :
  wpAny (model prog w) A (subscriptTail value slice (.ref l) (.int k u)) Q E s :=
 tail_any (isL hl).typeIs slot_list_getitem.lookup (wpAny_getItem_list (isL hl) h0 hk (by simpa using hx) h) hs
theorem r_itemNeg {l : Addr} {vs : List Value} {n : Nat} {k : Int} {u : Tok} {v : Value} {value slice : Expr} {Q : VP}
  (hl : s.heap.get? l = some (W.listOf vs.toArray n)) (h0 : k < 0) (h1 : -(vs.length : Int) ≤ k) (hk : -(2 ^ 63) ≤ k) (hx : vs[(k + vs.length).toNat]? = some v) (h : Q v s)
  (hs : subscripted slice false (.ref l) (.int k u) = operate [.ref l, .int k u] (getItem (.ref l) (.int k u)) := by with_unfolding_all rfl) :
  wpAny (model prog w) A (subscriptTail value slice (.ref l) (.int k u)) Q E s :=
 tail_any (isL hl).typeIs slot_list_getitem.lookup (wpAny_getItem_list_neg (isL hl) h0 (by simpa using h1) hk (by simpa using hx) h) hs
theorem r_len (S : Stt s0 g env.locals m news s) {l : Addr} {vs : List Value} {n : Nat} {Q : VP} (hl : s.heap.get? l = some (W.listOf vs.toArray n)) (hsz : vs.length < 2 ^ 62)
  (h : ∀ t s', Stt s0 g env.locals m news s' → s'.heap = s.heap → Q (.int (vs.length : Nat) t) s') : wpAny (model prog w) A (call (.builtin "len") [.ref l]) Q E s :=
 Calls.call_len_list (isL hl) (by simp only [List.size_toArray]; lia) (by
  have := h (s.toks + 1) _ (S.tok (s.toks + 1 + 1)) rfl
  simpa using this)
theorem r_truthy (S : Stt s0 g env.locals m news s) {l : Addr} {vs : List Value} {n : Nat} {Q : Bool → Shared → Prop} (hl : s.heap.get? l = some (W.listOf vs.toArray n)) (hsz : vs.length < 2 ^ 62)
  (h : ∀ s', Stt s0 g env.locals m news s' → s'.heap = s.heap → Q (!vs.isEmpty) s') : wpAny (model prog w) A (truthy (.ref l)) Q E s :=
 wpAny_truthy_list (isL hl) (by simp only [List.size_toArray]; lia) (by
  have := h _ (S.tok (s.toks + 1 + 1)) rfl
  simpa using this)
theorem bits_le {a : Int} (h : a.natAbs < 2 ^ 64) : Builtin.Int.intBits a ≤ 64 := by
 unfold Builtin.Int.intBits
 split
 ·lia
 ·rename_i h0
  have h1 : a.natAbs ≠ 0 := fun e => h0 (by simpa using e)
  have := (Nat.log2_lt h1).mpr h
  lia
theorem r_mul (S : Stt s0 g env.locals m news s) {a b : Int} {t u : Tok} {Q : VP} (hb : b.natAbs < 2 ^ 64) (h : ∀ t s', Stt s0 g env.locals m news s' → Q (.int (a * b) t) s') :
  wpAny (model prog w) A (binaryOp .Mult (.int a t) (.int b u)) Q E s := P.mul_int (h _ _ (S.tok _)) (.of_right (bits_le hb))
theorem r_sub (S : Stt s0 g env.locals m news s) {a b : Int} {t u : Tok} {Q : VP} (h : ∀ t s', Stt s0 g env.locals m news s' → Q (.int (a - b) t) s') :
  wpAny (model prog w) A (binaryOp .Sub (.int a t) (.int b u)) Q E s := P.sub_int (h _ _ (S.tok _))
theorem r_iadd (S : Stt s0 g env.locals m news s) {a b : Int} {t u : Tok} {Q : VP} (h : ∀ t s', Stt s0 g env.locals m news s' → Q (.int (a + b) t) s') :
  wpAny (model prog w) A (inplaceOp .Add (.int a t) (.int b u)) Q E s := P.iadd_int (h _ _ (S.tok _))
theorem r_isub (S : Stt s0 g env.locals m news s) {a b : Int} {t u : Tok} {Q : VP} (h : ∀ t s', Stt s0 g env.locals m news s' → Q (.int (a - b) t) s') :
  wpAny (model prog w) A (inplaceOp .Sub (.int a t) (.int b u)) Q E s := P.isub_int (h _ _ (S.tok _))
theorem r_neg (S : Stt s0 g env.locals m news s) {a : Int} {t : Tok} {Q : VP} (h : ∀ t s', Stt s0 g env.locals m news s' → Q (.int (-a) t) s') :
  wpAny (model prog w) A (unaryOp .USub (.int a t)) Q E s := P.neg_int (h _ _ (S.tok _))
theorem r_mod (C : Fm w A env g base outer nm G) (S : Stt s0 g env.locals m news s) {a b : Int} {t u : Tok} {Q : VP} (hb : 0 < b) (h : ∀ t s', Stt s0 g env.locals m news s' → Q (.int (a % b) t) s') :
  wpAny (model prog w) A (binaryOp .Mod (.int a t) (.int b u)) Q E s := mod_int_or C.hh (fun e => by lia) fun _ => by
 rw [Int.fmod_eq_emod_of_nonneg a (by lia)]; exact h _ _ (S.tok _)
theorem r_fdiv (C : Fm w A env g base outer nm G) (S : Stt s0 g env.locals m news s) {a b : Int} {t u : Tok} {Q : VP} (hb : 0 < b) (hb' : b < 2 ^ 29) (h : ∀ t s', Stt s0 g env.locals m news s' → Q (.int (a / b) t) s') :
  wpAny (model prog w) A (binaryOp .FloorDiv (.int a t) (.int b u)) Q E s := floordiv_int_or C.hh (fun e => by lia) (fun _ => by
 rw [Int.fdiv_eq_ediv_of_nonneg a (by lia)]; exact h _ _ (S.tok _)) (fun _ => Or.inl (PyProof.noPylong_small (by lia)))
noncomputable abbrev sliceObj (l u : Value) : Obj := { cls := .type "slice", data := .fields #[l, u, .none] }
theorem r_sliceE {lower upper : Option Expr} {p : Pos} {Q : VP}
  (h : wpAny M A (evalPart lower env) (fun l s_1 => wpAny M A (evalPart upper env) (fun u s_2 => Ex4 fun s0 g m1 news1 => And (Stt s0 g env.locals m1 news1 s_2) (∀ a s', Stt s0 g env.locals m1 ((a, sliceObj l u) :: news1) s' → s'.heap = s_2.heap.push (sliceObj l u) → Q (.ref a) s')) E s_1) E s) :
  wpAny M A (eval (.Slice lower upper none p) env) Q E s :=
 wpAny_Slice (wpAny_mono h (fun l s_1 h_1 => wpAny_mono h_1 (fun u s_2 h_2 => by
  refine byG fun GG hGG => ?_
  obtain ⟨s0, g, m1, news1, S_1, k⟩ := h_2
  refine hGG ?_
  clear hGG GG
  exact wpAny_evalPart_none (k _ _ (S_1.push _ s_2.toks) rfl)) fun _ _ e => e) fun _ _ e => e)
theorem r_sliceT (S : Stt s0 g env.locals m news s) {l sl : Addr} {vl vu : Value} {vs : Array Value} {n : Nat} {lo hi : Option Int} {value slice : Expr} {Q : VP}
  (hl : s.heap.get? l = some (W.listOf vs n)) (hs : s.heap.get? sl = some (sliceObj vl vu)) (pl : IsPart vl lo) (pu : IsPart vu hi) (hsz : vs.size ≤ 1000)
  (k : ∀ a s', Stt s0 g env.locals m ((a, W.listOf (slicePick vs lo hi none) 0) :: news) s' → Q (.ref a) s')
  (hsub : subscripted slice false (.ref l) (.ref sl) = operate [.ref sl, .ref l] (getItem (.ref l) (.ref sl)) := by with_unfolding_all rfl) :
  wpAny (model prog w) A (subscriptTail value slice (.ref l) (.ref sl)) Q E s :=
 tail_any (isL hl).typeIs slot_list_getitem.lookup (wpAny_getItem_list_slice (isL hl) ⟨_, hs, rfl, rfl⟩ pl pu .none (by simp) (k _ _ (S.push _ s.toks)) (Nat.le_trans hsz (by decide))) hsub
theorem sp_from (vs : List Value) (a : Nat) (ha : a ≤ vs.length) : slicePick vs.toArray (some (a : Int)) none none = (vs.drop a).toArray := by
 rw [slicePick_from _ _ (by simpa using ha)]
theorem sp_upto (vs : List Value) (b : Nat) (hb : b ≤ vs.length) : slicePick vs.toArray none (some (b : Int)) none = (vs.take b).toArray := by
 rw [slicePick_upto _ _ (by simpa using hb)]
theorem sp_butlast (vs : List Value) : slicePick vs.toArray none (some (-1)) none = vs.dropLast.toArray := by
 unfold slicePick
 have e : sliceBounds none (some (-1)) none vs.toArray.size = (((0 : Nat) : Int), ((vs.length - 1 : Nat) : Int), 1) := by
  simp only [sliceBounds, Option.getD_none, List.size_toArray, show (1 : Int) > 0 by decide, if_true, show ((-1 : Int) < 0) by decide]
  congr 1
  congr 1
  exact n4
 rw [e]
 simp only [sliceRange_one, pick_run]
 simp [List.dropLast_eq_take]
theorem r_range2 (S : Stt s0 g env.locals m news s) {a b : Int} {t u : Tok} {Q : VP}
  (h : ∀ r t u v s', Stt s0 g env.locals m ((r, rangeObj a b 1 t u v) :: news) s' → Q (.ref r) s') : wpAny (model prog w) A (call (.type "range") [.int a t, .int b u]) Q E s :=
 call_range_2 (h _ _ _ _ _ (S.push _ _))
theorem r_range1 (S : Stt s0 g env.locals m news s) {b : Int} {u : Tok} {Q : VP}
  (h : ∀ r t u v s', Stt s0 g env.locals m ((r, rangeObj 0 b 1 t u v) :: news) s' → Q (.ref r) s') : wpAny (model prog w) A (call (.type "range") [.int b u]) Q E s :=
 call_range_1 (h _ _ _ _ _ (S.push _ _))
theorem r_cwB {pos : Pos} {id : String} {first : List Value} {e : Expr} {es : List Expr} {Q : VP}
  (h : wpAny M A (spliced (backTo pos (starEach (e :: es) env))) (fun vs s_1 => wpAny M A (call (.builtin id) (first ++ vs)) Q E s_1) E s)
  (he : starEach (e :: es) env = (false, eval e env) :: starEach es env := by exact rfl) (hplain : (backTo pos (starEach es env)).any (·.1) = false := by exact rfl) :
  wpAny M A (callWith pos (.builtin id) first (backTo pos (starEach (e :: es) env)) []) Q E s := by
 rw [he] at h ⊢
 exact callWith_builtin (by show (false || (backTo pos (starEach es env)).any (·.1)) = false; rw [hplain]; rfl) (evalArgs_plain h)
theorem ints_of {vs : List Value} {ns : List Int} (h : All2 Vi vs ns) : IntsAre vs ns := by
 induction h with
 | nil => exact .nil
 | cons x _ ih => obtain ⟨t, rfl⟩ := x; exact .cons _ t ih
theorem any_contains (ns : List Int) (k : Int) : ns.any (· == k) = ns.contains k := by
 induction ns with
 | nil => rfl
 | cons a r ih => rw [List.any_cons, List.contains_cons, ih, Bool.beq_comm]
theorem r_in {l : Addr} {vs : List Value} {ns : List Int} {n : Nat} {k : Int} {t : Tok} {Q : VP} (hl : s.heap.get? l = some (W.listOf vs.toArray n)) (hi : All2 Vi vs ns)
  (h : Q (.bool (ns.contains k)) s) : wpAny (model prog w) A (compareOp .In (.int k t) (.ref l)) Q E s :=
 PyProof.Rows.in_list_ints (isL hl) (ints_of hi) (by rw [any_contains]; exact h)
theorem r_notin {l : Addr} {vs : List Value} {ns : List Int} {n : Nat} {k : Int} {t : Tok} {Q : VP} (hl : s.heap.get? l = some (W.listOf vs.toArray n)) (hi : All2 Vi vs ns)
  (h : Q (.bool (!ns.contains k)) s) : wpAny (model prog w) A (compareOp .NotIn (.int k t) (.ref l)) Q E s :=
 PyProof.Rows.notin_list_ints (isL hl) (ints_of hi) (by rw [any_contains]; exact h)
theorem r_eqb {a b : Bool} {Q : VP} (h : Q (.bool (a == b)) s) : wpAny (model prog w) A (compareOp .Eq (.bool a) (.bool b)) Q E s := eq_bool h
end
noncomputable def wAt (ws : List (List Int)) (k : Int) : List Int := ws.getD k.toNat []
theorem All2.at {R : Value → List Int → Prop} {vs : List Value} {ws : List (List Int)} {k : Int} (h : All2 R vs ws) (h0 : 0 ≤ k) (hk : k < ws.length) : ∃ v, vs[k.toNat]? = some v ∧ R v (wAt ws k) := by
 have hlt : k.toNat < ws.length := by lia
 exact h.get (by rw [wAt, List.getD_eq_getElem?_getD, List.getElem?_eq_getElem hlt]; rfl)
theorem all2_dropLast {α β : Type} {R : α → β → Prop} {as : List α} {bs : List β} (h : All2 R as bs) : All2 R as.dropLast bs.dropLast := by
 rw [List.dropLast_eq_take, List.dropLast_eq_take, h.length]; exact h.take _
theorem any_take {α : Type} {p : α → Bool} {l : List α} {i : Nat} {x : α} (h : (l.take i).any p = false) (hx : l[i]? = some x) (hp : p x = false) : (l.take (i + 1)).any p = false := by
 rw [List.take_add_one, hx]; simp [h, hp]
theorem any_hit {α : Type} {p : α → Bool} {l : List α} {i : Nat} {x : α} (hx : l[i]? = some x) (hp : p x = true) : l.any p = true :=
 List.any_eq_true.mpr ⟨x, List.mem_of_getElem? hx, hp⟩
noncomputable abbrev tupObj (vs : List Value) : Obj := { cls := .type "tuple", data := .seq vs.toArray }
inductive IntLits : List Expr → List Int → Prop where
 | nil : IntLits [] []
 | cons {i k p es ns} (h : IntLits es ns) : IntLits (.Constant (.int i) k p :: es) (i :: ns)
inductive StrLits : List Expr → List Str → Prop where
 | nil : StrLits [] []
 | cons {x k p es ns} (h : StrLits es ns) : StrLits (.Constant (.str x) k p :: es) (x :: ns)
noncomputable def notComp : Expr → Bool
 | .ListComp .. | .SetComp .. | .DictComp .. => false
 | _ => true
theorem sw_of {value : Expr} {t : Option Expr} {l : Nat} {env : Env} (h : notComp value = true) : swapsWith value t l env = pure false := by
 cases value <;> first | rfl | cases h
theorem r_assign {M : Model} {A : Around} {E : VP} {s : Shared} {env : Env} {x : Str} {pos' pos : Pos} {value : Expr} {Q : FP}
  (h : wpAny M A (eval value env) (fun v s_1 => wpAny M A (storeName env x v) (fun _ => Q .next) E s_1) E s) (hn : notComp value = true := by exact rfl) :
  wpAny M A (exec (.Assign [.Name x pos'] value pos) env) Q E s := wpAny_Assign_Name h (sw_of hn)
section
variable {M : Model} {prog : Program} {w : World} {A : Around} {env : Env} {g base : Heap} {outer : List Env} {nm : List Str} {G : SV}
 {E : VP} {s0 s : Shared} {vals vals' : OV} {m : SM} {news news' : LD}
theorem r_itemL {l : Addr} {vs : List Value} {k : Int} {u : Tok} {v : Value} {value slice : Expr} {Q : VP}
  (hl : s.heap.IsList l vs.toArray) (h0 : 0 ≤ k) (hk : k < 2 ^ 63) (hx : vs[k.toNat]? = some v) (h : Q v s)
  (hs : subscripted slice false (.ref l) (.int k u) = operate [.ref l, .int k u] (getItem (.ref l) (.int k u)) := by with_unfolding_all rfl) :
  wpAny (model prog w) A (subscriptTail value slice (.ref l) (.int k u)) Q E s :=
 tail_any hl.typeIs slot_list_getitem.lookup (wpAny_getItem_list hl h0 hk (by simpa using hx) h) hs
theorem r_itemNegL {l : Addr} {vs : List Value} {k : Int} {u : Tok} {v : Value} {value slice : Expr} {Q : VP}
  (hl : s.heap.IsList l vs.toArray) (h0 : k < 0) (h1 : -(vs.length : Int) ≤ k) (hk : -(2 ^ 63) ≤ k) (hx : vs[(k + vs.length).toNat]? = some v) (h : Q v s)
  (hs : subscripted slice false (.ref l) (.int k u) = operate [.ref l, .int k u] (getItem (.ref l) (.int k u)) := by with_unfolding_all rfl) :
  wpAny (model prog w) A (subscriptTail value slice (.ref l) (.int k u)) Q E s :=
 tail_any hl.typeIs slot_list_getitem.lookup (wpAny_getItem_list_neg hl h0 (by simpa using h1) hk (by simpa using hx) h) hs
theorem r_lenL (S : Stt s0 g env.locals m news s) {l : Addr} {vs : List Value} {Q : VP} (hl : s.heap.IsList l vs.toArray) (hsz : vs.length < 2 ^ 62)
  (h : ∀ t s', Stt s0 g env.locals m news s' → s'.heap = s.heap → Q (.int (vs.length : Nat) t) s') : wpAny (model prog w) A (call (.builtin "len") [.ref l]) Q E s :=
 Calls.call_len_list hl (by simp only [List.size_toArray]; lia) (by
  have := h (s.toks + 1) _ (S.tok (s.toks + 1 + 1)) rfl
  simpa using this)
theorem r_truthyL (S : Stt s0 g env.locals m news s) {l : Addr} {vs : List Value} {Q : Bool → Shared → Prop} (hl : s.heap.IsList l vs.toArray) (hsz : vs.length < 2 ^ 62)
  (h : ∀ s', Stt s0 g env.locals m news s' → s'.heap = s.heap → Q (!vs.isEmpty) s') : wpAny (model prog w) A (truthy (.ref l)) Q E s :=
 wpAny_truthy_list hl (by simp only [List.size_toArray]; lia) (by
  have := h _ (S.tok (s.toks + 1 + 1)) rfl
  simpa using this)
theorem sp_ints {pos : Pos} {es : List Expr} {ns : List Int} (h : IntLits es ns) : ∀ {s : Shared} (S : Stt s0 g env.locals m news s) {Q : List Value → Shared → Prop}
  (k : ∀ vs s', All2 Vi vs ns → Stt s0 g env.locals m news s' → Q vs s'), wpAny M A (spliced (backTo pos (starEach es env))) Q E s := by
 induction h with
 | nil => intro s S Q k; exact wpAny_items_nil (k _ _ .nil S)
 | cons h ih =>
  intro s S Q k
  exact wpAny_items_cons (r_int S fun t s_1 S_1 => ih S_1 fun vs s' h' S' => k _ _ (.cons (vi _ _) h') S')
theorem sp_strs {pos : Pos} {es : List Expr} {ns : List Str} (h : StrLits es ns) : ∀ {s : Shared} (S : Stt s0 g env.locals m news s) {Q : List Value → Shared → Prop}
  (k : ∀ vs s', All2 Vs vs ns → Stt s0 g env.locals m news s' → Q vs s'), wpAny M A (spliced (backTo pos (starEach es env))) Q E s := by
 induction h with
 | nil => intro s S Q k; exact wpAny_items_nil (k _ _ .nil S)
 | cons h ih =>
  intro s S Q k
  exact wpAny_items_cons (r_str S fun t s_1 S_1 => ih S_1 fun vs s' h' S' => k _ _ (.cons (vs_ _ _) h') S')
theorem r_tuple {elts : List Expr} {kk : Nat} {pos : Pos} {Q : VP}
  (h : wpAny M A (spliced (backTo pos (starEach elts env))) (fun vs s_1 => Ex4 fun s0 g m news => An3 (Stt s0 g env.locals m news s_1) (vs.length ≤ 1000) (∀ a s', Stt s0 g env.locals m ((a, tupObj vs) :: news) s' → Q (.ref a) s')) E s) : wpAny M A (eval (.Tuple elts kk pos) env) Q E s :=
 wpAny_Tuple (wpAny_mono h (fun vs s_1 h_1 => by
  obtain ⟨s0, g, m, news, S, hl, k⟩ := h_1
  exact ⟨Nat.le_trans hl (by decide), k _ _ (S.push _ s_1.toks)⟩) fun _ _ e => e)
theorem r_list {elts : List Expr} {pos : Pos} {Q : VP}
  (h : wpAny M A (spliced (backTo pos (starEach elts env))) (fun vs s_1 => Ex4 fun s0 g m news => An3 (Stt s0 g env.locals m news s_1) (vs.length ≤ 1000) (∀ a s', Stt s0 g env.locals m ((a, W.listOf vs.toArray 0) :: news) s' → Q (.ref a) s')) E s) : wpAny M A (eval (.List elts pos) env) Q E s :=
 wpAny_List (wpAny_mono h (fun vs s_1 h_1 => by
  obtain ⟨s0, g, m, news, S, hl, k⟩ := h_1
  exact ⟨Nat.le_trans hl (by decide), k _ _ (S.push _ s_1.toks)⟩) fun _ _ e => e)
theorem r_tupItem {t : Addr} {vs : List Value} {k : Int} {u : Tok} {v : Value} {value slice : Expr} {Q : VP}
  (ht : s.heap.get? t = some (tupObj vs)) (h0 : 0 ≤ k) (hk : k < vs.length) (hb : vs.length < 1000) (hx : vs[k.toNat]? = some v) (h : Q v s)
  (hs : subscripted slice false (.ref t) (.int k u) = operate [.ref t, .int k u] (getItem (.ref t) (.int k u)) := by with_unfolding_all rfl) :
  wpAny (model prog w) A (subscriptTail value slice (.ref t) (.int k u)) Q E s :=
 item_tupleT ⟨_, ht, rfl, _, rfl⟩ (by lia) (by lia) (PySem.seqIndex_of h0 hk) hx h hs
theorem r_appendTo {o e : Expr} {apos pos : Pos} {Q : VP}
  (h : wpAny (model prog w) A (eval o env) (fun ov s_1 => Ex3 fun l its n => An3 (ov = .ref l) (s_1.heap.get? l = some (W.listOf its n)) (wpAny (model prog w) A (eval e env) (fun v s_2 => Ex7 fun s0 g m news its' n' news' => An5 (Stt s0 g env.locals m news s_2) (its'.length ≤ 1000) (s_2.heap.get? l = some (W.listOf its'.toArray n')) (Ch l (W.listOf its'.toArray n') (W.listOf (its' ++ [v]).toArray (n' + 1)) news news') (∀ s', Stt s0 g env.locals m news' s' → Q .none s')) E s_1)) E s)
  (hbase : attributeBase o "append" env (eval o env) = eval o env := by exact rfl)
  (hfew : ((backTo pos (starEach [e] env)).all (fun x => !x.1) && (backToKw pos (keywordEach [] env)).all (fun x => x.1.isSome)
   && decide (([e] : List Expr).length + ([] : List Keyword).length + (if ([] : List Keyword).isEmpty then 0 else 1) < 30)) = true := by exact rfl)
  (hline : (apos.endLine == pos.line) = true := by exact rfl)
  (htr : backTo pos (starEach [e] env) = [(false, eval e env)] := by exact rfl) :
  wpAny (model prog w) A (eval (.Call (.Attribute o "append" apos) [e] [] pos) env) Q E s := by
 refine wpAny_Call_method hbase hfew hline F.plainAttrs_list F.slot_list_append F.type_list_append (wpAny_mono h (fun ov s_1 h_1 => ?_) fun _ _ e => e)
 obtain ⟨l, its, n, rfl, hl, hc⟩ := h_1
 refine ⟨(isL hl).typeIs, fun a ea => by cases ea; exact ⟨_, hl, rfl⟩, ?_⟩
 rw [htr]
 refine P.append_list (wpAny_mono hc (fun v s_2 h_2 => ?_) fun _ _ e => e)
 obtain ⟨s0, g, m, news, its', n', news', S, hsz, hl2, U, k⟩ := h_2
 refine ⟨_, _, by simp only [List.size_toArray]; exact Nat.le_trans hsz (by decide), hl2, k _ (S.upd s_2.toks U ?_)⟩
 show Obj.mapSeq _ _ = _
 simp [Obj.mapSeq]
end
inductive HasS (L : Addr) (g : Heap) (s : Shared) : Prop
 | mk (s0 : Shared) (m : SM) (news : LD) (S : Stt s0 g L m news s) : HasS L g s
structure WP {α : Type} (M : Model) (A : Around) (t : Sem α) (Q : α → Shared → Prop) (E : VP) (s : Shared) : Prop where
 run : wpAny M A t Q E s
section
variable {α β γ δ : Type} {M : Model} {A : Around} {E : VP} {s : Shared}
theorem W0 {t : Sem α} {Q : α → Shared → Prop} (h : WP M A t Q E s) : wpAny M A t Q E s := h.run
theorem W1 {t : Sem α} {f : α → Shared → Sem β} {Q : α → β → Shared → Prop} (h : WP M A t (fun a s_1 => WP M A (f a s_1) (Q a) E s_1) E s) : wpAny M A t (fun a s_1 => wpAny M A (f a s_1) (Q a) E s_1) E s :=
 wpAny_mono h.run (fun _ _ h => h.run) fun _ _ e => e
theorem W2 {t : Sem α} {f : α → Sem β} {g : α → β → Sem γ} {Q : γ → Shared → Prop} (h : WP M A t (fun a s_1 => WP M A (f a) (fun b s_2 => WP M A (g a b) Q E s_2) E s_1) E s) :
  wpAny M A t (fun a s_1 => wpAny M A (f a) (fun b s_2 => wpAny M A (g a b) Q E s_2) E s_1) E s :=
 wpAny_mono h.run (fun _ _ h => W1 h) fun _ _ e => e
theorem W3 {t : Sem α} {f : α → Sem β} {g : α → β → Sem γ} {k : α → β → γ → Sem δ} {Q : δ → Shared → Prop} (h : WP M A t (fun a s_1 => WP M A (f a) (fun b s_2 => WP M A (g a b) (fun c s3 => WP M A (k a b c) Q E s3) E s_2) E s_1) E s) :
  wpAny M A t (fun a s_1 => wpAny M A (f a) (fun b s_2 => wpAny M A (g a b) (fun c s3 => wpAny M A (k a b c) Q E s3) E s_2) E s_1) E s :=
 wpAny_mono h.run (fun _ _ h => W2 h) fun _ _ e => e
theorem q_mono {t : Sem α} {Q Q' : α → Shared → Prop} (h : WP M A t Q E s) (hQ : ∀ a s, Q a s → Q' a s) : WP M A t Q' E s := ⟨wpAny_mono h.run hQ fun _ _ e => e⟩
theorem q_cut {t : Sem α} (Q : α → Shared → Prop) {Q' : α → Shared → Prop} (h : WP M A t Q E s) (hQ : ∀ a s, Q a s → Q' a s) : WP M A t Q' E s := ⟨wpAny_mono h.run hQ fun _ _ e => e⟩
theorem q_abs {t : Sem α} {Q : α → Shared → Prop} (h : ∀ P : α → Shared → Prop, (∀ a s', Q a s' → P a s') → WP M A t P E s) : WP M A t Q E s := h Q fun _ _ x => x
section
variable {α β : Type} (M : Model) (A : Around) (env : Env) (Q : β → Shared → Prop) (E : VP)
@[reducible] noncomputable def K1 (f : α → Sem β) (a : α) (s : Shared) : Prop := WP M A (f a) Q E s
@[reducible] noncomputable def K2 (r : Expr) (f : Value → Value → Sem β) (a : Value) (s : Shared) : Prop := WP M A (eval r env) (K1 M A Q E (f a)) E s
@[reducible] noncomputable def StoreP (x : Str) (Q : FP) (v : Value) (s : Shared) : Prop := WP M A (storeName env x v) (fun _ => Q .next) E s
@[reducible] noncomputable def CallP (pos : Pos) (args : List Expr) (Q : VP) (f : Value) (s : Shared) : Prop := WP M A (callWith pos f [] (backTo pos (starEach args env)) []) Q E s
@[reducible] noncomputable def ConsP (Q : List Value → Shared → Prop) (v : Value) (vs : List Value) : Shared → Prop := Q (v :: vs)
@[reducible] noncomputable def IcP (pos : Pos) (rest : List Expr) (Q : List Value → Shared → Prop) (v : Value) (s : Shared) : Prop := WP M A (spliced (backTo pos (starEach rest env))) (ConsP Q v) E s
@[reducible] noncomputable def RetP (Q : FP) (v : Value) : Shared → Prop := Q (.ret v)
@[reducible] noncomputable def CwB (id : String) (first : List Value) (Q : VP) (vs : List Value) (s : Shared) : Prop := WP M A (call (.builtin id) (first ++ vs)) Q E s
@[reducible] noncomputable def AttrP (attr : Str) (Q : VP) (o : Value) (s : Shared) : Prop := WP M A (getAttr o attr true) Q E s
@[reducible] noncomputable def SetP (attr : Str) (v : Value) (Q : FP) (o : Value) (s : Shared) : Prop := WP M A (setAttr o attr v) (fun _ => Q .next) E s
@[reducible] noncomputable def ASetP (o : Expr) (attr : Str) (Q : FP) (v : Value) (s : Shared) : Prop := WP M A (eval o env) (SetP M A E attr v Q) E s
@[reducible] noncomputable def SetP' (attr : Str) (Q : FP) (o v : Value) (s : Shared) : Prop := WP M A (setAttr o attr v) (fun _ => Q .next) E s
@[reducible] noncomputable def AugA2 (op : Operator) (value : Expr) (Q : VP) (old : Value) (s : Shared) : Prop := WP M A (eval value env) (K1 M A Q E (inplaceOp op old)) E s
@[reducible] noncomputable def AugA (attr : Str) (op : Operator) (value : Expr) (Q : FP) (o : Value) (s : Shared) : Prop := WP M A (getAttr o attr true) (AugA2 M A env E op value (SetP' M A E attr Q o)) E s
@[reducible] noncomputable def AugS (x : Str) (op : Operator) (value : Expr) (Q : FP) (old : Value) (s : Shared) : Prop := WP M A (eval value env) (K1 M A (StoreP M A env E x Q) E (inplaceOp op old)) E s
@[reducible] noncomputable def McP2 (pos : Pos) (args : List Expr) (Q : VP) (f : Value × List Value) (s : Shared) : Prop := WP M A (callWith pos f.1 f.2 (backTo pos (starEach args env)) []) Q E s
@[reducible] noncomputable def McP (name : Str) (pl : Sem Bool) (pos : Pos) (args : List Expr) (Q : VP) (o : Value) (s : Shared) : Prop := WP M A (getMethod o name pl) (McP2 M A env E pos args Q) E s
@[reducible] noncomputable def CwK (g : Heap) (f : Value) (first : List Value) (Q : VP) (vs : List Value) (s : Shared) : Prop := HasS env.locals g s ∧ WP M A (call f (first ++ vs)) Q E s
@[reducible] noncomputable def CwT (T : String) (Q : VP) (vs : List Value) (s : Shared) : Prop := WP M A (call (.type T) vs) Q E s
end
variable {env : Env}
@[reducible] noncomputable def SeqP (M : Model) (A : Around) (env : Env) (rest : List Stmt) (Q : FP) (E : VP) (f : Flow) (s' : Shared) : Prop := match f with | .next => WP M A (execs rest env) Q E s' | f => Q f s'
theorem q_cons {st : Stmt} {rest : List Stmt} {Q : FP} (h : WP M A (exec st env) (SeqP M A env rest Q E) E s) : WP M A (execs (st :: rest) env) Q E s :=
 ⟨wpAny_execs_cons (wpAny_mono h.run (fun f s' h' => by cases f <;> first | exact h'.run | exact h') fun _ _ e => e)⟩
theorem q_nil {Q : FP} (h : Q .next s) : WP M A (execs [] env) Q E s := ⟨wpAny_execs_nil h⟩
theorem q_binop {l op r pos} {Q : VP} (h : WP M A (eval l env) (K2 M A env Q E r (binaryOp op)) E s) :
  WP M A (eval (.BinOp l op r pos) env) Q E s := ⟨wpAny_BinOp (W2 h)⟩
theorem q_unop {op : UnaryOp} {x : Expr} {pos : Pos} {Q : VP} (h : WP M A (eval x env) (K1 M A Q E (unaryOp op)) E s) : WP M A (eval (.UnaryOp op x pos) env) Q E s := ⟨wpAny_UnaryOp (W1 h)⟩
theorem q_assign {x : Str} {pos' pos : Pos} {value : Expr} {Q : FP} (h : WP M A (eval value env) (StoreP M A env E x Q) E s) (hn : notComp value = true := by exact rfl) :
  WP M A (exec (.Assign [.Name x pos'] value pos) env) Q E s := ⟨r_assign (W1 h) hn⟩
theorem q_aug {x pos' op value pos} {Q : FP}
  (h : WP M A (loadName env x) (AugS M A env E x op value Q) E s) :
  WP M A (exec (.AugAssign (.Name x pos') op value pos) env) Q E s := ⟨wpAny_AugAssign_Name (W3 h)⟩
theorem q_cmp {l op r pos} {Q : VP} (h : WP M A (eval l env) (K2 M A env Q E r (compareOp op)) E s)
  (hm : behindInMarks op r = false := by exact rfl) : WP M A (eval (.Compare l [op] [r] pos) env) Q E s := ⟨wpAny_Compare1 (W2 h) hm⟩
theorem q_tcmp {l op r pos whole} {Q : Bool → Shared → Prop}
  (h : WP M A (eval l env) (K2 M A env (K1 M A Q E truthy) E r (compareOp op)) E s)
  (hm : behindInMarks op r = false := by exact rfl) : WP M A (isTrue (.Compare l [op] [r] pos) env whole) Q E s := ⟨wpAny_isTrue_Compare1 (W3 h) hm⟩
theorem q_tval {e : Expr} {whole : Sem Value} {Q : Bool → Shared → Prop} (h : WP M A whole (K1 M A Q E truthy) E s)
  (he : isTrue e env whole = (do let v ← whole; standAt e.pos; holding [v] (truthy v)) := by exact rfl) : WP M A (isTrue e env whole) Q E s := ⟨wpAny_isTrue_value (W1 h) he⟩
theorem q_tbool {b : Bool} {Q : Bool → Shared → Prop} (h : Q b s) : WP M A (truthy (.bool b)) Q E s := ⟨wpAny_truthy_bool h⟩
theorem q_tnot {x : Expr} {pos : Pos} {whole : Sem Value} {Q : Bool → Shared → Prop} (h : WP M A (isTrue x env (eval x env)) (fun b s_1 => Q (!b) s_1) E s) : WP M A (isTrue (.UnaryOp .Not x pos) env whole) Q E s :=
 ⟨wpAny_isTrue_Not h.run⟩
theorem q_tboolop {op : BoolOp} {values : List Expr} {pos : Pos} {whole : Sem Value} {Q : Bool → Shared → Prop} (h : WP M A (allTrue op values env) Q E s) : WP M A (isTrue (.BoolOp op values pos) env whole) Q E s := ⟨wpAny_isTrue_BoolOp h.run⟩
theorem q_and {x : Expr} {rest : List Expr} {Q : Bool → Shared → Prop} (h : WP M A (isTrue x env (eval x env)) (fun b s_1 => if b then WP M A (allTrue .And rest env) Q E s_1 else Q false s_1) E s) : WP M A (allTrue .And (x :: rest) env) Q E s :=
 ⟨wpAny_allTrue_And_cons (wpAny_mono h.run (fun b s_1 h_1 => by cases b <;> first | exact h_1.run | exact h_1) fun _ _ e => e)⟩
theorem q_and0 {Q : Bool → Shared → Prop} (h : Q true s) : WP M A (allTrue .And [] env) Q E s := ⟨wpAny_allTrue_And_nil h⟩
theorem q_or {x : Expr} {rest : List Expr} {Q : Bool → Shared → Prop} (h : WP M A (isTrue x env (eval x env)) (fun b s_1 => if b then Q true s_1 else WP M A (allTrue .Or rest env) Q E s_1) E s) : WP M A (allTrue .Or (x :: rest) env) Q E s :=
 ⟨wpAny_allTrue_Or_cons (wpAny_mono h.run (fun b s_1 h_1 => by cases b <;> first | exact h_1.run | exact h_1) fun _ _ e => e)⟩
theorem q_or0 {Q : Bool → Shared → Prop} (h : Q false s) : WP M A (allTrue .Or [] env) Q E s := ⟨wpAny_allTrue_Or_nil h⟩
theorem q_and2 {x y : Expr} {pos : Pos} {Q : VP} (h : WP M A (eval x env) (fun v s_1 => WP M A (truthy v) (fun t s_2 => if t then WP M A (eval y env) Q E s_2 else Q v s_2) E s_1) E s) :
  WP M A (eval (.BoolOp .And [x, y] pos) env) Q E s := ⟨wpAny_And2 (wpAny_mono h.run (fun v s_1 h_1 => wpAny_mono h_1.run (fun b s_2 h_2 => by cases b <;> first | exact h_2.run | exact h_2) fun _ _ e => e) fun _ _ e => e)⟩
theorem q_or2 {x y : Expr} {pos : Pos} {Q : VP} (h : WP M A (eval x env) (fun v s_1 => WP M A (truthy v) (fun t s_2 => if t then Q v s_2 else WP M A (eval y env) Q E s_2) E s_1) E s) :
  WP M A (eval (.BoolOp .Or [x, y] pos) env) Q E s := ⟨wpAny_Or2 (wpAny_mono h.run (fun v s_1 h_1 => wpAny_mono h_1.run (fun b s_2 h_2 => by cases b <;> first | exact h_2.run | exact h_2) fun _ _ e => e) fun _ _ e => e)⟩
theorem q_if {test body orelse pos} {Q : FP} (h : WP M A (isTrue test env (eval test env)) (fun b s_2 => if b then WP M A (execs body env) Q E s_2 else WP M A (execs orelse env) Q E s_2) E s) :
  WP M A (exec (.If test body orelse pos) env) Q E s := ⟨wpAny_If (wpAny_mono h.run (fun b s_1 h_1 => by cases b <;> exact h_1.run) fun _ _ e => e)⟩
theorem q_ifexp {test body orelse : Expr} {pos : Pos} {Q : VP} (h : WP M A (isTrue test env (eval test env)) (fun b s_1 => if b then WP M A (eval body env) Q E s_1 else WP M A (eval orelse env) Q E s_1) E s) :
  WP M A (eval (.IfExp test body orelse pos) env) Q E s := ⟨wpAny_IfExp (wpAny_mono h.run (fun b s_1 h_1 => by cases b <;> exact h_1.run) fun _ _ e => e)⟩
theorem q_ret {e pos} {Q : FP} (h : WP M A (eval e env) (RetP Q) E s) : WP M A (exec (.Return (some e) pos) env) Q E s := ⟨wpAny_Return_some h.run⟩
theorem q_break {pos : Pos} {Q : FP} (h : Q .brk s) : WP M A (exec (.Break pos) env) Q E s := ⟨wpAny_Break h⟩
theorem q_continue {pos : Pos} {Q : FP} (h : Q .cont s) : WP M A (exec (.Continue pos) env) Q E s := ⟨wpAny_Continue h⟩
theorem q_cbool {b k pos} {Q : VP} (h : Q (.bool b) s) : WP M A (eval (.Constant (.bool b) k pos) env) Q E s := ⟨wpAny_Constant_bool h⟩
theorem q_cnone {k pos} {Q : VP} (h : Q .none s) : WP M A (eval (.Constant .none k pos) env) Q E s := ⟨wpAny_Constant_none h⟩
theorem q_isnone {v : Value} {Q : VP} (h : Q (.bool (v == .none)) s) : WP M A (compareOp .Is v .none) Q E s := ⟨is_none h⟩
theorem q_isnotnone {v : Value} {Q : VP} (h : Q (.bool (!(v == .none))) s) : WP M A (compareOp .IsNot v .none) Q E s := ⟨isNot_none h⟩
theorem q_sub {value slice : Expr} {pos : Pos} {Q : VP} (h : WP M A (eval value env) (K2 M A env Q E slice (subscriptTail value slice)) E s) :
  WP M A (eval (.Subscript value slice pos) env) Q E s := ⟨Subscript_ (W2 h)⟩
theorem q_call {func : Expr} {args : List Expr} {pos : Pos} {Q : VP} (h : WP M A (eval func env) (CallP M A env E pos args Q) E s)
  (he : eval (func.Call args [] pos) env = (do let f ← eval func env; callWith pos f [] (backTo pos (starEach args env)) (backToKw pos (keywordEach [] env))) := by exact rfl) :
  WP M A (eval (.Call func args [] pos) env) Q E s := ⟨Call_ (W1 h) he⟩
theorem q_ic {pos : Pos} {e : Expr} {rest : List Expr} {Q : List Value → Shared → Prop}
  (h : WP M A (eval e env) (IcP M A env E pos rest Q) E s)
  (he : starEach (e :: rest) env = (false, eval e env) :: starEach rest env := by exact rfl) : WP M A (spliced (backTo pos (starEach (e :: rest) env))) Q E s :=
 ⟨wpAny_items_cons (wpAny_mono h.run (fun _ _ h => h.run) fun _ _ e => e) he⟩
theorem q_i0 {pos : Pos} {Q : List Value → Shared → Prop} (h : Q [] s) : WP M A (spliced (backTo pos (starEach [] env))) Q E s := ⟨wpAny_items_nil h⟩
theorem q_ep {e : Expr} {Q : VP} (h : WP M A (eval e env) Q E s) : WP M A (evalPart (some e) env) Q E s := ⟨h.run⟩
theorem q_ep0 {Q : VP} (h : Q .none s) : WP M A (evalPart none env) Q E s := ⟨wpAny_evalPart_none h⟩
theorem q_cwT {pos : Pos} {T : String} {e : Expr} {rest : List Expr} {Q : VP} (h : WP M A (spliced (backTo pos (starEach (e :: rest) env))) (CwT M A E T Q) E s)
  (he : starEach (e :: rest) env = (false, eval e env) :: starEach rest env := by exact rfl) (hp : (backTo pos (starEach rest env)).any (·.1) = false := by exact rfl) :
  WP M A (callWith pos (.type T) [] (backTo pos (starEach (e :: rest) env)) []) Q E s := ⟨Pv.callWith_type1 (W1 h) he hp⟩
theorem q_cwB {pos : Pos} {id : String} {first : List Value} {e : Expr} {es : List Expr} {Q : VP}
  (h : WP M A (spliced (backTo pos (starEach (e :: es) env))) (CwB M A E id first Q) E s)
  (he : starEach (e :: es) env = (false, eval e env) :: starEach es env := by exact rfl) (hplain : (backTo pos (starEach es env)).any (·.1) = false := by exact rfl) :
  WP M A (callWith pos (.builtin id) first (backTo pos (starEach (e :: es) env)) []) Q E s := ⟨r_cwB (W1 h) he hplain⟩
end
section
variable {M : Model} {prog : Program} {w : World} {A : Around} {env : Env} {g base : Heap} {outer : List Env} {nm : List Str} {G : SV}
 {E : VP} {s0 s : Shared} {vals vals' : OV} {m : SM} {news news' : LD}
theorem q_name (C : Fm w A env g base outer nm G) (S : Stt s0 g env.locals (lcs nm vals) news s) {x : Str} {v : Value} {pos : Pos} {Q : VP}
  (h : Lk x v nm vals) (k : Q v s) : WP M A (eval (.Name x pos) env) Q E s := ⟨r_name C S h k⟩
theorem q_load (C : Fm w A env g base outer nm G) (S : Stt s0 g env.locals (lcs nm vals) news s) {x : Str} {v : Value} {Q : VP}
  (h : Lk x v nm vals) (k : Q v s) : WP M A (loadName env x) Q E s := ⟨r_load C S h k⟩
theorem q_store (C : Fm w A env g base outer nm G) (S : Stt s0 g env.locals (lcs nm vals) news s) {x : Str} {v : Value} {Q : Unit → Shared → Prop}
  (h : Up x (some v) nm vals vals') (k : ∀ s', Stt s0 g env.locals (lcs nm vals') news s' → Q () s') : WP M A (storeName env x v) Q E s := ⟨r_store C S h k⟩
theorem q_glob (C : Fm w A env g base outer nm G) (S : Stt s0 g env.locals m news s) {x : Str} {v : Value} {pos : Pos} {Q : VP}
  (h : (x, v) ∈ G) (k : Q v s) : WP M A (eval (.Name x pos) env) Q E s := ⟨r_glob C S h k⟩
theorem q_int (S : Stt s0 g env.locals m news s) {i : Int} {k pos} {Q : VP} (h : ∀ t s', Stt s0 g env.locals m news s' → Q (.int i t) s') : WP M A (eval (.Constant (.int i) k pos) env) Q E s := ⟨r_int S h⟩
theorem q_str (S : Stt s0 g env.locals m news s) {x : Str} {k pos} {Q : VP} (h : ∀ t s', Stt s0 g env.locals m news s' → Q (.str x t) s') : WP M A (eval (.Constant (.str x) k pos) env) Q E s := ⟨r_str S h⟩
theorem q_add (S : Stt s0 g env.locals m news s) {a b : Int} {t u : Tok} {Q : VP} (h : ∀ t s', Stt s0 g env.locals m news s' → Q (.int (a + b) t) s') : WP (model prog w) A (binaryOp .Add (.int a t) (.int b u)) Q E s := ⟨r_add S h⟩
theorem q_msub (S : Stt s0 g env.locals m news s) {a b : Int} {t u : Tok} {Q : VP} (h : ∀ t s', Stt s0 g env.locals m news s' → Q (.int (a - b) t) s') : WP (model prog w) A (binaryOp .Sub (.int a t) (.int b u)) Q E s := ⟨r_sub S h⟩
theorem q_mul (S : Stt s0 g env.locals m news s) {a b : Int} {t u : Tok} {Q : VP} (hb : b.natAbs < 2 ^ 64) (h : ∀ t s', Stt s0 g env.locals m news s' → Q (.int (a * b) t) s') : WP (model prog w) A (binaryOp .Mult (.int a t) (.int b u)) Q E s := ⟨r_mul S hb h⟩
theorem q_iadd (S : Stt s0 g env.locals m news s) {a b : Int} {t u : Tok} {Q : VP} (h : ∀ t s', Stt s0 g env.locals m news s' → Q (.int (a + b) t) s') : WP (model prog w) A (inplaceOp .Add (.int a t) (.int b u)) Q E s := ⟨r_iadd S h⟩
theorem q_isub (S : Stt s0 g env.locals m news s) {a b : Int} {t u : Tok} {Q : VP} (h : ∀ t s', Stt s0 g env.locals m news s' → Q (.int (a - b) t) s') : WP (model prog w) A (inplaceOp .Sub (.int a t) (.int b u)) Q E s := ⟨r_isub S h⟩
theorem q_neg (S : Stt s0 g env.locals m news s) {a : Int} {t : Tok} {Q : VP} (h : ∀ t s', Stt s0 g env.locals m news s' → Q (.int (-a) t) s') : WP (model prog w) A (unaryOp .USub (.int a t)) Q E s := ⟨r_neg S h⟩
theorem q_mod (C : Fm w A env g base outer nm G) (S : Stt s0 g env.locals m news s) {a b : Int} {t u : Tok} {Q : VP} (hb : 0 < b) (h : ∀ t s', Stt s0 g env.locals m news s' → Q (.int (a % b) t) s') :
  WP (model prog w) A (binaryOp .Mod (.int a t) (.int b u)) Q E s := ⟨r_mod C S hb h⟩
theorem q_fdiv (C : Fm w A env g base outer nm G) (S : Stt s0 g env.locals m news s) {a b : Int} {t u : Tok} {Q : VP} (hb : 0 < b) (hb' : b < 2 ^ 29) (h : ∀ t s', Stt s0 g env.locals m news s' → Q (.int (a / b) t) s') :
  WP (model prog w) A (binaryOp .FloorDiv (.int a t) (.int b u)) Q E s := ⟨r_fdiv C S hb hb' h⟩
theorem q_eqi {a b : Int} {t u : Tok} {Q : VP} (h : Q (.bool (a == b)) s) : WP (model prog w) A (compareOp .Eq (.int a t) (.int b u)) Q E s := ⟨P.eq_int h⟩
theorem q_nei {a b : Int} {t u : Tok} {Q : VP} (h : Q (.bool (a != b)) s) : WP (model prog w) A (compareOp .NotEq (.int a t) (.int b u)) Q E s := ⟨P.ne_int h⟩
theorem q_lti {a b : Int} {t u : Tok} {Q : VP} (h : Q (.bool (decide (a < b))) s) : WP (model prog w) A (compareOp .Lt (.int a t) (.int b u)) Q E s := ⟨P.lt_int h⟩
theorem q_lei {a b : Int} {t u : Tok} {Q : VP} (h : Q (.bool (decide (a ≤ b))) s) : WP (model prog w) A (compareOp .LtE (.int a t) (.int b u)) Q E s := ⟨P.le_int h⟩
theorem q_eqb {a b : Bool} {Q : VP} (h : Q (.bool (a == b)) s) : WP (model prog w) A (compareOp .Eq (.bool a) (.bool b)) Q E s := ⟨r_eqb h⟩
theorem q_neb {a b : Bool} {Q : VP} (h : Q (.bool (a != b)) s) : WP (model prog w) A (compareOp .NotEq (.bool a) (.bool b)) Q E s := ⟨ne_bool h⟩
theorem q_item {l : Addr} {vs : List Value} {n : Nat} {k : Int} {u : Tok} {v : Value} {value slice : Expr} {Q : VP} (hl : s.heap.get? l = some (W.listOf vs.toArray n)) (h0 : 0 ≤ k) (hk : k < 2 ^ 63) (hx : vs[k.toNat]? = some v) (h : Q v s)
  (hs : subscripted slice false (.ref l) (.int k u) = operate [.ref l, .int k u] (getItem (.ref l) (.int k u)) := by with_unfolding_all exact rfl) : WP (model prog w) A (subscriptTail value slice (.ref l) (.int k u)) Q E s := ⟨r_item hl h0 hk hx h hs⟩
theorem q_itemNeg {l : Addr} {vs : List Value} {n : Nat} {k : Int} {u : Tok} {v : Value} {value slice : Expr} {Q : VP} (hl : s.heap.get? l = some (W.listOf vs.toArray n)) (h0 : k < 0) (h1 : -(vs.length : Int) ≤ k) (hk : -(2 ^ 63) ≤ k) (hx : vs[(k + vs.length).toNat]? = some v) (h : Q v s)
  (hs : subscripted slice false (.ref l) (.int k u) = operate [.ref l, .int k u] (getItem (.ref l) (.int k u)) := by with_unfolding_all exact rfl) : WP (model prog w) A (subscriptTail value slice (.ref l) (.int k u)) Q E s := ⟨r_itemNeg hl h0 h1 hk hx h hs⟩
theorem q_itemL {l : Addr} {vs : List Value} {k : Int} {u : Tok} {v : Value} {value slice : Expr} {Q : VP} (hl : s.heap.IsList l vs.toArray) (h0 : 0 ≤ k) (hk : k < 2 ^ 63) (hx : vs[k.toNat]? = some v) (h : Q v s)
  (hs : subscripted slice false (.ref l) (.int k u) = operate [.ref l, .int k u] (getItem (.ref l) (.int k u)) := by with_unfolding_all exact rfl) : WP (model prog w) A (subscriptTail value slice (.ref l) (.int k u)) Q E s := ⟨r_itemL hl h0 hk hx h hs⟩
theorem q_itemNegL {l : Addr} {vs : List Value} {k : Int} {u : Tok} {v : Value} {value slice : Expr} {Q : VP} (hl : s.heap.IsList l vs.toArray) (h0 : k < 0) (h1 : -(vs.length : Int) ≤ k) (hk : -(2 ^ 63) ≤ k) (hx : vs[(k + vs.length).toNat]? = some v) (h : Q v s)
  (hs : subscripted slice false (.ref l) (.int k u) = operate [.ref l, .int k u] (getItem (.ref l) (.int k u)) := by with_unfolding_all exact rfl) : WP (model prog w) A (subscriptTail value slice (.ref l) (.int k u)) Q E s := ⟨r_itemNegL hl h0 h1 hk hx h hs⟩
theorem q_tupItem {t : Addr} {vs : List Value} {k : Int} {u : Tok} {v : Value} {value slice : Expr} {Q : VP} (ht : s.heap.get? t = some (tupObj vs)) (h0 : 0 ≤ k) (hk : k < vs.length) (hb : vs.length < 1000) (hx : vs[k.toNat]? = some v) (h : Q v s)
  (hs : subscripted slice false (.ref t) (.int k u) = operate [.ref t, .int k u] (getItem (.ref t) (.int k u)) := by with_unfolding_all exact rfl) : WP (model prog w) A (subscriptTail value slice (.ref t) (.int k u)) Q E s := ⟨r_tupItem ht h0 hk hb hx h hs⟩
theorem q_len (S : Stt s0 g env.locals m news s) {l : Addr} {vs : List Value} {n : Nat} {Q : VP} (hl : s.heap.get? l = some (W.listOf vs.toArray n)) (hsz : vs.length < 2 ^ 62)
  (h : ∀ t s', Stt s0 g env.locals m news s' → s'.heap = s.heap → Q (.int (vs.length : Nat) t) s') : WP (model prog w) A (call (.builtin "len") [.ref l]) Q E s := ⟨r_len S hl hsz h⟩
theorem q_lenL (S : Stt s0 g env.locals m news s) {l : Addr} {vs : List Value} {Q : VP} (hl : s.heap.IsList l vs.toArray) (hsz : vs.length < 2 ^ 62)
  (h : ∀ t s', Stt s0 g env.locals m news s' → s'.heap = s.heap → Q (.int (vs.length : Nat) t) s') : WP (model prog w) A (call (.builtin "len") [.ref l]) Q E s := ⟨r_lenL S hl hsz h⟩
theorem q_truthy (S : Stt s0 g env.locals m news s) {l : Addr} {vs : List Value} {n : Nat} {Q : Bool → Shared → Prop} (hl : s.heap.get? l = some (W.listOf vs.toArray n)) (hsz : vs.length < 2 ^ 62)
  (h : ∀ s', Stt s0 g env.locals m news s' → s'.heap = s.heap → Q (!vs.isEmpty) s') : WP (model prog w) A (truthy (.ref l)) Q E s := ⟨r_truthy S hl hsz h⟩
theorem q_truthyL (S : Stt s0 g env.locals m news s) {l : Addr} {vs : List Value} {Q : Bool → Shared → Prop} (hl : s.heap.IsList l vs.toArray) (hsz : vs.length < 2 ^ 62)
  (h : ∀ s', Stt s0 g env.locals m news s' → s'.heap = s.heap → Q (!vs.isEmpty) s') : WP (model prog w) A (truthy (.ref l)) Q E s := ⟨r_truthyL S hl hsz h⟩
theorem q_in {l : Addr} {vs : List Value} {ns : List Int} {n : Nat} {k : Int} {t : Tok} {Q : VP} (hl : s.heap.get? l = some (W.listOf vs.toArray n)) (hi : All2 Vi vs ns) (h : Q (.bool (ns.contains k)) s) : WP (model prog w) A (compareOp .In (.int k t) (.ref l)) Q E s := ⟨r_in hl hi h⟩
theorem q_notin {l : Addr} {vs : List Value} {ns : List Int} {n : Nat} {k : Int} {t : Tok} {Q : VP} (hl : s.heap.get? l = some (W.listOf vs.toArray n)) (hi : All2 Vi vs ns) (h : Q (.bool (!ns.contains k)) s) : WP (model prog w) A (compareOp .NotIn (.int k t) (.ref l)) Q E s := ⟨r_notin hl hi h⟩
theorem q_range2 (S : Stt s0 g env.locals m news s) {a b : Int} {t u : Tok} {Q : VP} (h : ∀ r t u v s', Stt s0 g env.locals m ((r, rangeObj a b 1 t u v) :: news) s' → Q (.ref r) s') : WP (model prog w) A (call (.type "range") [.int a t, .int b u]) Q E s := ⟨r_range2 S h⟩
theorem q_range1 (S : Stt s0 g env.locals m news s) {b : Int} {u : Tok} {Q : VP} (h : ∀ r t u v s', Stt s0 g env.locals m ((r, rangeObj 0 b 1 t u v) :: news) s' → Q (.ref r) s') : WP (model prog w) A (call (.type "range") [.int b u]) Q E s := ⟨r_range1 S h⟩
inductive PSlice (env : Env) (Q : VP) (l : Value) (u : Value) (s_2 : Shared) : Prop
 | mk (s0 : Shared) (g : Heap) (m1 : SM) (news1 : LD) (h1 : Stt s0 g env.locals m1 news1 s_2) (h2 : ∀ a s', Stt s0 g env.locals m1 ((a, sliceObj l u) :: news1) s' → s'.heap = s_2.heap.push (sliceObj l u) → Q (.ref a) s') : PSlice env Q l u s_2
theorem q_sliceE {lower upper : Option Expr} {p : Pos} {Q : VP}
  (h : WP M A (evalPart lower env) (fun l s_1 => WP M A (evalPart upper env) (PSlice env Q l) E s_1) E s) :
  WP M A (eval (.Slice lower upper none p) env) Q E s := ⟨r_sliceE (wpAny_mono h.run (fun _ _ h => wpAny_mono h.run (fun _ _ ⟨a, b, c, d, e, f⟩ => ⟨a, b, c, d, e, f⟩) fun _ _ e => e) fun _ _ e => e)⟩
theorem q_sliceT (S : Stt s0 g env.locals m news s) {l sl : Addr} {vl vu : Value} {vs : Array Value} {n : Nat} {lo hi : Option Int} {value slice : Expr} {Q : VP}
  (hl : s.heap.get? l = some (W.listOf vs n)) (hs : s.heap.get? sl = some (sliceObj vl vu)) (pl : IsPart vl lo) (pu : IsPart vu hi) (hsz : vs.size ≤ 1000)
  (k : ∀ a s', Stt s0 g env.locals m ((a, W.listOf (slicePick vs lo hi none) 0) :: news) s' → Q (.ref a) s')
  (hsub : subscripted slice false (.ref l) (.ref sl) = operate [.ref sl, .ref l] (getItem (.ref l) (.ref sl)) := by with_unfolding_all exact rfl) :
  WP (model prog w) A (subscriptTail value slice (.ref l) (.ref sl)) Q E s := ⟨r_sliceT S hl hs pl pu hsz k hsub⟩
theorem q_ints {pos : Pos} {es : List Expr} {ns : List Int} (h : IntLits es ns) (S : Stt s0 g env.locals m news s) {Q : List Value → Shared → Prop} (k : ∀ vs s', All2 Vi vs ns → Stt s0 g env.locals m news s' → Q vs s') : WP M A (spliced (backTo pos (starEach es env))) Q E s := ⟨sp_ints h S k⟩
theorem q_strs {pos : Pos} {es : List Expr} {ns : List Str} (h : StrLits es ns) (S : Stt s0 g env.locals m news s) {Q : List Value → Shared → Prop} (k : ∀ vs s', All2 Vs vs ns → Stt s0 g env.locals m news s' → Q vs s') : WP M A (spliced (backTo pos (starEach es env))) Q E s := ⟨sp_strs h S k⟩
inductive PTup (env : Env) (Q : VP) (vs : List Value) (s_1 : Shared) : Prop
 | mk (s0 : Shared) (g : Heap) (m : SM) (news : LD) (h1 : Stt s0 g env.locals m news s_1) (h2 : vs.length ≤ 1000) (h3 : ∀ a s', Stt s0 g env.locals m ((a, tupObj vs) :: news) s' → Q (.ref a) s') : PTup env Q vs s_1
theorem q_tuple {elts : List Expr} {kk : Nat} {pos : Pos} {Q : VP}
  (h : WP M A (spliced (backTo pos (starEach elts env))) (PTup env Q) E s) : WP M A (eval (.Tuple elts kk pos) env) Q E s := ⟨r_tuple (wpAny_mono h.run (fun _ _ ⟨a, b, c, d, e, f, h⟩ => ⟨a, b, c, d, e, f, h⟩) fun _ _ e => e)⟩
inductive PLst (env : Env) (Q : VP) (vs : List Value) (s_1 : Shared) : Prop
 | mk (s0 : Shared) (g : Heap) (m : SM) (news : LD) (h1 : Stt s0 g env.locals m news s_1) (h2 : vs.length ≤ 1000) (h3 : ∀ a s', Stt s0 g env.locals m ((a, W.listOf vs.toArray 0) :: news) s' → Q (.ref a) s') : PLst env Q vs s_1
theorem q_list {elts : List Expr} {pos : Pos} {Q : VP}
  (h : WP M A (spliced (backTo pos (starEach elts env))) (PLst env Q) E s) : WP M A (eval (.List elts pos) env) Q E s := ⟨r_list (wpAny_mono h.run (fun _ _ ⟨a, b, c, d, e, f, h⟩ => ⟨a, b, c, d, e, f, h⟩) fun _ _ e => e)⟩
theorem q_expr (C : Fm w A env g base outer nm G) {e : Expr} {pos : Pos} {Q : FP} (h : WP M A (eval e env) (fun v s' => match v with | .ref _ => False | _ => Q .next s') E s) (hn : notComp e = true := by exact rfl) : WP M A (exec (.Expr e pos) env) Q E s :=
 ⟨r_expr C h.run (sw_of hn)⟩
inductive PAppV (env : Env) (Q : VP) (l : Addr) (v : Value) (s_2 : Shared) : Prop
 | mk (s0 : Shared) (g : Heap) (m : SM) (news : LD) (its' : _) (n' : _) (news' : LD) (h1 : Stt s0 g env.locals m news s_2) (h2 : its'.length ≤ 1000) (h3 : s_2.heap.get? l = some (W.listOf its'.toArray n')) (h4 : Ch l (W.listOf its'.toArray n') (W.listOf (its' ++ [v]).toArray (n' + 1)) news news') (h5 : ∀ s', Stt s0 g env.locals m news' s' → Q .none s') : PAppV env Q l v s_2
inductive PApp (prog : Program) (w : World) (A : Around) (env : Env) (e : Expr) (Q : VP) (E : VP) (ov : Value) (s_1 : Shared) : Prop
 | mk (l : _) (its : _) (n : _) (h1 : ov = .ref l) (h2 : s_1.heap.get? l = some (W.listOf its n)) (h3 : WP (model prog w) A (eval e env) (PAppV env Q l) E s_1) : PApp prog w A env e Q E ov s_1
theorem q_append {o e : Expr} {apos pos : Pos} {Q : VP}
  (h : WP (model prog w) A (eval o env) (PApp prog w A env e Q E) E s)
  (hbase : attributeBase o "append" env (eval o env) = eval o env := by exact rfl)
  (hfew : ((backTo pos (starEach [e] env)).all (fun x => !x.1) && (backToKw pos (keywordEach [] env)).all (fun x => x.1.isSome)
   && decide (([e] : List Expr).length + ([] : List Keyword).length + (if ([] : List Keyword).isEmpty then 0 else 1) < 30)) = true := by exact rfl)
  (hline : (apos.endLine == pos.line) = true := by exact rfl)
  (htr : backTo pos (starEach [e] env) = [(false, eval e env)] := by exact rfl) :
  WP (model prog w) A (eval (.Call (.Attribute o "append" apos) [e] [] pos) env) Q E s :=
 ⟨r_appendTo (wpAny_mono h.run (fun v s_1 h_1 => let ⟨l, its, n, a, b, c⟩ := h_1; ⟨l, its, n, a, b, wpAny_mono c.run (fun _ _ ⟨a, b, c, d, e, f, g, h1, h2, h3, h4, h5⟩ => ⟨a, b, c, d, e, f, g, h1, h2, h3, h4, h5⟩) fun _ _ e => e⟩) fun _ _ e => e) hbase hfew hline htr⟩
inductive PForL (prog : Program) (w : World) (A : Around) (env : Env) (g : Heap) (x : Str) (body : List Stmt) (Q : FP) (xv : Value) (s_1 : Shared) : Prop
 | mk (s0 : Shared) (l : Addr) (lo : Obj) (vs : List Value) (J : Nat → (SM) → List (Addr × Obj) → Prop) (m : SM) (rest : LD) (h1 : xv = .ref l) (h2 : lo.cls = .type "list") (h3 : (∃ n, lo.data = .seq vs.toArray n)) (h4 : Stt s0 g env.locals m rest s_1) (h5 : (g.get? l = some lo ∨ ∀ i m r, J i m r → (l, lo) ∈ r)) (h6 : J 0 m rest) (h7 : (∀ i v m1 r_1 I it s_2, vs[i]? = some v → J i m1 r_1 → Stt s0 g env.locals (fun y => if y = x then some v else m1 y) ((I, it) :: r_1) s_2 →
    WP (model prog w) A (execs body env) (LPost s0 g env.locals I it (J (i + 1)) Q) NE s_2)) (h8 : (∀ m1 r_1 s_2, J vs.length m1 r_1 → Stt s0 g env.locals m1 r_1 s_2 → Q .next s_2)) : PForL prog w A env g x body Q xv s_1
theorem q_forL (C : Fm w A env g base outer nm G) {x : Str} {px pos : Pos} {iter : Expr} {body : List Stmt} {Q : FP} (hx : x ∈ nm)
  (h : WP (model prog w) A (eval iter env) (PForL prog w A env g x body Q) NE s)
  (hs : ∀ x, foldedSetIterable iter env x = pure x := by intro _; exact rfl) :
  WP (model prog w) A (exec (.For (.Name x px) iter body [] pos) env) Q NE s :=
 ⟨for_list C hx (wpAny_mono h.run (fun xv s_1 ⟨s0, l, lo, vs, J, m, rest, a, b, c, S, hl, h0, turn, done⟩ => ⟨s0, l, lo, vs, J, m, rest, a, b, c, S, hl, h0, fun i v m1 r_1 I it s_2 h1 h2 h3 => (turn i v m1 r_1 I it s_2 h1 h2 h3).run, done⟩) fun _ _ e => e) hs⟩
inductive PForT (prog : Program) (w : World) (A : Around) (env : Env) (g : Heap) (x : Str) (body : List Stmt) (Q : FP) (xv : Value) (s_1 : Shared) : Prop
 | mk (s0 : Shared) (l : Addr) (lo : Obj) (vs : List Value) (J : Nat → (SM) → List (Addr × Obj) → Prop) (m : SM) (rest : LD) (h1 : xv = .ref l) (h2 : lo.cls = .type "tuple") (h3 : (∃ n, lo.data = .seq vs.toArray n)) (h4 : Stt s0 g env.locals m rest s_1) (h5 : (g.get? l = some lo ∨ ∀ i m r, J i m r → (l, lo) ∈ r)) (h6 : J 0 m rest) (h7 : (∀ i v m1 r_1 I it s_2, vs[i]? = some v → J i m1 r_1 → Stt s0 g env.locals (fun y => if y = x then some v else m1 y) ((I, it) :: r_1) s_2 →
    WP (model prog w) A (execs body env) (LPost s0 g env.locals I it (J (i + 1)) Q) NE s_2)) (h8 : (∀ m1 r_1 s_2, J vs.length m1 r_1 → Stt s0 g env.locals m1 r_1 s_2 → Q .next s_2)) : PForT prog w A env g x body Q xv s_1
theorem q_forT (C : Fm w A env g base outer nm G) {x : Str} {px pos : Pos} {iter : Expr} {body : List Stmt} {Q : FP} (hx : x ∈ nm)
  (h : WP (model prog w) A (eval iter env) (PForT prog w A env g x body Q) NE s)
  (hs : ∀ x, foldedSetIterable iter env x = pure x := by intro _; exact rfl) :
  WP (model prog w) A (exec (.For (.Name x px) iter body [] pos) env) Q NE s :=
 ⟨for_tuple C hx (wpAny_mono h.run (fun xv s_1 ⟨s0, l, lo, vs, J, m, rest, a, b, c, S, hl, h0, turn, done⟩ => ⟨s0, l, lo, vs, J, m, rest, a, b, c, S, hl, h0, fun i v m1 r_1 I it s_2 h1 h2 h3 => (turn i v m1 r_1 I it s_2 h1 h2 h3).run, done⟩) fun _ _ e => e) hs⟩
inductive PForR (prog : Program) (w : World) (A : Around) (env : Env) (g : Heap) (x : Str) (body : List Stmt) (Q : FP) (xv : Value) (s_1 : Shared) : Prop
 | mk (s0 : Shared) (l : Addr) (a : Int) (b : Int) (n : Nat) (t : Tok) (u : Tok) (v : Tok) (J : Nat → (SM) → List (Addr × Obj) → Prop) (m : SM) (rest : LD) (h1 : xv = .ref l) (h2 : Stt s0 g env.locals m rest s_1) (h3 : s_1.heap.get? l = some (rangeObj a b 1 t u v)) (h4 : (b = a + n ∧ -(2 ^ 60) ≤ a ∧ a < 2 ^ 60 ∧ n < 2 ^ 60)) (h5 : J 0 m rest) (h6 : (∀ i t m1 r_1 I it s_2, i < n → J i m1 r_1 → Stt s0 g env.locals (fun y => if y = x then some (.int (a + i) t) else m1 y) ((I, it) :: r_1) s_2 →
    WP (model prog w) A (execs body env) (LPost s0 g env.locals I it (J (i + 1)) Q) NE s_2)) (h7 : (∀ m1 r_1 s_2, J n m1 r_1 → Stt s0 g env.locals m1 r_1 s_2 → Q .next s_2)) : PForR prog w A env g x body Q xv s_1
theorem q_forR (C : Fm w A env g base outer nm G) {x : Str} {px pos : Pos} {iter : Expr} {body : List Stmt} {Q : FP} (hx : x ∈ nm)
  (h : WP (model prog w) A (eval iter env) (PForR prog w A env g x body Q) NE s)
  (hs : ∀ x, foldedSetIterable iter env x = pure x := by intro _; exact rfl) :
  WP (model prog w) A (exec (.For (.Name x px) iter body [] pos) env) Q NE s :=
 ⟨for_range C hx (wpAny_mono h.run (fun xv s_1 ⟨s0, l, a, b, n, t, u, v, J, m, rest, e, S, hr, hb, h0, turn, done⟩ => ⟨s0, l, a, b, n, t, u, v, J, m, rest, e, S, hr, hb, h0, fun i t m1 r_1 I it s_2 h1 h2 h3 => (turn i t m1 r_1 I it s_2 h1 h2 h3).run, done⟩) fun _ _ e => e) hs⟩
theorem q_def (C : Fm w A env g base outer nm G) {sub rest : LD} (S : Stt s0 g env.locals m (sub ++ rest) s)
  {f : Addr} {oc : Value} {od : Option Addr} {osl : Array (Option Value)} {name qual : Str} {params : Arguments} {body : List Stmt} {scope : Scope} {dV kV doc pm cdv ct : Value} {an : Option Addr}
  {args : List Value} {Q : VP} (nm' : List Str) (vs : List Value) (vals' : OV) (G' : SV)
  (ho : (hK w.params).lookup f = some ⟨oc, od, .func (fnOf name qual params body scope dV kV doc pm an cdv ct), osl⟩) (hcd : codeIn (hK w.params) cdv qual = true) (hroom : A.depth < recursionLimit)
  (hbind : BindsTo s (fnOf name qual params body scope dV kV doc pm an cdv ct) ⟨args, []⟩ (nm'.zip vs)) (hlen : vs.length ≤ nm'.length) (hvals : vals' = vs.map some ++ List.replicate (nm'.length - vs.length) none)
  (hck : ckNames scope nm' G' = true)
  (hcell : ∀ x ∈ scope.names, x.2 ≠ .cell) (hco : scope.isCoroutine = false) (hgen : scope.isGenerator = false) (hkf : scope.kind = .function)
  (h : ∀ g' env' s_1, (∀ b o, s.heap.get? b = some o → b ∉ sub.map (·.1) → g'.get? b = some o) → (∀ b o, g'.get? b = some o → s.heap.get? b = some o) →
   Fm w (A.deeper env') env' g' base (env :: outer) nm' G' → Stt s g' env'.locals (lcs nm' vals') sub s_1 →
   WP (model prog w) (A.deeper env') (execs body env')
    (DPost s g' env'.locals s0 g env.locals m rest Q) NE s_1) :
  WP (model prog w) A (PySem.call (.ref f) args) Q E s :=
 ⟨C.call S nm' vs vals' G' ho hcd hroom hbind hlen hvals hck hcell hco hgen hkf fun g' L' env' s_1 _ a b c d => (h g' env' s_1 a b c d).run⟩
end
local macro_rules | `(tactic| walk_at "lk") => `(tactic| with_reducible first | exact Lk.head | exact Lk.i1 | exact Lk.i2 | exact Lk.i3 | (apply Lk.i4; walk_at "lk"))
local macro_rules | `(tactic| walk_at "up") => `(tactic| with_reducible first | exact Up.head | exact Up.i1 | exact Up.i2 | exact Up.i3 | (apply Up.i4; walk_at "up"))
local macro_rules | `(tactic| walk_at "mem") => `(tactic| with_reducible first | exact List.mem_cons_self | exact mI1 | exact mI2 | exact mI3 | (apply mI4; walk_at "mem"))
local macro_rules | `(tactic| walk_at "ch") => `(tactic| first | with_reducible exact Ch.head | (with_reducible apply Ch.tail; walk_at "ch"))
local macro_rules | `(tactic| walk_at "lits") => `(tactic| first | with_reducible exact IntLits.nil | with_reducible exact StrLits.nil | (with_reducible apply IntLits.cons; walk_at "lits") | (with_reducible apply StrLits.cons; walk_at "lits"))
noncomputable def NsO (o : Obj) (m : SM) : Prop := ∃ es ep, o.data = .dict es ep ∧ StrKeys es ∧ ∀ name, nsFind es name = m name
theorem NsO.ns {h : Heap} {C : Addr} {o : Obj} {m : SM} (x : NsO o m) (e : h.get? C = some o) : h.Ns C m := let ⟨es, ep, hd, r⟩ := x; ⟨o, es, ep, e, hd, r⟩
theorem nsO {h : Heap} {C : Addr} {m : SM} (x : h.Ns C m) : ∃ o, h.get? C = some o ∧ NsO o m := let ⟨o, es, ep, e, hd, r⟩ := x; ⟨o, e, es, ep, hd, r⟩
noncomputable abbrev lst (ys : List Value) : Obj := { cls := .type "list", data := .seq ys.toArray ys.length }
theorem lst_snoc (ys : List Value) (y : Value) : ({ cls := .type "list", data := .seq (ys.toArray.push y) (ys.length + 1) } : Obj) = lst (ys ++ [y]) := by
 show ({ cls := .type "list", data := .seq (ys.toArray.push y) (ys.length + 1) } : Obj) = { cls := .type "list", data := .seq (ys ++ [y]).toArray (ys ++ [y]).length }
 rw [List.length_append, List.length_singleton, List.push_toArray]
section
variable {s0 s : Shared} {g : Heap} {L I a : Addr} {m : SM} {news r : LD} {o it it' : Obj}
theorem Stt.dropB (S : Stt s0 g L m ((a, o) :: r) s) {h' : Heap} (tk : Nat) (hs : ∀ b o, b ∉ [a] → s.heap.get? b = some o → h'.get? b = some o) : Stt s0 g L m r { s with heap := h', toks := tk } := by
 have D := S.led _ (.head _)
 have nd := S.nd
 simp only [List.map_cons, List.nodup_cons] at nd
 refine ⟨same_of S.same, ⟨S.fr.ns.at' fun o e => hs L o (by simpa using Ne.symm D.2.1) e, fun b ob e => hs b ob (fun q => ?_) (S.fr.keep b ob e), S.fr.above⟩, fun p hp => ?_, nd.2⟩
 ·rw [List.mem_singleton.mp q, D.2.2] at e; cases e
 ·have P := S.led p (.tail _ hp)
  exact ⟨hs _ _ (fun q => nd.1 (by rw [← List.mem_singleton.mp q]; exact List.mem_map_of_mem hp)) P.1, P.2⟩
theorem Stt.drop (S : Stt s0 g L m ((a, o) :: r) s) {h' : Heap} (tk : Nat) (hs : Heap.SameBut a s.heap h') : Stt s0 g L m r { s with heap := h', toks := tk } :=
 S.dropB tk fun b o hb e => hs.extBut b o (by simpa using hb) e
theorem Stt.walked (S : Stt s0 g L m ((I, it) :: r) s) {h' : Heap} (tk : Nat) (hs : ∀ b o, b ∉ [I] → s.heap.get? b = some o → h'.get? b = some o) (e : h'.get? I = some it') : Stt s0 g L m ((I, it') :: r) { s with heap := h', toks := tk } := by
 have S' := S.dropB tk hs
 have D := S.led _ (.head _)
 refine ⟨S'.same, S'.fr, fun p hp => ?_, S.nd⟩
 rcases List.mem_cons.mp hp with rfl | hp
 ·exact ⟨e, D.2⟩
 ·exact S'.led p hp
end
section
variable {prog : Program} {w : World} {A : Around} {s0 s : Shared} {g : Heap} {L : Addr} {m : SM} {rest : LD} {E : VP}
structure CSrc (prog : Program) (w : World) (A : Around) (s0 : Shared) (g : Heap) (L : Addr) (m : SM) (turnP : Nat → Value → (List Value → List (Addr × Obj) → Prop) → (Nat → List Value → List (Addr × Obj) → Prop) → Prop)
  (J : Nat → List Value → List (Addr × Obj) → Prop) (n : Nat) (iv : Value) (s : Shared) : Prop where
 src : ∃ I it0 fp P St rest, iv = .ref I ∧ Walks prog w A I fp [I] n P St ∧ n ≤ sizeLine ∧ (∀ i h, St i h → ∃ o, h.get? I = some o) ∧ Stt s0 g L m ((I, it0) :: rest) s ∧ St 0 s.heap ∧ (∀ b ∈ fp, b < s.heap.objs.size) ∧
  (∀ b ∈ fp, b ≠ I → g.get? b = none → ∃ o, ∀ i ys r, J i ys r → (b, o) ∈ r) ∧ J 0 [] rest ∧ ∀ i v, i < n → P i v → turnP i v (J i) J
noncomputable def CTurn (prog : Program) (w : World) (A : Around) (s0 : Shared) (g : Heap) (L : Addr) (m : SM) (env : Env) (x : Str) (scope : Scope) (cl : List (Str × Addr)) (ifs : List Expr) (elt : Expr)
  (i : Nat) (v : Value) (Ji : List Value → List (Addr × Obj) → Prop) (J : Nat → List Value → List (Addr × Obj) → Prop) : Prop :=
 ∀ ys r_1 I it C oC mC D s_1, Ji ys r_1 → ys.length ≤ i → NsO oC mC → mC x = some v → Stt s0 g L m ((I, it) :: (C, oC) :: (D, lst ys) :: r_1) s_1 →
  wpAny (model prog w) A (forIn ifs true fun c r => if r = true then do let ok ← isTrue c (compEnvC scope cl C env) (eval c (compEnvC scope cl C env)); pure (ForInStep.yield ok) else pure (ForInStep.yield r)) (fun ok s_2 => if ok = true then
   wpAny (model prog w) A (eval elt (compEnvC scope cl C env)) (fun y s3 => ∃ r_2, And (Stt s0 g L m ((I, it) :: (C, oC) :: (D, lst ys) :: r_2) s3) (J (i + 1) (ys ++ [y]) r_2)) NE s_2
   else ∃ r_2, Stt s0 g L m ((I, it) :: (C, oC) :: (D, lst ys) :: r_2) s_2 ∧ J (i + 1) ys r_2) NE s_1
noncomputable def TurnL (M : Model) (A : Around) (env : Env) (target : Expr) (ifs : List Expr) (elt : Expr) (acc : Value) (P : Shared → Prop) (R : Result → Shared → Prop) (E : VP) (r : Option Value) (s_1 : Shared) : Prop := match r with
 | none => R (.ok .next) s_1
 | some v => wpAny M A (assign target env v) (fun _ s_2 =>
   wpAny M A (forIn ifs true fun c r => if r = true then do let ok ← isTrue c env (eval c env); pure (ForInStep.yield ok) else pure (ForInStep.yield r) : Sem Bool) (fun ok s3 =>
    if ok = true then wpAny M A (eval elt env) (fun x s4 => wpAny M A (call (.builtin "list.append") [acc, x]) (fun _ => P) E s4) E s3 else P s3) E s_2) E s_1
theorem loop_tests {elt target iter : Expr} {ifs : List Expr} {scope : Scope} {pos : Pos} {it acc : Value} {env : Env} {R : Result → Shared → Prop} {s : Shared} (I : Nat → Shared → Prop)
  (turn : ∀ n s, I n s → ∀ (P : Shared → Prop) (E : VP), (∀ m s', m < n → I m s' → P s') → wpAny (model prog w) A (pyNext it) (TurnL (model prog w) A env target ifs elt acc P R E) E s)
  (n : Nat) (h : I n s) (ht : ∀ v, letOwnedTupleGo target it v = pure () := by intro _; rfl) :
  codeAny (model prog w) A (.compLoop (.ListComp elt [⟨target, iter, ifs, 0⟩] scope pos) 0 it acc env) R s :=
 codeAny_compLoop_tests I (fun n s hI => wpAny_mono (turn n s hI (fun s' => ∃ m, m < n ∧ I m s') _ fun m s' a b => ⟨m, a, b⟩) (fun r s_1 h => by cases r <;> exact h) fun _ _ e => e) n h ht
theorem comp_block {env : Env} {x : Str} {scope : Scope} {cl : List (Str × Addr)} {ifs : List Expr} {elt iter : Expr} {px pos : Pos} {J : Nat → List Value → List (Addr × Obj) → Prop} {n : Nat} {iv : Value}
  {RR : Value → Addr → Result → Shared → Prop}
  (K : CSrc prog w A s0 g L m (CTurn prog w A s0 g L m env x scope cl ifs elt) J n iv s)
  (hcell : ∀ y ∈ scope.names, y.2 ≠ .cell) (hkind : scope.kind = .function) (hx : scope.names.lookup x = some .local)
  (done : ∀ D C oC mC ys r s', J n ys r → ys.length ≤ n → NsO oC mC → Stt s0 g L m ((C, oC) :: (D, lst ys) :: r) s' → RR (.ref D) C (.ok .next) s') :
  wpAny (model prog w) A (newList []) (fun acc s3 => wpAny (model prog w) A (newFunctionEnv scope env.globals cl [] env.qual none .none (some env)) (fun cenv s4 =>
   codeAny (model prog w) A (.compStart (.ListComp elt [⟨.Name x px, iter, ifs, 0⟩] scope pos) 0 iv acc { cenv with scope := relabel scope env }) (RR acc cenv.locals) s4) E s3) E s := by
 obtain ⟨I, it0, fp, P, St, rest, rfl, W, hsz, hlive, S, hst, hfp, hkeep, h0, turn⟩ := K.src
 refine wpAny_newObj_type (wpAny_newFunctionEnv hcell (by intro y hy; simp at hy) (fun h_1 hns1 hsb1 => ?_) hkind)
 dsimp only at hns1 hsb1 ⊢
 have SD := S.push (lst []) s.toks
 generalize hH2 : s.heap.push { cls := .type "list", dict := none, data := .seq ([] : List Value).toArray } = H2 at hns1 hsb1 ⊢
 have hH2' : s.heap.push (lst []) = H2 := hH2
 rw [hH2'] at SD
 obtain ⟨oC, eC, hoC⟩ := nsO hns1
 have hfresh : H2.get? H2.objs.size = none := Heap.get?_none_of_le (Nat.le_refl _)
 have old2 : ∀ b o, H2.get? b = some o → h_1.get? b = some o := fun b o e => hsb1.extBut b o (fun q => by rw [q, hfresh] at e; cases e) (Heap.get?_push_of_some _ e)
 have SC := SD.enter (s.toks + ([] : SV).length) old2 hfresh eC
 have S_1 : Stt s0 g L m ((I, it0) :: (H2.objs.size, oC) :: (s.heap.objs.size, lst []) :: rest) { s with heap := h_1, toks := s.toks + ([] : SV).length } :=
  SC.perm (List.perm_middle (a := (I, it0)) (l₁ := [(H2.objs.size, oC), (s.heap.objs.size, lst [])])).symm
 have hst1 : St 0 h_1 := W.frame _ _ _ hst fun b _ o e => old2 b o (hH2' ▸ Heap.get?_push_of_some _ e)
 have hIf : I ∈ fp := W.sub I (List.mem_singleton.mpr rfl)
 have lt2 : s.heap.objs.size < H2.objs.size := by rw [← hH2, Heap.size_push]; exact Nat.lt_succ_self _
 have hCf : H2.objs.size ∉ fp := fun hm => Nat.lt_irrefl _ (Nat.lt_trans (hfp _ hm) lt2)
 have hDf : s.heap.objs.size ∉ fp := fun hm => Nat.lt_irrefl _ (hfp _ hm)
 have loop : codeAny (model prog w) A (.compLoop (.ListComp elt [⟨.Name x px, iter, ifs, 0⟩] scope pos) 0 (.ref I) (.ref s.heap.objs.size) (compEnvC scope cl H2.objs.size env))
    (RR (.ref s.heap.objs.size) H2.objs.size) { s with heap := h_1, toks := s.toks + ([] : SV).length } := by
  refine loop_tests
   (fun k s' => Ex6 fun it i ys oC mC r => An7 (i ≤ n) (k = n + 1 - i) (ys.length ≤ i) (St i s'.heap) (NsO oC mC) (Stt s0 g L m ((I, it) :: (H2.objs.size, oC) :: (s.heap.objs.size, lst ys) :: r) s') (J i ys r)) ?_ (n + 1)
   ⟨it0, 0, [], oC, _, rest, Nat.zero_le _, rfl, Nat.le_refl _, hst1, hoC, S_1, h0⟩
  rintro k s' hJJ PT ET hPT
  obtain ⟨it, i, ys, oC, mC, r, hi, rfl, hyl, hst', hoC, S', hJ⟩ := hJJ
  by_cases hlt : i < n
  ·refine W.item i _ _ _ hlt hst' fun v h_2 tk2 hPv hst2 hk_2 => ?_
   obtain ⟨it2, e_2⟩ := hlive _ _ hst2
   have S_2 := S'.walked tk2 hk_2 e_2
   refine wpAny_assign_Name (wpAny_storeName_local (lookup_relabel_local hx) (hoC.ns (S_2.get (.tail _ (.head _)))) (fun h_3 hn_3 hs3 => ?_) (by simp [compEnvC, relabel, hkind]))
   obtain ⟨oC_3, eC3, hoC_3⟩ := nsO hn_3
   have S_3 := S_2.setAt (tk2 + 1) (.tail .head) hs3 eC3
   have hst3 : St (i + 1) h_3 := W.frame _ _ _ hst2 fun b hb o e => hs3.extBut b o (fun q => hCf (by have q' : b = H2.objs.size := q; rw [← q']; exact hb)) e
   have keepSt : ∀ {s5 r_2 ys2}, Stt s0 g L m ((I, it2) :: (H2.objs.size, oC_3) :: (s.heap.objs.size, lst ys) :: r_2) s5 → J (i + 1) ys2 r_2 → St (i + 1) s5.heap := fun {s5 r_2 ys2} S5 hJ5 => by
    refine W.frame _ _ _ hst3 fun b hb o e => ?_
    by_cases hbI : b = I
    ·subst hbI
     have := S_3.get (.head _)
     rw [e] at this; cases this
     exact S5.get (.head _)
    ·cases hg : g.get? b with
     | some o0 =>
      have := S_3.base hg
      rw [e] at this; cases this
      exact S5.base hg
     | none =>
      obtain ⟨o0, ho0⟩ := hkeep b hb hbI hg
      have := S_3.get (.tail _ (.tail _ (.tail _ (ho0 _ _ _ hJ))))
      rw [e] at this; cases this
      exact S5.get (.tail _ (.tail _ (.tail _ (ho0 _ _ _ hJ5))))
   refine wpAny_mono (turn i v hlt hPv ys r I it2 H2.objs.size oC_3 _ s.heap.objs.size _ hJ hyl hoC_3 (by simp) S_3) (fun ok s4 h_4 => ?_) fun _ _ e => e.elim
   cases ok with
   | true =>
    simp only [if_true] at h_4 ⊢
    refine wpAny_mono h_4 (fun y s5 h_5 => ?_) fun _ _ e => e.elim
    obtain ⟨r_2, S5, hJ5⟩ := h_5
    have hst5 := keepSt S5 hJ5
    refine append_at (hsz := by show ys.toArray.size ≤ sizeLine; rw [List.size_toArray]; exact Nat.le_trans (Nat.le_trans hyl hi) hsz) (S5.get (.tail _ (.tail _ (.head _)))) fun h_6 hs6 hD6 => ?_
    have S6 := S5.setAt s5.toks (.tail (.tail (.head))) hs6 (hD6.trans (congrArg some (lst_snoc ys y)))
    exact hPT (n + 1 - (i + 1)) _ (by with_reducible exact n21 (by assumption)) ⟨it2, i + 1, ys ++ [y], oC_3, _, r_2, hlt, rfl, by rw [List.length_append, List.length_singleton]; exact Nat.succ_le_succ hyl,
     W.frame _ _ _ hst5 fun b hb o e => hs6.extBut b o (fun q => hDf (q ▸ hb)) e, hoC_3, S6, hJ5⟩
   | false =>
    simp only [Bool.false_eq_true, if_false] at h_4 ⊢
    obtain ⟨r_2, S5, hJ5⟩ := h_4
    exact hPT (n + 1 - (i + 1)) _ (by with_reducible exact n21 (by assumption)) ⟨it2, i + 1, ys, oC_3, _, r_2, hlt, rfl, Nat.le_succ_of_le hyl, keepSt S5 hJ5, hoC_3, S5, hJ5⟩
  ·obtain rfl : i = n := Nat.le_antisymm hi (Nat.not_lt.mp hlt)
   refine W.done _ _ _ hst' fun h_2 tk2 hk_2 => ?_
   exact done _ _ oC mC ys r _ hJ hyl hoC (S'.dropB tk2 hk_2)
 exact codeAny_compStart_list loop (W.self 0 _ _ _ hst1 loop)
end
theorem lookup_relabel_free {env : Env} : ∀ {names : List (Str × NameKind)} {x : Str}, names.lookup x = some .free → env.scope.kind = .function → env.kindOf x = some .cell →
  (names.map fun (n, k) => if (k == NameKind.free && env.scope.kind == .function && env.kindOf n == some .cell) then (n, NameKind.cell) else (n, k)).lookup x = some .cell
 | [], _, h, _, _ => by simp at h
 | (n, k) :: r, x, h, hk, hc => by
  have ih := @lookup_relabel_free env r x
  show List.lookup x ((if (k == NameKind.free && env.scope.kind == .function && env.kindOf n == some .cell) = true then (n, NameKind.cell) else (n, k)) :: _) = _
  cases hx : x == n with
  | true =>
   simp only [List.lookup_cons, hx] at h
   cases h
   have e := eq_of_beq hx
   subst e
   simp [hk, hc]
  | false =>
   simp only [List.lookup_cons, hx] at h
   by_cases hq : (k == NameKind.free && env.scope.kind == .function && env.kindOf n == some .cell) = true
   ·rw [if_pos hq]; simp only [List.lookup_cons, hx]; exact ih h hk hc
   ·rw [if_neg hq]; simp only [List.lookup_cons, hx]; exact ih h hk hc
noncomputable def closL (cells : List (Str × Addr)) : List (Str × NameKind) → List (Str × Addr) → Option (List (Str × Addr))
 | [], acc => some acc
 | (n, k) :: r, acc => if k == .free then (match cells.lookup n with | some a => closL cells r ((n, a) :: acc) | none => none) else closL cells r acc
theorem closureFor_eq {env : Env} {scope : Scope} {cells cl : List (Str × Addr)} (hc : env.cells = cells) (h : closL cells scope.names [] = some cl) : closureFor scope env = pure cl := by
 subst hc
 simp only [closureFor]
 have key : ∀ (ns : List (Str × NameKind)) (acc : List (Str × Addr)), closL env.cells ns acc = some cl →
   (forIn ns acc (fun x (c : List (Str × Addr)) => (match x with | (name, kind) => if (kind == NameKind.free) = true then do let a ← cellOf env name; pure (ForInStep.yield ((name, a) :: c)) else pure (ForInStep.yield c) : Sem (ForInStep (List (Str × Addr)))))) = (pure cl : Sem _) := by
  intro ns
  induction ns with
  | nil => intro acc h; simp only [closL, Option.some.injEq] at h; subst h; rfl
  | cons p r ih =>
   obtain ⟨n, k⟩ := p
   intro acc h
   rw [List.forIn_cons]
   by_cases hk : (k == NameKind.free) = true
   ·simp only [closL, hk, if_true] at h
    cases hl : env.cells.lookup n with
    | none => rw [hl] at h; cases h
    | some a =>
     rw [hl] at h
     have := ih _ h
     simp only [hk, if_true, cellOf, hl, pure_bind]
     exact this
   ·simp only [closL, if_neg hk] at h
    have := ih _ h
    simp only [if_neg hk, pure_bind]
    exact this
 have := key scope.names [] h
 rw [this]; rfl
theorem sw_comp {env : Env} {elt : Expr} {gens : List Comprehension} {scope : Scope} {pos py : Pos} {y : Str} {line : Nat} (hk : env.scope.kind = .function) (hl : env.kindOf y = some .local)
  (h : (py.line == pos.line && !(scope.names.any fun p => p.1 == y && (p.2 == .local || p.2 == .cell))) = true) : swapsWith (.ListComp elt gens scope pos) (some (.Name y py)) line env = pure true := by
 simp only [Bool.and_eq_true] at h
 show (pure (env.blockKind == .function && env.kindOf y == some .local && py.line == (Expr.ListComp elt gens scope pos).pos.line && !(scope.names.any fun (n, k) => n == y && (k == .local || k == .cell))) : Sem Bool) = pure true
 have e1 : env.blockKind = .function := by simp [Env.blockKind, hk, ScopeKind.isAnnotationScope]
 rw [e1, hl]
 have e2 : (py.line == (Expr.ListComp elt gens scope pos).pos.line) = true := h.1
 rw [e2]
 have e3 := h.2
 show pure (true && true && true && _) = _
 rw [e3]; rfl
noncomputable def testsOf (ifs : List Expr) (cenv : Env) : Sem Bool := forIn ifs true fun c r => if r = true then do let ok ← isTrue c cenv (eval c cenv); pure (ForInStep.yield ok) else pure (ForInStep.yield r)
section
variable {prog : Program} {w : World} {A : Around} {env : Env} {g base : Heap} {outer : List Env} {nm : List Str} {G : SV}
 {E : VP} {s0 s : Shared} {vals vals' : OV} {L : Addr} {m : SM} {news news' rest : LD}
theorem q_tests0 {Q : Bool → Shared → Prop} (h : Q true s) : WP (model prog w) A (testsOf [] env) Q E s := ⟨wpAny_tests_nil h⟩
theorem q_tests1 {c : Expr} {Q : Bool → Shared → Prop} (h : WP (model prog w) A (isTrue c env (eval c env)) Q E s) : WP (model prog w) A (testsOf [c] env) Q E s := ⟨wpAny_tests_one h.run⟩
theorem q_nameO {scope : Scope} {cl : List (Str × Addr)} {C : Addr} {oC : Obj} {mC : SM} {x : Str} {v : Value} {pos : Pos} {Q : VP} (S : Stt s0 g L m news s) (hC : NsO oC mC) (hm : mC x = some v) (hmem : (C, oC) ∈ news) (k : Q v s)
  (hk : scope.kind = .function := by exact rfl) (hl : scope.names.lookup x = some .local := by exact rfl) (hd : (x == ("__debug__" : Str)) = false := by exact rfl) :
  WP (model prog w) A (eval (.Name x pos) (compEnvC scope cl C env)) Q E s :=
 ⟨wpAny_Name (wpAny_loadName_local (by simp [compEnvC, relabel, hk]) (lookup_relabel_local hl) (hC.ns (S.get hmem)) hm k) hd⟩
theorem q_nameC {scope : Scope} {cl : List (Str × Addr)} {C c : Addr} {o : Obj} {x : Str} {v : Value} {pos : Pos} {Q : VP} (S : Stt s0 g L m news s) (hd' : o.data = .cell (some v)) (hmem : (c, o) ∈ news) (hf : env.scope.kind = .function ∧ env.kindOf x = some .cell) (k : Q v s)
  (hk : scope.kind = .function := by exact rfl) (hl : scope.names.lookup x = some .free := by exact rfl) (hc : cl.lookup x = some c := by exact rfl) (hd : (x == ("__debug__" : Str)) = false := by exact rfl) :
  WP (model prog w) A (eval (.Name x pos) (compEnvC scope cl C env)) Q E s :=
 ⟨wpAny_Name (wpAny_loadName_cell (by simp [compEnvC, relabel, hk]) (lookup_relabel_free hl hf.1 hf.2) (by simpa [compEnvC] using hc) ⟨o, S.get hmem, hd'⟩ k) hd⟩
theorem q_nameX {c : Addr} {o : Obj} {x : Str} {v : Value} {pos : Pos} {Q : VP} (S : Stt s0 g L m news s) (hd' : o.data = .cell (some v)) (hmem : (c, o) ∈ news) (hf : env.scope.kind = .function ∧ env.kindOf x = some .cell) (hc : env.cells.lookup x = some c) (k : Q v s)
  (hd : (x == ("__debug__" : Str)) = false := by exact rfl) : WP (model prog w) A (eval (.Name x pos) env) Q E s :=
 ⟨wpAny_Name (wpAny_loadName_cell hf.1 hf.2 hc ⟨o, S.get hmem, hd'⟩ k) hd⟩
theorem q_storeX0 {r : LD} {c : Addr} {o : Obj} {x : Str} {v : Value} {v0 : Option Value} {Q : Unit → Shared → Prop} (S : Stt s0 g L m ((c, o) :: r) s) (hd : o.data = .cell v0) (hf : env.scope.kind = .function ∧ env.kindOf x = some .cell) (hc : env.cells.lookup x = some c)
  (k : ∀ o' s', o'.data = .cell (some v) → Stt s0 g L m ((c, o') :: r) s' → Q () s') : WP M A (storeName env x v) Q E s := by
 refine ⟨wpAny_storeName_cell hf.1 hf.2 hc ⟨o, S.get (.head _), hd⟩ fun h' hv hs => ?_⟩
 obtain ⟨o', ho', hd'⟩ := hv
 exact k o' _ hd' (S.setAt s.toks .head hs ho')
theorem q_storeX1 {p0 : Addr × Obj} {r : LD} {c : Addr} {o : Obj} {x : Str} {v : Value} {v0 : Option Value} {Q : Unit → Shared → Prop} (S : Stt s0 g L m (p0 :: (c, o) :: r) s) (hd : o.data = .cell v0) (hf : env.scope.kind = .function ∧ env.kindOf x = some .cell) (hc : env.cells.lookup x = some c)
  (k : ∀ o' s', o'.data = .cell (some v) → Stt s0 g L m (p0 :: (c, o') :: r) s' → Q () s') : WP M A (storeName env x v) Q E s := by
 refine ⟨wpAny_storeName_cell hf.1 hf.2 hc ⟨o, S.get (.tail _ (.head _)), hd⟩ fun h' hv hs => ?_⟩
 obtain ⟨o', ho', hd'⟩ := hv
 exact k o' _ hd' (S.setAt s.toks (.tail .head) hs ho')
theorem q_storeX2 {p0 p1 : Addr × Obj} {r : LD} {c : Addr} {o : Obj} {x : Str} {v : Value} {v0 : Option Value} {Q : Unit → Shared → Prop} (S : Stt s0 g L m (p0 :: p1 :: (c, o) :: r) s) (hd : o.data = .cell v0) (hf : env.scope.kind = .function ∧ env.kindOf x = some .cell) (hc : env.cells.lookup x = some c)
  (k : ∀ o' s', o'.data = .cell (some v) → Stt s0 g L m (p0 :: p1 :: (c, o') :: r) s' → Q () s') : WP M A (storeName env x v) Q E s := by
 refine ⟨wpAny_storeName_cell hf.1 hf.2 hc ⟨o, S.get (.tail _ (.tail _ (.head _))), hd⟩ fun h' hv hs => ?_⟩
 obtain ⟨o', ho', hd'⟩ := hv
 exact k o' _ hd' (S.setAt s.toks (.tail (.tail .head)) hs ho')
noncomputable abbrev WTurn (prog : Program) (w : World) (A : Around) (s0 : Shared) (g : Heap) (L : Addr) (m : SM) (env : Env) (x : Str) (scope : Scope) (cl : List (Str × Addr)) (ifs : List Expr) (elt : Expr)
  (J : Nat → List Value → List (Addr × Obj) → Prop) (i : Nat) (v : Value) : Prop :=
 ∀ ys r_1 I it C oC mC D s_1, J i ys r_1 → ys.length ≤ i → NsO oC mC → mC x = some v → Stt s0 g L m ((I, it) :: (C, oC) :: (D, lst ys) :: r_1) s_1 →
  WP (model prog w) A (testsOf ifs (compEnvC scope cl C env)) (fun ok s_2 => if ok = true then
   WP (model prog w) A (eval elt (compEnvC scope cl C env)) (fun y s3 => ∃ r_2, And (Stt s0 g L m ((I, it) :: (C, oC) :: (D, lst ys) :: r_2) s3) (J (i + 1) (ys ++ [y]) r_2)) NE s_2
   else ∃ r_2, Stt s0 g L m ((I, it) :: (C, oC) :: (D, lst ys) :: r_2) s_2 ∧ J (i + 1) ys r_2) NE s_1
theorem WTurn.c {x : Str} {scope : Scope} {cl : List (Str × Addr)} {ifs : List Expr} {elt : Expr} {J : Nat → List Value → List (Addr × Obj) → Prop} {i : Nat} {v : Value}
  (h : WTurn prog w A s0 g L m env x scope cl ifs elt J i v) : CTurn prog w A s0 g L m env x scope cl ifs elt i v (J i) J := fun ys r_1 I it C oC mC D s_1 a b c d e =>
 wpAny_mono (h ys r_1 I it C oC mC D s_1 a b c d e).run (fun ok s_2 q => by cases ok <;> simp only [Bool.false_eq_true, if_true, if_false] at q ⊢ <;> first | exact q.run | exact q) fun _ _ e => e
noncomputable def IsSeq (o : Obj) (vs : List Value) : Prop := (o.cls = .type "list" ∨ o.cls = .type "tuple") ∧ ∃ n, o.data = .seq vs.toArray n
theorem src_seq {x : Str} {scope : Scope} {cl : List (Str × Addr)} {ifs : List Expr} {elt : Expr} {J : Nat → List Value → List (Addr × Obj) → Prop} {l : Addr} {lo : Obj} {vs : List Value}
  (hh : A.handled = none) (hq : IsSeq lo vs) (S : Stt s0 g L m rest s) (hl : g.get? l = some lo ∨ ∀ i ys r, J i ys r → (l, lo) ∈ r) (hsz : vs.length ≤ sizeLine) (h0 : J 0 [] rest)
  (turn : ∀ i v, vs[i]? = some v → WTurn prog w A s0 g L m env x scope cl ifs elt J i v) :
  wpAny (model prog w) A (pyIter (.ref l)) (fun iv s' => CSrc prog w A s0 g L m (CTurn prog w A s0 g L m env x scope cl ifs elt) J vs.length iv s') E s := by
 have hlo : s.heap.get? l = some lo := hl.elim (fun e => S.base e) fun e => S.get (e _ _ _ h0)
 have hlt := Heap.lt_size hlo
 have hne : l ≠ s.heap.objs.size := Nat.ne_of_lt hlt
 have keep : ∀ b ∈ [s.heap.objs.size, l], b ≠ s.heap.objs.size → g.get? b = none → ∃ o, ∀ i ys r, J i ys r → (b, o) ∈ r := fun b hb hbI hg => by
  rcases List.mem_cons.mp hb with e | hb
  ·exact absurd e hbI
  ·obtain rfl := List.mem_singleton.mp hb
   rcases hl with e | e
   ·rw [hg] at e; cases e
   ·exact ⟨lo, e⟩
 have fpl : ∀ (o : Obj), ∀ b ∈ [s.heap.objs.size, l], b < (s.heap.push o).objs.size := fun o b hb => by
  rw [Heap.size_push]
  rcases List.mem_cons.mp hb with rfl | hb
  ·exact Nat.lt_succ_self _
  ·rw [List.mem_singleton.mp hb]; exact Nat.lt_succ_of_lt hlt
 obtain ⟨hc | hc, n, hd⟩ := hq
 ·have hls : s.heap.IsList l vs.toArray := ⟨lo, hlo, hc, n, hd⟩
  have W := Walks.list (prog := prog) (w := w) hh s.heap.objs.size l hne vs.toArray
  rw [List.size_toArray] at W
  refine wpAny_pyIter_list hls ⟨_, _, _, _, _, rest, rfl, W, hsz, fun i h ⟨⟨o, e, _⟩, _⟩ => ⟨o, e⟩, S.push _ s.toks, ⟨⟨_, Heap.get?_push_size _ rfl, rfl, rfl⟩, hls.at fun o e => Heap.get?_push_of_some _ e⟩, fpl _, keep, h0, fun i v _ hv => (turn i v (by simpa using hv)).c⟩
 ·have hls : s.heap.IsTuple l vs.toArray := ⟨lo, hlo, hc, n, hd⟩
  have W := Walks.tuple (prog := prog) (w := w) hh s.heap.objs.size l hne vs.toArray
  rw [List.size_toArray] at W
  refine wpAny_pyIter_tuple hls ⟨_, _, _, _, _, rest, rfl, W, hsz, fun i h ⟨⟨o, e, _⟩, _⟩ => ⟨o, e⟩, S.push _ s.toks, ⟨⟨_, Heap.get?_push_size _ rfl, rfl, rfl⟩, hls.push _⟩, fpl _, keep, h0, fun i v _ hv => (turn i v (by simpa using hv)).c⟩
inductive PComp (prog : Program) (w : World) (A : Around) (env : Env) (elt : Expr) (x : Str) (ifs : List Expr) (scope : Scope) (cl : List (Str × Addr)) (Q : VP) (E : VP) (xv : Value) (s_1 : Shared) : Prop
 | mk (s0 : Shared) (g : Heap) (L : Addr) (m : SM) (J : Nat → List Value → List (Addr × Obj) → Prop) (n : Nat) (h1 : wpAny (model prog w) A (pyIter xv) (fun iv s_2 => CSrc prog w A s0 g L m (CTurn prog w A s0 g L m env x scope cl ifs elt) J n iv s_2) E s_1) (h2 : ∀ D ys r s', J n ys r → ys.length ≤ n → Stt s0 g L m ((D, lst ys) :: r) s' → Q (.ref D) s') : PComp prog w A env elt x ifs scope cl Q E xv s_1
theorem q_comp {elt iter : Expr} {x : Str} {px : Pos} {ifs : List Expr} {scope : Scope} {cl : List (Str × Addr)} {pos : Pos} {Q : VP}
  (hclos : closureFor scope env = pure cl)
  (h : WP (model prog w) A (eval iter env) (PComp prog w A env elt x ifs scope cl Q E) E s)
  (hcell : (scope.names.all fun y => y.2 != .cell) = true := by exact rfl) (hkind : scope.kind = .function := by exact rfl)
  (hnames : (scope.names.all fun y => y.2 != .local || scope.names.lookup y.1 == some .local) = true := by exact rfl) (hx : scope.names.lookup x = some .local := by exact rfl)
  (hs : ∀ x, foldedSetIterable iter env x = pure x := by intro _; exact rfl) :
  WP (model prog w) A (eval (.ListComp elt [⟨.Name x px, iter, ifs, 0⟩] scope pos) env) Q E s := by
 refine ⟨?_⟩
 rw [eval_ListComp]
 simp only [List.all_eq_true] at hcell hnames
 refine wpAny_comprehension_free (use := none) rfl hs hclos hkind (fun y hy hl => by simpa [hl] using hnames y hy) (wpAny_mono h.run (fun xv s_1 h_1 => ?_) fun _ _ e => e)
 obtain ⟨s0, g, L, m, J, n, hsrc, fin⟩ := h_1
 refine wpAny_mono hsrc (fun iv s_2 K => comp_block K (fun y hy => by simpa using hcell y hy) hkind hx ?_) fun _ _ e => e
 intro D C oC mC ys r s' hJ hyl hoC S'
 exact ⟨mC, hoC.ns (S'.get (.head _)), fun h' hs' => fin D ys r _ hJ hyl (S'.drop s'.toks hs')⟩
inductive PAComp (prog : Program) (w : World) (A : Around) (env : Env) (g : Heap) (elt : Expr) (x : Str) (y : Str) (ifs : List Expr) (scope : Scope) (cl : List (Str × Addr)) (Q : FP) (E : VP) (xv : Value) (s_1 : Shared) : Prop
 | mk (s0 : Shared) (m : SM) (J : Nat → List Value → List (Addr × Obj) → Prop) (n : Nat) (h1 : wpAny (model prog w) A (pyIter xv) (fun iv s_2 => CSrc prog w A s0 g env.locals m (CTurn prog w A s0 g env.locals m env x scope cl ifs elt) J n iv s_2) E s_1) (h2 : ∀ D ys r s', J n ys r → ys.length ≤ n → Stt s0 g env.locals (fun z => if z = y then some (.ref D) else m z) ((D, lst ys) :: r) s' → Q .next s') : PAComp prog w A env g elt x y ifs scope cl Q E xv s_1
theorem q_acomp (C : Fm w A env g base outer nm G) {elt iter : Expr} {x y : Str} {px py : Pos} {ifs : List Expr} {scope : Scope} {cl : List (Str × Addr)} {pos spos : Pos} {Q : FP}
  (hclos : closureFor scope env = pure cl) (hy : y ∈ nm)
  (h : WP (model prog w) A (eval iter env) (PAComp prog w A env g elt x y ifs scope cl Q E) E s)
  (hsw : (py.line == pos.line && !(scope.names.any fun p => p.1 == y && (p.2 == .local || p.2 == .cell))) = true := by exact rfl)
  (hcell : (scope.names.all fun y => y.2 != .cell) = true := by exact rfl) (hkind : scope.kind = .function := by exact rfl)
  (hnames : (scope.names.all fun y => y.2 != .local || scope.names.lookup y.1 == some .local) = true := by exact rfl) (hx : scope.names.lookup x = some .local := by exact rfl)
  (hs : ∀ x, foldedSetIterable iter env x = pure x := by intro _; exact rfl) :
  WP (model prog w) A (exec (.Assign [.Name y py] (.ListComp elt [⟨.Name x px, iter, ifs, 0⟩] scope pos) spos) env) Q E s := by
 refine ⟨?_⟩
 rw [exec_Assign_Name_used _ _ _ _ (sw_comp C.hk (C.loc y hy).1 hsw)]
 simp only [List.all_eq_true] at hcell hnames
 refine wpAny_bind (wpAny_standAt (wpAny_bind ?_))
 show wpAny _ A (do let _ ← comprehension (.ListComp elt [⟨.Name x px, iter, ifs, 0⟩] scope pos) scope env _ (newList []) false (eval iter env) (some (assign (.Name y py) env))) _ _ s
 refine wpAny_bind (wpAny_mono (wpAny_comprehension_free (use := some (assign (.Name y py) env)) (Q := fun _ s' => Q .next s') rfl hs hclos hkind (fun y hy hl => by simpa [hl] using hnames y hy)
  (wpAny_mono h.run (fun xv s_1 h_1 => ?_) fun _ _ e => e)) (fun _ s' hq => wpAny_pure (wpAny_pure hq)) fun _ _ e => e)
 obtain ⟨s0, m, J, n, hsrc, fin⟩ := h_1
 refine wpAny_mono hsrc (fun iv s_2 K => comp_block K (fun y hy => by simpa using hcell y hy) hkind hx ?_) fun _ _ e => e
 intro D Ca oC mC ys r s' hJ hyl hoC S'
 show wpAny _ A (assign (.Name y py) env (.ref D)) _ _ _
 refine wpAny_assign_Name (wpAny_storeName_local (C.loc y hy).1 S'.fr.ns (fun h_2 hn_2 hs2 => ?_) C.plain)
 have S_2 := S'.ns (s'.toks + 1) hn_2 hs2
 exact ⟨mC, hoC.ns (S_2.get (.head _)), fun h' hs' => fin D ys r _ hJ hyl (S_2.drop _ hs')⟩
end
theorem bindL_eq (k : Str → Option NameKind) : ∀ (binds : SV) (m : SM), bindL k binds m = fun y => ((binds.filter fun p => k p.1 == some .local).reverse.lookup y).or (m y)
 | [], m => by funext y; simp [bindL]
 | (n, v) :: r, m => by
  funext y
  rw [bindL, bindL_eq k r]
  by_cases h : k n = some .local
  ·have e : (List.filter (fun p => k p.1 == some NameKind.local) ((n, v) :: r)) = (n, v) :: r.filter fun p => k p.1 == some .local := by simp [h]
   rw [e, if_pos h, List.reverse_cons, List.lookup_append]
   by_cases hy : y = n
   ·subst hy; simp
   ·have : (y == n) = false := beq_eq_false_iff_ne.mpr hy
    simp [List.lookup, this, hy]
  ·have e : (List.filter (fun p => k p.1 == some NameKind.local) ((n, v) :: r)) = r.filter fun p => k p.1 == some .local := by simp [h]
   rw [e, if_neg h]
theorem bindC_eq (k : Str → Option NameKind) : ∀ (binds : SV) (m : SM), bindC k binds m = fun y => ((binds.filter fun p => !(k p.1 == some .local)).reverse.lookup y).or (m y)
 | [], m => by funext y; simp [bindC]
 | (n, v) :: r, m => by
  funext y
  rw [bindC, bindC_eq k r]
  by_cases h : k n = some .local
  ·have e : (List.filter (fun p => !(k p.1 == some NameKind.local)) ((n, v) :: r)) = r.filter fun p => !(k p.1 == some .local) := by simp [h]
   rw [e, if_pos h]
  ·have e : (List.filter (fun p => !(k p.1 == some NameKind.local)) ((n, v) :: r)) = (n, v) :: r.filter fun p => !(k p.1 == some .local) := by simp [h]
   rw [e, if_neg h, List.reverse_cons, List.lookup_append]
   by_cases hy : y = n
   ·subst hy; simp
   ·have : (y == n) = false := beq_eq_false_iff_ne.mpr hy
    simp [List.lookup, this, hy]
structure Cm (env : Env) (cs : List (Str × Addr)) : Prop where
 cells : env.cells = cs
 kind : env.scope.kind = .function
 all : ∀ p ∈ cs, env.kindOf p.1 = some .cell
theorem Cm.at {env : Env} {cs : List (Str × Addr)} (h : Cm env cs) {x : Str} {c : Addr} (hm : (x, c) ∈ cs) : env.scope.kind = .function ∧ env.kindOf x = some .cell := ⟨h.kind, h.all _ hm⟩
section
variable {prog : Program} {w : World} {A : Around} {env : Env} {g base : Heap} {outer : List Env} {nm : List Str} {G : SV}
 {E : VP} {s0 s : Shared} {m : SM} {sub rest : LD}
theorem q_defC0 (C : Fm w A env g base outer nm G) (S : Stt s0 g env.locals m (sub ++ rest) s)
  {f : Addr} {oc : Value} {od : Option Addr} {osl : Array (Option Value)} {name qual : Str} {params : Arguments} {body : List Stmt} {scope : Scope} {dV kV doc pm cdv ct : Value} {an : Option Addr}
  {args : List Value} {Q : VP} (nm' : List Str) (vs : List Value) (vals' : OV) (G' : SV) (binds cb : SV) (cs : Nat → List (Str × Addr))
  (ho : (hK w.params).lookup f = some ⟨oc, od, .func (fnOf name qual params body scope dV kV doc pm an cdv ct), osl⟩) (hcd : codeIn (hK w.params) cdv qual = true) (hroom : A.depth < recursionLimit)
  (hbind : BindsTo s (fnOf name qual params body scope dV kV doc pm an cdv ct) ⟨args, []⟩ binds) (hlen : vs.length ≤ nm'.length) (hvals : vals' = vs.map some ++ List.replicate (nm'.length - vs.length) none)
  (hloc : (binds.filter fun p => scope.names.lookup p.1 == some .local) = nm'.zip vs) (hcel : (binds.filter fun p => !(scope.names.lookup p.1 == some .local)) = cb)
  (hck : ckNames scope nm' G' = true) (hcs : ∀ n, cellsFrom n scope.names [] = cs n) (hcsn : ((cs 0).map (·.1)).Nodup) (hcsk : ((cs 0).all fun p => scope.names.lookup p.1 == some .cell) = true)
  (hkind : ∀ n, ∀ x ∈ binds, scope.names.lookup x.1 = some .local ∨ (scope.names.lookup x.1 = some .cell ∧ ((cs n).lookup x.1).isSome = true))
  (hco : scope.isCoroutine = false) (hgen : scope.isGenerator = false) (hkf : scope.kind = .function)
  (h : ∀ g' n env' s_1 cells, (∀ b o, s.heap.get? b = some o → b ∉ sub.map (·.1) → g'.get? b = some o) → (∀ b o, g'.get? b = some o → s.heap.get? b = some o) →
   Fm w (A.deeper env') env' g' base (env :: outer) nm' G' → env'.code = cdv ∧ env'.qual = qual ++ ".<locals>." → Cm env' (cs n) → CellsAre (fun y => cb.reverse.lookup y) (cs n) cells → Stt s g' env'.locals (lcs nm' vals') (cells ++ sub) s_1 →
   WP (model prog w) (A.deeper env') (execs body env')
    (DPost s g' env'.locals s0 g env.locals m rest Q) NE s_1) :
  WP (model prog w) A (PySem.call (.ref f) args) Q E s := by
 have X : (hK w.params).In s.heap := C.X.keeps S.fr.keep
 obtain ⟨p, loose, mean, mg, mb, T⟩ := C.T
 have N := news_left S.led
 have st : g.StaysIn (hideAll s.heap (sub.map (·.1))) := fun b o e => hideAll_get _ (S.fr.keep b o e) (fun q => by obtain ⟨p, hp, rfl⟩ := List.mem_map.mp q; rw [(N p hp).2.2] at e; cases e)
 simp only [ckNames, Bool.and_eq_true, List.all_eq_true, decide_eq_true_eq] at hck
 obtain ⟨⟨hk1, hk2⟩, hk3⟩ := hck
 have hp1 : ∀ x ∈ nm', scope.names.lookup x = some .local ∧ (x == ("__debug__" : Str)) = false := fun x hx => by
  have := hk1 x hx
  exact ⟨eq_of_beq this.1, by simpa using this.2⟩
 have hcn : ∀ n, (cs n).map (·.1) = (cs 0).map (·.1) := fun n => by rw [← hcs, ← hcs]; exact cellsFrom_names scope.names n 0 [] [] rfl
 refine ⟨wpAny_call (codeAny_call_function hroom (X _ _ ho) rfl hco hgen rfl (codeRec_of X hcd) (hbind _ _ _ _ ?_))⟩
 refine wpAny_newFunctionEnv_cells hkf (by rw [hcs]; exact hkind _) fun env' he s' x => ?_
 rw [hcs] at he
 have hcells : env'.cells = cs (s.heap.objs.size + 1) := by rw [he]; rfl
 have hlocs : env'.locals = s.heap.objs.size := by rw [he]; rfl
 have hkO : env'.kindOf = fun n => scope.names.lookup n := by rw [he]; rfl
 refine ⟨(T.nolimit.keeps S.fr.keep).keeps x.toInCall.keep, codeAny_func ?_⟩
 obtain ⟨h_1, tk, rfl, _⟩ := x.done
 have hk_1 := x.toInCall.keep
 have hns := x.toInCall.ns
 have hcl := x.cell
 have hab := x.above
 rw [hcells] at hcl hab
 rw [hlocs] at hns hab
 obtain ⟨cells, NC, Y⟩ := Cl.news (h₀ := s.heap) (L := s.heap.objs.size) (Nat.le_refl _) fun n c hm => ⟨hcl n c (lookup_of_mem_nodup ((hcn _).symm ▸ hcsn) hm), hab n c hm⟩
 have up : ∀ b o, s.heap.get? b = some o → b ∉ sub.map (·.1) → (hideAll s.heap (sub.map (·.1))).get? b = some o := fun b o e n => hideAll_get _ e n
 have eL : bindL env'.kindOf binds (fun _ => none) = lcs nm' vals' := by
  rw [hkO, bindL_eq, hloc, hvals, ← binds_lcs hlen hk3]; funext y; simp
 have eC : bindC env'.kindOf binds (fun _ => none) = fun y => cb.reverse.lookup y := by
  rw [hkO, bindC_eq, hcel]; funext y; simp
 rw [eC] at Y
 rw [eL] at hns
 have Yk : ∀ {cs : List (Str × Addr)} {cells : LD}, CellsAre (fun y => cb.reverse.lookup y) cs cells → cells.map (·.1) = cs.map (·.2) := by
  intro cs cells Y; induction Y with
  | nil => rfl
  | cons _ _ ih => simp [ih]
 have ap : ((cs (s.heap.objs.size + 1)).map (·.2)).Nodup := by
  have := x.apart
  rw [hcells] at this
  exact List.pairwise_map.mpr this
 have hcx : ∀ p ∈ cs (s.heap.objs.size + 1), env'.kindOf p.1 = some .cell := fun p hp => by
  rw [hkO]
  obtain ⟨q, hq, e⟩ := List.mem_map.mp ((hcn (s.heap.objs.size + 1)) ▸ List.mem_map_of_mem hp : p.1 ∈ (cs 0).map (·.1))
  have := List.all_eq_true.mp hcsk q hq
  rw [← e]; exact eq_of_beq this
 have hfm : Fm w (A.deeper env') env' (hideAll s.heap (sub.map (·.1))) base (env :: outer) nm' G' := by
  subst he
  refine ⟨C.X.keeps st, ⟨p, loose, mean, mg, mb, T.keeps st⟩, trivial, Around.frames_deeper C.hA, rfl, hkf, C.hh, rfl, rfl, hk3, hp1, fun q hq => ?_⟩
  have := hk2 q hq
  exact ⟨eq_of_beq this.1.1, by simpa using this.1.2, gts w q (List.contains_iff_mem.mp this.2)⟩
 have hcm : Cm env' (cs (s.heap.objs.size + 1)) := ⟨hcells, by rw [he]; exact hkf, hcx⟩
 refine wpAny_mono (h (hideAll s.heap (sub.map (·.1))) (s.heap.objs.size + 1) env' _ cells up (fun b o e => of_hideAll _ e) hfm (by rw [he]; exact ⟨rfl, rfl⟩) hcm Y ?_).run (fun fl s_2 hl => ?_) fun _ _ e => e.elim
 ·refine ⟨⟨_, _, rfl⟩, ?_, fun p hp => ?_, ?_⟩
  ·rw [hlocs]
   exact ⟨hns, fun b o e => hk_1 b o (of_hideAll _ e), Nat.le_of_eq (hideAll_size _ _)⟩
  ·rw [hlocs]
   rcases List.mem_append.mp hp with hp | hp
   ·refine ⟨(NC p hp).1, (NC p hp).2.1, ?_⟩
    cases q : (hideAll s.heap (sub.map (·.1))).get? p.1 with
    | none => rfl
    | some o => have := of_hideAll _ q; rw [(NC p hp).2.2] at this; cases this
   ·exact ⟨hk_1 _ _ (N p hp).1, Nat.ne_of_lt (Heap.lt_size (N p hp).1), hideAll_none _ (List.mem_map_of_mem hp)⟩
  ·have nd := S.nd
   simp only [List.map_append, List.nodup_append] at nd ⊢
   refine ⟨(Yk Y) ▸ ap, nd.1, fun a ha b hb e => ?_⟩
   obtain ⟨p, hp, rfl⟩ := List.mem_map.mp ha
   obtain ⟨q, hq, rfl⟩ := List.mem_map.mp hb
   have := (N q hq).1
   rw [← e, (NC p hp).2.2] at this; cases this
 ·obtain ⟨m', news', S_2, k⟩ := hl
  have := k (back S up S_2 (Nat.le_of_eq hlocs.symm))
  cases fl <;> exact this
noncomputable abbrev rets (Q : VP) (E : VP) : Result → Shared → Prop := fun r s' => match r with | .ok (.ret v) => Q v s' | .ok _ => False | .error e => E e s'
theorem q_defGK (C : Fm w A env g base outer nm G) {z : Shared} (S : Stt s0 g env.locals m (sub ++ rest) z) (hk0 : ∀ b o, g.get? b = some o → s.heap.get? b = some o)
  {f : Addr} {oc : Value} {od : Option Addr} {osl : Array (Option Value)} {name qual : Str} {params : Arguments} {body : List Stmt} {scope : Scope} {dV kV doc pm cdv ct : Value} {an : Option Addr}
  {args : List Value} {Q : VP} (nm' : List Str) (vs : List Value) (vals' : OV) (G' : SV) (binds cb : SV) (cs : Nat → List (Str × Addr))
  (ho : (hK w.params).lookup f = some ⟨oc, od, .func (fnOf name qual params body scope dV kV doc pm an cdv ct), osl⟩) (hcd : codeIn (hK w.params) cdv qual = true) (hroom : A.depth < recursionLimit)
  (hbind : ∀ (M : Model) (A : Around) (E : VP) (Q : List (Str × Value) → Shared → Prop), Q binds z → wpAny M A (bindArgs (fnOf name qual params body scope dV kV doc pm an cdv ct) ⟨args, []⟩) Q E s) (hlen : vs.length ≤ nm'.length) (hvals : vals' = vs.map some ++ List.replicate (nm'.length - vs.length) none)
  (hloc : (binds.filter fun p => scope.names.lookup p.1 == some .local) = nm'.zip vs) (hcel : (binds.filter fun p => !(scope.names.lookup p.1 == some .local)) = cb)
  (hck : ckNames scope nm' G' = true) (hcs : ∀ n, cellsFrom n scope.names [] = cs n) (hcsn : ((cs 0).map (·.1)).Nodup) (hcsk : ((cs 0).all fun p => scope.names.lookup p.1 == some .cell) = true)
  (hkind : ∀ n, ∀ x ∈ binds, scope.names.lookup x.1 = some .local ∨ (scope.names.lookup x.1 = some .cell ∧ ((cs n).lookup x.1).isSome = true))
  (hco : scope.isCoroutine = false) (hgen : scope.isGenerator = false) (hkf : scope.kind = .function)
  (h : ∀ g' n env' s_1 cells, (∀ b o, z.heap.get? b = some o → b ∉ sub.map (·.1) → g'.get? b = some o) → (∀ b o, g'.get? b = some o → z.heap.get? b = some o) →
   Fm w (A.deeper env') env' g' base (env :: outer) nm' G' → env'.code = cdv ∧ env'.qual = qual ++ ".<locals>." → Cm env' (cs n) → CellsAre (fun y => cb.reverse.lookup y) (cs n) cells → Stt z g' env'.locals (lcs nm' vals') (cells ++ sub) s_1 →
   WP (model prog w) (A.deeper env') (execs body env')
    (DPost z g' env'.locals s0 g env.locals m rest Q) NE s_1) :
  codeAny (model prog w) A (.call (.ref f) ⟨args, []⟩) (rets Q E) s := by
 have X : (hK w.params).In s.heap := C.X.keeps hk0
 obtain ⟨p, loose, mean, mg, mb, T⟩ := C.T
 have N := news_left S.led
 have st : g.StaysIn (hideAll z.heap (sub.map (·.1))) := fun b o e => hideAll_get _ (S.fr.keep b o e) (fun q => by obtain ⟨p, hp, rfl⟩ := List.mem_map.mp q; rw [(N p hp).2.2] at e; cases e)
 simp only [ckNames, Bool.and_eq_true, List.all_eq_true, decide_eq_true_eq] at hck
 obtain ⟨⟨hk1, hk2⟩, hk3⟩ := hck
 have hp1 : ∀ x ∈ nm', scope.names.lookup x = some .local ∧ (x == ("__debug__" : Str)) = false := fun x hx => by
  have := hk1 x hx
  exact ⟨eq_of_beq this.1, by simpa using this.2⟩
 have hcn : ∀ n, (cs n).map (·.1) = (cs 0).map (·.1) := fun n => by rw [← hcs, ← hcs]; exact cellsFrom_names scope.names n 0 [] [] rfl
 refine codeAny_call_function hroom (X _ _ ho) rfl hco hgen rfl (codeRec_of X hcd) (hbind _ _ _ _ ?_)
 refine wpAny_newFunctionEnv_cells hkf (by rw [hcs]; exact hkind _) fun env' he s' x => ?_
 rw [hcs] at he
 have hcells : env'.cells = cs (z.heap.objs.size + 1) := by rw [he]; rfl
 have hlocs : env'.locals = z.heap.objs.size := by rw [he]; rfl
 have hkO : env'.kindOf = fun n => scope.names.lookup n := by rw [he]; rfl
 refine ⟨(T.nolimit.keeps S.fr.keep).keeps x.toInCall.keep, codeAny_func ?_⟩
 obtain ⟨h_1, tk, rfl, _⟩ := x.done
 have hk_1 := x.toInCall.keep
 have hns := x.toInCall.ns
 have hcl := x.cell
 have hab := x.above
 rw [hcells] at hcl hab
 rw [hlocs] at hns hab
 obtain ⟨cells, NC, Y⟩ := Cl.news (h₀ := z.heap) (L := z.heap.objs.size) (Nat.le_refl _) fun n c hm => ⟨hcl n c (lookup_of_mem_nodup ((hcn _).symm ▸ hcsn) hm), hab n c hm⟩
 have up : ∀ b o, z.heap.get? b = some o → b ∉ sub.map (·.1) → (hideAll z.heap (sub.map (·.1))).get? b = some o := fun b o e n => hideAll_get _ e n
 have eL : bindL env'.kindOf binds (fun _ => none) = lcs nm' vals' := by
  rw [hkO, bindL_eq, hloc, hvals, ← binds_lcs hlen hk3]; funext y; simp
 have eC : bindC env'.kindOf binds (fun _ => none) = fun y => cb.reverse.lookup y := by
  rw [hkO, bindC_eq, hcel]; funext y; simp
 rw [eC] at Y
 rw [eL] at hns
 have Yk : ∀ {cs : List (Str × Addr)} {cells : LD}, CellsAre (fun y => cb.reverse.lookup y) cs cells → cells.map (·.1) = cs.map (·.2) := by
  intro cs cells Y; induction Y with
  | nil => rfl
  | cons _ _ ih => simp [ih]
 have ap : ((cs (z.heap.objs.size + 1)).map (·.2)).Nodup := by
  have := x.apart
  rw [hcells] at this
  exact List.pairwise_map.mpr this
 have hcx : ∀ p ∈ cs (z.heap.objs.size + 1), env'.kindOf p.1 = some .cell := fun p hp => by
  rw [hkO]
  obtain ⟨q, hq, e⟩ := List.mem_map.mp ((hcn (z.heap.objs.size + 1)) ▸ List.mem_map_of_mem hp : p.1 ∈ (cs 0).map (·.1))
  have := List.all_eq_true.mp hcsk q hq
  rw [← e]; exact eq_of_beq this
 have hfm : Fm w (A.deeper env') env' (hideAll z.heap (sub.map (·.1))) base (env :: outer) nm' G' := by
  subst he
  refine ⟨C.X.keeps st, ⟨p, loose, mean, mg, mb, T.keeps st⟩, trivial, Around.frames_deeper C.hA, rfl, hkf, C.hh, rfl, rfl, hk3, hp1, fun q hq => ?_⟩
  have := hk2 q hq
  exact ⟨eq_of_beq this.1.1, by simpa using this.1.2, gts w q (List.contains_iff_mem.mp this.2)⟩
 have hcm : Cm env' (cs (z.heap.objs.size + 1)) := ⟨hcells, by rw [he]; exact hkf, hcx⟩
 refine wpAny_mono (h (hideAll z.heap (sub.map (·.1))) (z.heap.objs.size + 1) env' _ cells up (fun b o e => of_hideAll _ e) hfm (by rw [he]; exact ⟨rfl, rfl⟩) hcm Y ?_).run (fun fl s_2 hl => ?_) fun _ _ e => e.elim
 ·refine ⟨⟨_, _, rfl⟩, ?_, fun p hp => ?_, ?_⟩
  ·rw [hlocs]
   exact ⟨hns, fun b o e => hk_1 b o (of_hideAll _ e), Nat.le_of_eq (hideAll_size _ _)⟩
  ·rw [hlocs]
   rcases List.mem_append.mp hp with hp | hp
   ·refine ⟨(NC p hp).1, (NC p hp).2.1, ?_⟩
    cases q : (hideAll z.heap (sub.map (·.1))).get? p.1 with
    | none => rfl
    | some o => have := of_hideAll _ q; rw [(NC p hp).2.2] at this; cases this
   ·exact ⟨hk_1 _ _ (N p hp).1, Nat.ne_of_lt (Heap.lt_size (N p hp).1), hideAll_none _ (List.mem_map_of_mem hp)⟩
  ·have nd := S.nd
   simp only [List.map_append, List.nodup_append] at nd ⊢
   refine ⟨(Yk Y) ▸ ap, nd.1, fun a ha b hb e => ?_⟩
   obtain ⟨p, hp, rfl⟩ := List.mem_map.mp ha
   obtain ⟨q, hq, rfl⟩ := List.mem_map.mp hb
   have := (N q hq).1
   rw [← e, (NC p hp).2.2] at this; cases this
 ·obtain ⟨m', news', S_2, k⟩ := hl
  have := k (back S up S_2 (Nat.le_of_eq hlocs.symm))
  cases fl <;> exact this
theorem q_ofK {M : Model} {f : Value} {args : List Value} {Q : VP} (h : codeAny M A (.call f ⟨args, []⟩) (rets Q E) s) : WP M A (PySem.call f args) Q E s := ⟨wpAny_call h⟩
theorem q_defC (C : Fm w A env g base outer nm G) (S : Stt s0 g env.locals m (sub ++ rest) s)
  {f : Addr} {oc : Value} {od : Option Addr} {osl : Array (Option Value)} {name qual : Str} {params : Arguments} {body : List Stmt} {scope : Scope} {dV kV doc pm cdv ct : Value} {an : Option Addr}
  {args : List Value} {Q : VP} (nm' : List Str) (vs : List Value) (vals' : OV) (G' : SV) (binds cb : SV) (cs : Nat → List (Str × Addr))
  (ho : (hK w.params).lookup f = some ⟨oc, od, .func (fnOf name qual params body scope dV kV doc pm an cdv ct), osl⟩) (hcd : codeIn (hK w.params) cdv qual = true) (hroom : A.depth < recursionLimit)
  (hbind : BindsTo s (fnOf name qual params body scope dV kV doc pm an cdv ct) ⟨args, []⟩ binds) (hlen : vs.length ≤ nm'.length) (hvals : vals' = vs.map some ++ List.replicate (nm'.length - vs.length) none)
  (hloc : (binds.filter fun p => scope.names.lookup p.1 == some .local) = nm'.zip vs) (hcel : (binds.filter fun p => !(scope.names.lookup p.1 == some .local)) = cb)
  (hck : ckNames scope nm' G' = true) (hcs : ∀ n, cellsFrom n scope.names [] = cs n) (hcsn : ((cs 0).map (·.1)).Nodup) (hcsk : ((cs 0).all fun p => scope.names.lookup p.1 == some .cell) = true)
  (hkind : ∀ n, ∀ x ∈ binds, scope.names.lookup x.1 = some .local ∨ (scope.names.lookup x.1 = some .cell ∧ ((cs n).lookup x.1).isSome = true))
  (hco : scope.isCoroutine = false) (hgen : scope.isGenerator = false) (hkf : scope.kind = .function)
  (h : ∀ g' n env' s_1 cells, (∀ b o, s.heap.get? b = some o → b ∉ sub.map (·.1) → g'.get? b = some o) → (∀ b o, g'.get? b = some o → s.heap.get? b = some o) →
   Fm w (A.deeper env') env' g' base (env :: outer) nm' G' → Cm env' (cs n) → CellsAre (fun y => cb.reverse.lookup y) (cs n) cells → Stt s g' env'.locals (lcs nm' vals') (cells ++ sub) s_1 →
   WP (model prog w) (A.deeper env') (execs body env')
    (DPost s g' env'.locals s0 g env.locals m rest Q) NE s_1) :
  WP (model prog w) A (PySem.call (.ref f) args) Q E s :=
 q_defC0 C S nm' vs vals' G' binds cb cs ho hcd hroom hbind hlen hvals hloc hcel hck hcs hcsn hcsk hkind hco hgen hkf fun g' n env' s_1 cells a b c _ d e f => h g' n env' s_1 cells a b c d e f
end
section
variable {prog : Program} {w : World} {A : Around} {env : Env} {g base : Heap} {outer : List Env} {nm : List Str} {G : SV}
 {E : VP} {s0 s : Shared} {vals vals' : OV} {L : Addr} {m : SM} {news news' rest : LD}
theorem q_meth0 {o : Expr} {name : Str} {apos pos : Pos} {T id : String} {Q : VP} (pa : PlainAttrs T) (slot : Slot T name id) (hty : typeOf (.builtin id) = pure (.type "method_descriptor"))
  (h : WP (model prog w) A (eval o env) (fun ov s_1 => s_1.TypeIs ov T ∧ (∀ a, ov = .ref a → ∃ ob, s_1.heap.get? a = some ob ∧ ob.dict = none) ∧ WP (model prog w) A (callWith pos (.builtin id) [ov] [] []) Q E s_1) E s)
  (hbase : attributeBase o name env (eval o env) = eval o env := by exact rfl) (hline : (apos.endLine == pos.line) = true := by exact rfl) :
  WP (model prog w) A (eval (.Call (.Attribute o name apos) [] [] pos) env) Q E s :=
 ⟨wpAny_Call_method hbase rfl hline pa slot hty (wpAny_mono h.run (fun ov s_1 h_1 => ⟨h_1.1, h_1.2.1, h_1.2.2.run⟩) fun _ _ e => e)⟩
theorem q_meth1 {o e : Expr} {name : Str} {apos pos : Pos} {T id : String} {Q : VP} (pa : PlainAttrs T) (slot : Slot T name id) (hty : typeOf (.builtin id) = pure (.type "method_descriptor"))
  (h : WP (model prog w) A (eval o env) (fun ov s_1 => s_1.TypeIs ov T ∧ (∀ a, ov = .ref a → ∃ ob, s_1.heap.get? a = some ob ∧ ob.dict = none) ∧ WP (model prog w) A (callWith pos (.builtin id) [ov] [(false, eval e env)] []) Q E s_1) E s)
  (hbase : attributeBase o name env (eval o env) = eval o env := by exact rfl)
  (hfew : ((backTo pos (starEach [e] env)).all (fun x => !x.1) && (backToKw pos (keywordEach [] env)).all (fun x => x.1.isSome)
   && decide (([e] : List Expr).length + ([] : List Keyword).length + (if ([] : List Keyword).isEmpty then 0 else 1) < 30)) = true := by exact rfl)
  (hline : (apos.endLine == pos.line) = true := by exact rfl) (htr : backTo pos (starEach [e] env) = [(false, eval e env)] := by exact rfl) :
  WP (model prog w) A (eval (.Call (.Attribute o name apos) [e] [] pos) env) Q E s :=
 ⟨wpAny_Call_method hbase hfew hline pa slot hty (wpAny_mono h.run (fun ov s_1 h_1 => ⟨h_1.1, h_1.2.1, htr ▸ h_1.2.2.run⟩) fun _ _ e => e)⟩
inductive PIdxV (Q : VP) (l : Addr) (vs : List Value) (n : Nat) (ns : List Int) (v : Value) (s_2 : Shared) : Prop
 | mk (s0 : Shared) (g : Heap) (L : Addr) (m : SM) (news : LD) (k : _) (t : _) (h1 : Stt s0 g L m news s_2) (h2 : v = .int k t) (h3 : k ∈ ns) (h4 : s_2.heap.get? l = some (W.listOf vs.toArray n)) (h5 : ∀ t' s', Stt s0 g L m news s' → Q (.int (ns.idxOf k : Nat) t') s') : PIdxV Q l vs n ns v s_2
inductive PIdx (prog : Program) (w : World) (A : Around) (env : Env) (e : Expr) (Q : VP) (E : VP) (ov : Value) (s_1 : Shared) : Prop
 | mk (l : _) (vs : _) (n : _) (ns : _) (h1 : ov = .ref l) (h2 : s_1.heap.get? l = some (W.listOf vs.toArray n)) (h3 : All2 Vi vs ns) (h4 : vs.length ≤ 1000) (h5 : WP (model prog w) A (eval e env) (PIdxV Q l vs n ns) E s_1) : PIdx prog w A env e Q E ov s_1
theorem q_index {o e : Expr} {apos pos : Pos} {Q : VP}
  (h : WP (model prog w) A (eval o env) (PIdx prog w A env e Q E) E s)
  (hbase : attributeBase o "index" env (eval o env) = eval o env := by exact rfl)
  (hfew : ((backTo pos (starEach [e] env)).all (fun x => !x.1) && (backToKw pos (keywordEach [] env)).all (fun x => x.1.isSome)
   && decide (([e] : List Expr).length + ([] : List Keyword).length + (if ([] : List Keyword).isEmpty then 0 else 1) < 30)) = true := by exact rfl)
  (hline : (apos.endLine == pos.line) = true := by exact rfl) (htr : backTo pos (starEach [e] env) = [(false, eval e env)] := by exact rfl) :
  WP (model prog w) A (eval (.Call (.Attribute o "index" apos) [e] [] pos) env) Q E s := by
 refine q_meth1 F.plainAttrs_list F.slot_list_index F.type_list_index (q_mono h fun ov s_1 h_1 => ?_) hbase hfew hline htr
 obtain ⟨l, vs, n, ns, rfl, hl, hv, hsz, hc⟩ := h_1
 refine ⟨(isL hl).typeIs, fun a ea => by cases ea; exact ⟨_, hl, rfl⟩, ⟨P.index_list (wpAny_mono hc.run (fun v s_2 h_2 => ?_) fun _ _ e => e)⟩⟩
 obtain ⟨s0, g, L, m, news, k, t, S, rfl, hk, hl2, q⟩ := h_2
 have hlt := List.idxOf_lt_length_iff.mpr hk
 have hlen := hv.length
 have at' : ∀ i (hi : i < vs.toArray.size), ∃ t', vs.toArray[i] = .int (ns[i]'(by simpa [hlen] using hi)) t' := fun i hi => by
  obtain ⟨v, e1, t', rfl⟩ := hv.get (i := i) (b := ns[i]'(by simpa [hlen] using hi)) (by simp)
  have : vs[i]'(by simpa using hi) = .int (ns[i]'(by simpa [hlen] using hi)) t' := by
   rw [List.getElem?_eq_getElem (by simpa using hi)] at e1; exact Option.some.inj e1
  exact ⟨t', by simpa using this⟩
 refine ⟨_, _, fun y => match y with | .int a _ => a == k | _ => false, ns.idxOf k, by simpa [hlen] using hlt, hl2, fun y hy => ?_, by lia, ?_, fun i hi hik => ?_, q _ _ (S.tok _)⟩
 ·obtain ⟨b, _, t', rfl⟩ := hv.mem (by simpa using hy)
  exact MeetsSeq.EqGives.int _ _ _ _
 ·obtain ⟨t', e⟩ := at' (ns.idxOf k) (by simpa [hlen] using hlt)
  rw [e]; simp
 ·obtain ⟨t', e⟩ := at' i hi
  rw [e]
  have := List.not_of_lt_findIdx (p := fun y => y == k) (xs := ns) (i := i) (by simpa [List.idxOf] using hik)
  simpa using this
inductive PPop (Q : VP) (ov : Value) (s_1 : Shared) : Prop
 | mk (s0 : Shared) (g : Heap) (L : Addr) (m : SM) (news : LD) (l : _) (vs : List Value) (v : _) (n : _) (news' : LD) (h1 : ov = .ref l) (h2 : Stt s0 g L m news s_1) (h3 : (vs ++ [v]).length ≤ 1000) (h4 : s_1.heap.get? l = some (W.listOf (vs ++ [v]).toArray n)) (h5 : Ch l (W.listOf (vs ++ [v]).toArray n) (W.listOf vs.toArray (n + 1)) news news') (h6 : ∀ s', Stt s0 g L m news' s' → Q v s') : PPop Q ov s_1
theorem q_pop {o : Expr} {apos pos : Pos} {Q : VP}
  (h : WP (model prog w) A (eval o env) (PPop Q) E s)
  (hbase : attributeBase o "pop" env (eval o env) = eval o env := by exact rfl) (hline : (apos.endLine == pos.line) = true := by exact rfl) :
  WP (model prog w) A (eval (.Call (.Attribute o "pop" apos) [] [] pos) env) Q E s := by
 refine q_meth0 F.plainAttrs_list F.slot_list_pop F.type_list_pop (q_mono h fun ov s_1 h_1 => ?_) hbase hline
 obtain ⟨s0, g, L, m, news, l, vs, v, n, news', rfl, S, hsz, hl, U, q⟩ := h_1
 refine ⟨(isL hl).typeIs, fun a ea => by cases ea; exact ⟨_, hl, rfl⟩, ⟨P.pop_list hl (by simp) (q _ (S.upd s_1.toks U ?_)) (by simp only [List.size_toArray]; exact Nat.le_trans hsz (by decide))⟩⟩
 have e : (vs ++ [v]).toArray.eraseIdxIfInBounds ((vs ++ [v]).toArray.size - 1) = vs.toArray := by
  simp [Array.eraseIdxIfInBounds, List.eraseIdx_append_of_length_le]
 show Obj.mapSeq _ _ = _
 simp only [Obj.mapSeq, e]
 simp
inductive PRev (Q : VP) (ov : Value) (s_1 : Shared) : Prop
 | mk (s0 : Shared) (g : Heap) (L : Addr) (m : SM) (news : LD) (l : _) (vs : List Value) (n : _) (news' : LD) (h1 : ov = .ref l) (h2 : Stt s0 g L m news s_1) (h3 : vs.length ≤ 1000) (h4 : s_1.heap.get? l = some (W.listOf vs.toArray n)) (h5 : Ch l (W.listOf vs.toArray n) (W.listOf vs.reverse.toArray n) news news') (h6 : ∀ s', Stt s0 g L m news' s' → Q .none s') : PRev Q ov s_1
theorem q_reverse {o : Expr} {apos pos : Pos} {Q : VP}
  (h : WP (model prog w) A (eval o env) (PRev Q) E s)
  (hbase : attributeBase o "reverse" env (eval o env) = eval o env := by exact rfl) (hline : (apos.endLine == pos.line) = true := by exact rfl) :
  WP (model prog w) A (eval (.Call (.Attribute o "reverse" apos) [] [] pos) env) Q E s := by
 refine q_meth0 F.plainAttrs_list F.slot_list_reverse F.type_list_reverse (q_mono h fun ov s_1 h_1 => ?_) hbase hline
 obtain ⟨s0, g, L, m, news, l, vs, n, news', rfl, S, hsz, hl, U, q⟩ := h_1
 refine ⟨(isL hl).typeIs, fun a ea => by cases ea; exact ⟨_, hl, rfl⟩, ⟨P.reverse_list hl (q _ (S.upd s_1.toks U ?_)) (by simp only [List.size_toArray]; exact Nat.le_trans hsz (by decide))⟩⟩
 show Obj.mapSeq _ _ = _
 simp [Obj.mapSeq]
inductive PClr (Q : VP) (ov : Value) (s_1 : Shared) : Prop
 | mk (s0 : Shared) (g : Heap) (L : Addr) (m : SM) (news : LD) (l : _) (vs : List Value) (n : _) (news' : LD) (h1 : ov = .ref l) (h2 : Stt s0 g L m news s_1) (h3 : vs.length ≤ 1000) (h4 : s_1.heap.get? l = some (W.listOf vs.toArray n)) (h5 : Ch l (W.listOf vs.toArray n) (W.listOf #[] (if vs.length = 0 then n else n + 1)) news news') (h6 : ∀ s', Stt s0 g L m news' s' → Q .none s') : PClr Q ov s_1
theorem q_clear {o : Expr} {apos pos : Pos} {Q : VP}
  (h : WP (model prog w) A (eval o env) (PClr Q) E s)
  (hbase : attributeBase o "clear" env (eval o env) = eval o env := by exact rfl) (hline : (apos.endLine == pos.line) = true := by exact rfl) :
  WP (model prog w) A (eval (.Call (.Attribute o "clear" apos) [] [] pos) env) Q E s := by
 refine q_meth0 F.plainAttrs_list F.slot_list_clear F.type_list_clear (q_mono h fun ov s_1 h_1 => ?_) hbase hline
 obtain ⟨s0, g, L, m, news, l, vs, n, news', rfl, S, hsz, hl, U, q⟩ := h_1
 refine ⟨(isL hl).typeIs, fun a ea => by cases ea; exact ⟨_, hl, rfl⟩, ⟨P.clear_list hl (q _ (S.upd s_1.toks U ?_)) (by simp only [List.size_toArray]; exact Nat.le_trans hsz (by decide))⟩⟩
 show Obj.mapSeq _ _ = _
 by_cases hv : vs.length = 0
 ·simp [Obj.mapSeq, hv]
 ·have : ¬ (0 = vs.length) := fun e => hv e.symm
  simp [Obj.mapSeq, hv, this]
theorem q_ladd (S : Stt s0 g L m news s) {a b : Addr} {xs ys : List Value} {na nb : Nat} {Q : VP} (ha : s.heap.get? a = some (W.listOf xs.toArray na)) (hb : s.heap.get? b = some (W.listOf ys.toArray nb)) (hsz : xs.length + ys.length ≤ 1000)
  (h : ∀ l s', Stt s0 g L m ((l, W.listOf (xs ++ ys).toArray 0) :: news) s' → Q (.ref l) s') : WP (model prog w) A (binaryOp .Add (.ref a) (.ref b)) Q E s :=
 ⟨P.add_list ha hb (h _ _ (by have := S.push (W.listOf (xs ++ ys).toArray 0) s.toks; simpa using this)) (by simp only [List.size_toArray]; exact Nat.le_trans hsz (by decide))⟩
end
inductive Tb (P : Addr) (qual : Str) (ln co : Nat) : List (Addr × Obj) → Prop where
 | new : Tb P qual ln co [(P, tabObj #[])]
 | made {c' : Addr} {oc : Obj} {vs : Array Value} {t : Tok} : oc.data = .fields vs → vs[1]? = some (.str qual t) → Tb P qual ln co [(P, tabObj #[rawInt ln, rawInt co, .ref c']), (c', oc)]
theorem Stt.add {s0 s : Shared} {g : Heap} {L a : Addr} {m : SM} {news : LD} {o : Obj} (S : Stt s0 g L m news s) (h : s.heap.get? a = some o) (ha : a ≠ L) (hg : g.get? a = none) (hn : a ∉ news.map (·.1)) : Stt s0 g L m ((a, o) :: news) s :=
 ⟨S.same, S.fr, fun p hp => by
  rcases List.mem_cons.mp hp with rfl | hp
  ·exact ⟨h, ha, hg⟩
  ·exact S.led p hp, by simp only [List.map_cons, List.nodup_cons]; exact ⟨hn, S.nd⟩⟩
section
variable {prog : Program} {w : World} {A : Around} {env : Env} {g base : Heap} {outer : List Env} {nm : List Str} {G : SV}
 {E : VP} {s0 s : Shared} {vals vals' : OV} {L : Addr} {m : SM} {news news' rest : LD}
theorem q_nest (C : Fm w A env g base outer nm G) {name : Str} {params : Arguments} {body : List Stmt} {scope : Scope} {pos : Pos} {clos : List (Str × Addr)} {c P : Addr} {qual : Str} {tb : LD} {Q : FP}
  (S : Stt s0 g env.locals m (tb ++ news) s) (hT : Tb P qual pos.line pos.col tb) (hcode : env.code = .ref c) (hq : qualnameIn env name name = qual) (hcl : closureFor scope env = pure clos) (CH : CodeHd g c P)
  (k : ∀ f doc pm c' ctv tb' s', Tb P qual pos.line pos.col tb' → (∀ h : Heap, (∀ p ∈ tb', h.get? p.1 = some p.2) → h.CodeRec (.ref c') qual) →
   Stt s0 g env.locals m (tb' ++ (f, fnMade name qual params body scope clos doc pm c' ctv) :: news) s' → WP M A (storeName env name (.ref f)) (fun _ s'' => Q .next s'') E s')
  (hd0 : params.defaults = [] := by exact rfl) (hk0 : params.kw_defaults = [] := by exact rfl) (ha : annTrees params none env = [] := by exact rfl) :
  WP M A (exec (.FunctionDef name params body [] none [] scope none name pos) env) Q E s := by
 refine ⟨nestDef_K hd0 hk0 ha ?_⟩
 rw [hq]
 refine byG fun GG hGG => ?_
 obtain ⟨p, loose, mean, mg, mb, T⟩ := C.T
 refine hGG ?_
 clear hGG GG
 have hgs := T.g.keeps S.fr.keep
 refine byG fun GG hGG => ?_
 obtain ⟨bm, ob, b1, b2, b3, b4, b5, b6⟩ := T.bmain
 refine hGG ?_
 clear hGG GG
 have hbG : bm ≠ mainGlobals := fun q => by
  refine byG fun GG hGG => ?_
  obtain ⟨o, es, ep, e, hd, _⟩ := T.g
  refine hGG ?_
  clear hGG GG
  rw [q, e] at b3; cases b3; rw [hd] at b6; cases b6
 have bP : ∀ ps, s.heap.get? P = some (tabObj ps) → mainGlobals ≠ P ∧ bm ≠ P := fun ps hP => by
  refine ⟨fun q => ?_, fun q => ?_⟩
  ·obtain ⟨o, es, ep, e, hd, _⟩ := hgs
   rw [q, hP] at e; cases e; cases hd
  ·have e := S.fr.keep _ _ b3
   rw [q, hP] at e; cases e; cases b4
 cases hT with
 | new =>
  have hP := S.get (a := P) (o := tabObj #[]) (by simp)
  obtain ⟨hgP, hbP⟩ := bP _ hP
  refine makeFunction_K (mg := mg) hcl C.hg hgs hcode (CH.keeps S.fr.keep) hP trivial rfl hgP ⟨bm, ob, b1, b2, hbG, hbP, S.fr.keep _ _ b3, b4, b5, b6⟩ fun c' ctv doc h' tk hx hge hlt hrec htb => ?_
  have S_1 := S.walked tk (fun b o hb e => hx b o (by simpa using hb) e) htb
  refine byG fun GG hGG => ?_
  obtain ⟨c_2, oc, vs, t, e2, hoc, hd, hv⟩ := hrec
  refine hGG ?_
  clear hGG GG
  cases e2
  have hc1 : c' ∉ news.map (·.1) := fun q => by
   obtain ⟨p, hp, e⟩ := List.mem_map.mp q
   have := Heap.lt_size (S.led p (by simp [hp])).1
   rw [e] at this; exact Nat.lt_irrefl _ (Nat.lt_of_lt_of_le this hge)
  have hcP : c' ≠ P := fun q => by
   have := Heap.lt_size hP
   rw [← q] at this; exact Nat.lt_irrefl _ (Nat.lt_of_lt_of_le this hge)
  have S_2 := S_1.add hoc (fun q => by have := S.fr.ns.lt; rw [← q] at this; exact Nat.lt_irrefl _ (Nat.lt_of_lt_of_le this hge))
   (by
    cases e : g.get? c' with
    | none => rfl
    | some o => exact absurd (Nat.lt_of_lt_of_le (Heap.lt_size (S.base e)) hge) (Nat.lt_irrefl _)) (by simp only [List.map_cons, List.mem_cons, not_or]; exact ⟨hcP, hc1⟩)
  have S_3 := S_2.push (fnMade name qual params body scope clos doc ((mg "__name__").getD .none) c' ctv) tk
  exact (k _ _ _ _ _ [(P, tabObj #[rawInt pos.line, rawInt pos.col, .ref c']), (c', oc)] _ (.made hd hv) (fun h hall => ⟨c', oc, vs, t, rfl, hall (c', oc) (by simp), hd, hv⟩)
   (S_3.perm (by
    refine (List.perm_middle (l₁ := [(P, tabObj #[rawInt pos.line, rawInt pos.col, .ref c']), (c', oc)])).trans (.cons _ ?_)
    exact List.Perm.swap _ _ _))).run
 | made hd hv =>
  rename_i c' oc vs t
  have hP := S.get (a := P) (o := tabObj #[rawInt pos.line, rawInt pos.col, .ref c']) (by simp)
  obtain ⟨hgP, hbP⟩ := bP _ hP
  refine makeFunction_hit (mg := mg) (cv := .ref c') hcl C.hg hgs hcode (CH.keeps S.fr.keep) hP trivial (by simp [codeAmong, rawInt]) ⟨bm, ob, b1, b2, hbG, hbP, S.fr.keep _ _ b3, b4, b5, b6⟩ fun ctv doc h' tk hk hsz => ?_
  have S_3 := (S.keeps tk hk).push (fnMade name qual params body scope clos doc ((mg "__name__").getD .none) c' ctv) tk
  exact (k _ _ _ _ _ [(P, tabObj #[rawInt pos.line, rawInt pos.col, .ref c']), (c', oc)] _ (.made hd hv) (fun h hall => ⟨c', oc, vs, t, rfl, hall (c', oc) (by simp), hd, hv⟩)
   (S_3.perm (List.perm_middle (l₁ := [(P, tabObj #[rawInt pos.line, rawInt pos.col, .ref c']), (c', oc)])))).run
theorem q_lsh (S : Stt s0 g env.locals m news s) {a b : Int} {t u : Tok} {Q : VP} (ha : a.natAbs < 2 ^ 64) (hb0 : 0 ≤ b) (hb : b < 2 ^ 20) (h : ∀ t s', Stt s0 g env.locals m news s' → Q (.int (a * 2 ^ b.toNat) t) s') : WP (model prog w) A (binaryOp .LShift (.int a t) (.int b u)) Q E s :=
 ⟨lshift_int hb0 (by have := bits_le ha; lia) (h _ _ (S.tok _))⟩
theorem q_rsh (S : Stt s0 g env.locals m news s) {a b : Int} {t u : Tok} {Q : VP} (hb0 : 0 ≤ b) (h : ∀ t s', Stt s0 g env.locals m news s' → Q (.int (a / 2 ^ b.toNat) t) s') : WP (model prog w) A (binaryOp .RShift (.int a t) (.int b u)) Q E s :=
 ⟨rshift_int hb0 (by
  rw [Int.fdiv_eq_ediv_of_nonneg a (by exact Int.le_of_lt (Int.pow_pos (by decide)))]; exact h _ _ (S.tok _))⟩
theorem q_xor (S : Stt s0 g env.locals m news s) {a b : Int} {t u : Tok} {Q : VP} (h : ∀ t s', Stt s0 g env.locals m news s' → Q (.int (Builtin.bitXor a b) t) s') : WP (model prog w) A (binaryOp .BitXor (.int a t) (.int b u)) Q E s :=
 ⟨xor_int (h _ _ (S.tok _))⟩
inductive PBit (Q : VP) (ov : Value) (s_1 : Shared) : Prop
 | mk (s0 : Shared) (g : Heap) (L : Addr) (m : SM) (news : LD) (a : _) (t : _) (h1 : ov = .int a t) (h2 : Stt s0 g L m news s_1) (h3 : ∀ t' s', Stt s0 g L m news s' → Q (.int (Builtin.Int.intBits a : Nat) t') s') : PBit Q ov s_1
theorem q_bitlen {o : Expr} {apos pos : Pos} {Q : VP}
  (h : WP (model prog w) A (eval o env) (PBit Q) E s)
  (hbase : attributeBase o "bit_length" env (eval o env) = eval o env := by exact rfl) (hline : (apos.endLine == pos.line) = true := by exact rfl) :
  WP (model prog w) A (eval (.Call (.Attribute o "bit_length" apos) [] [] pos) env) Q E s := by
 refine q_meth0 F.plainAttrs_int F.slot_int_bit_length F.type_int_bit_length (q_mono h fun ov s_1 h_1 => ?_) hbase hline
 refine byG fun GG hGG => ?_
 obtain ⟨s0, g, L, m, news, a, t, rfl, S, q⟩ := h_1
 refine hGG ?_
 clear hGG GG
 exact ⟨typeIs_int _ _ _, (fun a ea => by cases ea), ⟨callWith_method0 (env := env) (call_int_bit_length (q _ _ (S.tok _)))⟩⟩
theorem q_divmod (S : Stt s0 g env.locals m news s) {a b : Int} {t u : Tok} {Q : VP} (hb : 0 < b) (hb2 : b < 1000)
  (h : ∀ r t u s', Stt s0 g env.locals m ((r, tupObj [.int (a / b) t, .int (a % b) u]) :: news) s' → Q (.ref r) s') : WP (model prog w) A (call (.builtin "divmod") [.int a t, .int b u]) Q E s :=
 ⟨divmod_int (by lia) (by
  rw [Int.fdiv_eq_ediv_of_nonneg a (by lia), Int.fmod_eq_emod_of_nonneg a (by lia)]
  exact h _ _ _ _ (S.push _ _)) (Or.inl (PyProof.noPylong_small (by lia)))⟩
theorem q_truthInt {a : Int} {t : Tok} {Q : Bool → Shared → Prop} (h : Q (a != 0) s) : WP (model prog w) A (truthy (.int a t)) Q E s := ⟨P.truthy_int h⟩
theorem q_lmul (S : Stt s0 g env.locals m news s) {l : Addr} {v : Value} {n : Nat} {x : Int} {u : Tok} {Q : VP} (hl : s.heap.get? l = some (W.listOf [v].toArray n)) (h0 : 0 ≤ x) (hx : x ≤ 1000)
  (h : ∀ r s', Stt s0 g env.locals m ((r, W.listOf (List.replicate x.toNat v).toArray 0) :: news) s' → Q (.ref r) s') : WP (model prog w) A (binaryOp .Mult (.ref l) (.int x u)) Q E s := by
 refine ⟨wpAny_binaryOp_repeat_ref (T := "list") (U := "int") (by decide) ⟨_, hl, rfl⟩ (fun s' => typeIs_int s' x u) noFill_list_mul F.fills_int_mul F.slot_int_rmul repeat_list F.slot_int_index.lookup
  (call_meets F.slot_int_rmul (typeIs_int s x u) F.entry_int_rmul (F.args_int_rmul_2 _ _) (int___rmul___int_list x u l _ n)
   ⟨hl, rfl, ⟨_, hl, rfl⟩, call_meets F.slot_list_mul ⟨_, hl, rfl⟩ F.entry_list_mul (F.args_list_mul_2 _ _)
    (AutoListH.list___mul___list_int_3 l _ n x u (by simp [Builtin.List.listFitsIndex]; lia) (by simp; lia) (by simp [Builtin.List.listTooLong, sizeLine]; lia))
    ⟨hl, ?_⟩⟩)⟩
 have e : (List.foldl (fun (x1 x2 : Array Value) => x1 ++ x2) #[] (List.replicate (if ([v].toArray : Array Value).isEmpty = true then 0 else x.toNat) [v].toArray)) = (List.replicate x.toNat v).toArray := by
  have key : ∀ (k : Nat) (acc : Array Value), List.foldl (fun (x1 x2 : Array Value) => x1 ++ x2) acc (List.replicate k [v].toArray) = acc ++ (List.replicate k v).toArray := by
   intro k; induction k with
   | zero => intro acc; simp
   | succ k ih => intro acc; rw [List.replicate_succ, List.foldl_cons, ih]; apply Array.toList_inj.mp; simp [List.replicate_succ]
  simp [key]
 have := S.push (W.listOf (List.replicate x.toNat v).toArray 0) s.toks
 rw [← e] at this
 exact h _ _ (e ▸ this)
theorem q_asub {o i : Expr} {pos' pos : Pos} {value : Expr} {Q : FP}
  (h : WP M A (eval value env) (fun v s_1 => WP M A (eval o env) (fun ov s_2 => WP M A (eval i env) (fun iv s3 => WP M A (setItem ov iv v) (fun _ => Q .next) E s3) E s_2) E s_1) E s) (hn : notComp value = true := by exact rfl) :
  WP M A (exec (.Assign [.Subscript o i pos'] value pos) env) Q E s := ⟨wpAny_Assign_Subscript (W3 h) (sw_of hn)⟩
theorem q_setL (S : Stt s0 g env.locals m news s) {l : Addr} {vs : List Value} {n : Nat} {k : Int} {t : Tok} {v : Value} {Q : Unit → Shared → Prop} {news'} (hl : s.heap.get? l = some (W.listOf vs.toArray n)) (h0 : 0 ≤ k) (hk : k < vs.length) (hb : vs.length ≤ 1000)
  (U : Ch l (W.listOf vs.toArray n) (W.listOf (vs.set k.toNat v).toArray n) news news') (h : ∀ s', Stt s0 g env.locals m news' s' → Q () s') : WP (model prog w) A (setItem (.ref l) (.int k t) v) Q E s := by
 refine ⟨?_⟩
 have hlI := isL hl
 unfold setItem
 try with_reducible refine wpAny_holding ?_
 first | refine wpAny_bind (wpAny_pure ?_) | skip
 refine wpAny_bind (wpAny_sequenceKey hlI.typeIs (by decide) ?_)
 refine wpAny_bind (wpAny_callSpecial?_slot (name := Str.ofString "__setitem__") hlI.typeIs slot_list_setitem
  (wpAny_call_entry slot_list_setitem hlI.typeIs entry_list_setitem ?_ (args_list_setitem _ _ _)))
 show wpAny _ _ (Builtin.List.listSubscript? (.int k t) >>= _) _ _ s
 refine wpAny_bind (wpAny_listSubscript_int (fitsIndex_of h0 (by lia)) ?_)
 obtain ⟨j, rfl⟩ := Int.eq_ofNat_of_zero_le h0
 have hj : j < vs.length := by lia
 have hx' : vs.toArray[j]? = some vs[j] := by simp [hj]
 show wpAny _ _ ((seqItemAt l j >>= fun r => pure (r.map (j, ·))) >>= _) _ _ s
 refine wpAny_bind (wpAny_bind (wpAny_seqItemAt hl rfl (wpAny_pure ?_)))
 rw [hx']
 show wpAny _ _ (setSeqItemAt l j v >>= _) _ _ s
 have hfin := h _ (S.upd s.toks U (f := Obj.mapSeq (·.setIfInBounds j v)) (by
  show Obj.mapSeq _ _ = _
  simp [Obj.mapSeq]))
 refine wpAny_bind (wpAny_setSeqItemAt hl rfl ?_)
 first
  | exact wpAny_bind (wpAny_pure (wpAny_pure ⟨.none, rfl, wpAny_pure hfin⟩))
  | exact wpAny_pure ⟨.none, rfl, wpAny_pure hfin⟩
inductive PUnp2 (prog : Program) (w : World) (A : Around) (env : Env) (x : Str) (y : Str) (Q : FP) (E : VP) (v : Value) (s_1 : Shared) : Prop
 | mk (s0 : Shared) (g : Heap) (L : Addr) (m : SM) (news : LD) (t : _) (a : _) (b : _) (h1 : v = .ref t) (h2 : Stt s0 g L m news s_1) (h3 : s_1.heap.get? t = some (tupObj [a, b])) (h4 : ∀ s', Stt s0 g L m news s' → (∀ b o, s_1.heap.get? b = some o → s'.heap.get? b = some o) →
   WP (model prog w) A (storeName env x a) (fun _ s_2 => WP (model prog w) A (storeName env y b) (fun _ => Q .next) E s_2) E s') : PUnp2 prog w A env x y Q E v s_1
theorem q_unpack2 (hh : A.handled = none) {x y : Str} {px py tpos pos : Pos} {kk : Nat} {value : Expr} {Q : FP}
  (h : WP (model prog w) A (eval value env) (PUnp2 prog w A env x y Q E) E s)
  (hs : swapsWithSole [.Tuple [.Name x px, .Name y py] kk tpos] value pos.line env = pure false := by exact rfl) (hw : swappedStores [.Tuple [.Name x px, .Name y py] kk tpos] value env = pure none := by exact rfl) :
  WP (model prog w) A (exec (.Assign [.Tuple [.Name x px, .Name y py] kk tpos] value pos) env) Q E s := by
 refine ⟨Assign_Tuple (wpAny_mono h.run (fun v s_1 h_1 => ?_) fun _ _ e => e) hs hw⟩
 refine byG fun GG hGG => ?_
 obtain ⟨s0, g, L, m, news, t, a, b, rfl, S, ht, q⟩ := h_1
 refine hGG ?_
 clear hGG GG
 refine wpAny_assign_Tuple hh (items := #[a, b]) ⟨_, ht, rfl, _, rfl⟩ rfl rfl fun h' he => ?_
 have keep : ∀ b o, s_1.heap.get? b = some o → h'.get? b = some o := fun b o e => he b o (fun q => by rw [q, Heap.get?_none_of_le (Nat.le_refl _)] at e; cases e) e
 have := q _ (S.keeps s_1.toks keep) keep
 exact assignInOrder_cons (assign_Name (wpAny_mono this.run (fun _ s_2 h_2 => assignInOrder_cons (assign_Name (wpAny_mono h_2.run (fun _ s3 h_3 => assignInOrder_nil h_3) fun _ _ e => e))) fun _ _ e => e))
inductive PUnp4 (prog : Program) (w : World) (A : Around) (env : Env) (x : Str) (y : Str) (z : Str) (u : Str) (Q : FP) (E : VP) (v : Value) (s_1 : Shared) : Prop
 | mk (s0 : Shared) (g : Heap) (L : Addr) (m : SM) (news : LD) (t : _) (a : _) (b : _) (c : _) (d : _) (h1 : v = .ref t) (h2 : Stt s0 g L m news s_1) (h3 : s_1.heap.get? t = some (tupObj [a, b, c, d])) (h4 : ∀ s', Stt s0 g L m news s' → (∀ b o, s_1.heap.get? b = some o → s'.heap.get? b = some o) →
   WP (model prog w) A (storeName env x a) (fun _ s_2 => WP (model prog w) A (storeName env y b) (fun _ s3 => WP (model prog w) A (storeName env z c) (fun _ s4 => WP (model prog w) A (storeName env u d) (fun _ => Q .next) E s4) E s3) E s_2) E s') : PUnp4 prog w A env x y z u Q E v s_1
theorem q_unpack4 (hh : A.handled = none) {x y z u : Str} {px py pz pu tpos pos : Pos} {kk : Nat} {value : Expr} {Q : FP}
  (h : WP (model prog w) A (eval value env) (PUnp4 prog w A env x y z u Q E) E s)
  (hs : swapsWithSole [.Tuple [.Name x px, .Name y py, .Name z pz, .Name u pu] kk tpos] value pos.line env = pure false := by exact rfl) (hw : swappedStores [.Tuple [.Name x px, .Name y py, .Name z pz, .Name u pu] kk tpos] value env = pure none := by exact rfl) :
  WP (model prog w) A (exec (.Assign [.Tuple [.Name x px, .Name y py, .Name z pz, .Name u pu] kk tpos] value pos) env) Q E s := by
 refine ⟨Assign_Tuple (wpAny_mono h.run (fun v s_1 h_1 => ?_) fun _ _ e => e) hs hw⟩
 refine byG fun GG hGG => ?_
 obtain ⟨s0, g, L, m, news, t, a, b, c, d, rfl, S, ht, q⟩ := h_1
 refine hGG ?_
 clear hGG GG
 refine wpAny_assign_Tuple hh (items := #[a, b, c, d]) ⟨_, ht, rfl, _, rfl⟩ rfl rfl fun h' he => ?_
 have keep : ∀ b o, s_1.heap.get? b = some o → h'.get? b = some o := fun b o e => he b o (fun q => by rw [q, Heap.get?_none_of_le (Nat.le_refl _)] at e; cases e) e
 have := q _ (S.keeps s_1.toks keep) keep
 exact assignInOrder_cons (assign_Name (wpAny_mono this.run (fun _ s_2 h_2 => assignInOrder_cons (assign_Name (wpAny_mono h_2.run (fun _ s3 h_3 =>
  assignInOrder_cons (assign_Name (wpAny_mono h_3.run (fun _ s4 h_4 => assignInOrder_cons (assign_Name (wpAny_mono h_4.run (fun _ s5 h_5 => assignInOrder_nil h_5) fun _ _ e => e))) fun _ _ e => e))) fun _ _ e => e))) fun _ _ e => e))
theorem q_reversed (S : Stt s0 g env.locals m news s) {l : Addr} {vs : List Value} {n : Nat} {Q : VP} (hl : s.heap.get? l = some (W.listOf vs.toArray n))
  (h : ∀ I s', Stt s0 g env.locals m ((I, revObj l ((vs.length : Int) - 1)) :: news) s' → Q (.ref I) s') : WP (model prog w) A (call (.type "reversed") [.ref l]) Q E s :=
 ⟨call_reversed_list (isL hl) (by have := S.push (revObj l ((vs.length : Int) - 1)) s.toks; simpa using h _ _ this)⟩
inductive PForRev (prog : Program) (w : World) (A : Around) (env : Env) (g : Heap) (x : Str) (body : List Stmt) (Q : FP) (xv : Value) (s_1 : Shared) : Prop
 | mk (s0 : Shared) (I : Addr) (l : Addr) (lo : Obj) (vs : List Value) (J : Nat → (SM) → List (Addr × Obj) → Prop) (m : SM) (rest : LD) (h1 : xv = .ref I) (h2 : lo.cls = .type "list") (h3 : (∃ n, lo.data = .seq vs.toArray n)) (h4 : Stt s0 g env.locals m ((I, revObj l ((vs.length : Int) - 1)) :: rest) s_1) (h5 : (g.get? l = some lo ∨ ∀ i m r, J i m r → (l, lo) ∈ r)) (h6 : J 0 m rest) (h7 : (∀ i v m1 r_1 I it s_2, i < vs.length → vs[vs.length - 1 - i]? = some v → J i m1 r_1 → Stt s0 g env.locals (fun y => if y = x then some v else m1 y) ((I, it) :: r_1) s_2 →
    WP (model prog w) A (execs body env) (LPost s0 g env.locals I it (J (i + 1)) Q) NE s_2)) (h8 : (∀ m1 r_1 s_2, J vs.length m1 r_1 → Stt s0 g env.locals m1 r_1 s_2 → Q .next s_2)) : PForRev prog w A env g x body Q xv s_1
theorem q_forRev (C : Fm w A env g base outer nm G) {x : Str} {px pos : Pos} {iter : Expr} {body : List Stmt} {Q : FP} (hx : x ∈ nm)
  (h : WP (model prog w) A (eval iter env) (PForRev prog w A env g x body Q) NE s)
  (hs : ∀ x, foldedSetIterable iter env x = pure x := by intro _; exact rfl) :
  WP (model prog w) A (exec (.For (.Name x px) iter body [] pos) env) Q NE s := by
 refine ⟨wpAny_For (wpAny_mono h.run (fun xv s_1 h_1 => ?_) fun _ _ e => e) hs⟩
 refine byG fun GG hGG => ?_
 obtain ⟨s0, I, l, lo, vs, J, m, rest, rfl, hc, ⟨n, hd⟩, S, hl, h0, turn, done⟩ := h_1
 refine hGG ?_
 clear hGG GG
 have hlo : s_1.heap.get? l = some lo := hl.elim (fun e => S.base e) fun e => S.get (.tail _ (e _ _ _ h0))
 have hls : s_1.heap.IsList l vs.toArray := ⟨lo, hlo, hc, n, hd⟩
 have hI := S.get (.head _)
 have hne : l ≠ I := fun q => by rw [q, hI] at hlo; cases hlo; exact absurd hc (show ¬ (Value.type "list_reverseiterator" = Value.type "list") by decide)
 have hlL : l ≠ env.locals := by
  rcases hl with e | e
  ·exact Nat.ne_of_lt (Nat.lt_of_lt_of_le (Heap.lt_size e) S.fr.above)
  ·exact (S.led _ (.tail _ (e _ _ _ h0))).2.1
 have hri : s_1.heap.IsRevIter I l ((vs.toArray.size : Int) - 1 - ((0 : Nat) : Int)) := ⟨_, hI, rfl, by show Data.fields _ = _; simp⟩
 refine wpAny_pyIter_revIter hri ?_
 refine for_walk C (Walks.listRev C.hh I l hne vs.toArray) hx S ⟨Nat.zero_le _, hri, hls⟩ (fun i h ⟨_, ⟨o, e, _⟩, _⟩ => ⟨o, e⟩) ?_ J ?_ h0 ?_ ?_
 ·intro hm
  rcases List.mem_cons.mp hm with e | hm
  ·exact (S.led _ (.head _)).2.1 e.symm
  ·exact hlL (List.mem_singleton.mp hm).symm
 ·intro b hb hbI hg
  rcases List.mem_cons.mp hb with e | hb
  ·exact absurd e hbI
  ·obtain rfl := List.mem_singleton.mp hb
   rcases hl with e | e
   ·rw [hg] at e; cases e
   ·exact ⟨lo, e⟩
 ·intro i v m1 r_1 it s_2 hi hP hJ S_2
  exact (turn i v m1 r_1 _ it s_2 (by simpa using hi) (by simpa using hP) hJ S_2).run
 ·intro m1 r_1 s_2 hJ S_2
  exact done m1 r_1 s_2 (by simpa using hJ) S_2
theorem q_clo (C : Fm w A env g base outer nm G) {sub : LD} (S : Stt s0 g env.locals m (sub ++ rest) s)
  {f : Addr} {fo : Obj} {name qual : Str} {params : Arguments} {body : List Stmt} {scope : Scope} {cl : List (Str × Addr)} {dV kV doc pm cdv ct : Value} {an : Option Addr}
  {args : List Value} {Q : VP} (nm' : List Str) (vs : List Value) (vals' : OV) (G' : SV)
  (ho : s.heap.get? f = some fo) (hd : fo.data = .func (fnX name qual params body scope cl dV kV doc pm an cdv ct)) (hcd : s.heap.CodeRec cdv qual) (hroom : A.depth < recursionLimit)
  (hbind : BindsTo s (fnX name qual params body scope cl dV kV doc pm an cdv ct) ⟨args, []⟩ (nm'.zip vs)) (hlen : vs.length ≤ nm'.length) (hvals : vals' = vs.map some ++ List.replicate (nm'.length - vs.length) none)
  (hck : ckNames scope nm' G' = true)
  (hcell : ∀ x ∈ scope.names, x.2 ≠ .cell) (hco : scope.isCoroutine = false) (hgen : scope.isGenerator = false) (hkf : scope.kind = .function)
  (h : ∀ g' env' s_1, (∀ b o, s.heap.get? b = some o → b ∉ sub.map (·.1) → g'.get? b = some o) → (∀ b o, g'.get? b = some o → s.heap.get? b = some o) →
   Fm w (A.deeper env') env' g' base (env :: outer) nm' G' → env'.cells = cl → (∀ x, env'.kindOf x = scope.names.lookup x) → Stt s g' env'.locals (lcs nm' vals') sub s_1 →
   WP (model prog w) (A.deeper env') (execs body env')
    (DPost s g' env'.locals s0 g env.locals m rest Q) NE s_1) :
  WP (model prog w) A (PySem.call (.ref f) args) Q E s :=
 ⟨C.callE S (fun _ => NE) ho hd hcd hroom hbind hlen hvals hck hcell hco hgen hkf (fun _ _ _ x => x.elim) (fun g' L' s_1 a b c d => (h g' _ s_1 a b c rfl (fun _ => rfl) d).run)⟩
theorem q_nameF (C : Fm w A env g base outer nm G) {c : Addr} {o : Obj} {x : Str} {v : Value} {pos : Pos} {Q : VP} (h : s.heap.get? c = some o) (hd : o.data = .cell (some v)) (hk : env.kindOf x = some .free) (hc : env.cells.lookup x = some c) (k : Q v s)
  (hb : (x == ("__debug__" : Str)) = false := by exact rfl) (hn : (x == ("__classdict__" : Str)) = false := by exact rfl) : WP (model prog w) A (eval (.Name x pos) env) Q E s :=
 ⟨wpAny_Name (wpAny_loadName_free C.hk hk hc ⟨o, h, hd⟩ k hn) hb⟩
theorem q_cwF {pos : Pos} {f : Addr} {first : List Value} {e : Expr} {es : List Expr} {Q : VP} (X : FnAt f s.heap)
  (h : WP M A (spliced (backTo pos (starEach (e :: es) env))) (fun vs s_1 => FnAt f s_1.heap ∧ WP M A (call (.ref f) (first ++ vs)) Q E s_1) E s)
  (he : starEach (e :: es) env = (false, eval e env) :: starEach es env := by exact rfl) (hplain : (backTo pos (starEach es env)).any (·.1) = false := by exact rfl) :
  WP M A (callWith pos (.ref f) first (backTo pos (starEach (e :: es) env)) []) Q E s := ⟨callWith_F X (wpAny_mono h.run (fun _ _ h => ⟨h.1, h.2.run⟩) fun _ _ e => e) he hplain⟩
theorem q_ret0 {pos : Pos} {Q : FP} (h : Q (.ret .none) s) : WP M A (exec (.Return none pos) env) Q E s := ⟨wpAny_Return_none h⟩
theorem q_cwK (C : Fm w A env g base outer nm G) (S : Stt s0 g env.locals m news s) {pos : Pos} {f : Addr} {first : List Value} {e : Expr} {es : List Expr} {Q : VP} (hk : keepIn (hK w.params) (.ref f) = true)
  (h : WP M A (spliced (backTo pos (starEach (e :: es) env))) (CwK M A env E g (.ref f) first Q) E s)
  (he : starEach (e :: es) env = (false, eval e env) :: starEach es env := by exact rfl) (hplain : (backTo pos (starEach es env)).any (·.1) = false := by exact rfl) :
  WP M A (callWith pos (.ref f) first (backTo pos (starEach (e :: es) env)) []) Q E s :=
 ⟨callWith_K C.X hk (wpAny_mono h.run (fun _ s_1 h_1 => ⟨let ⟨_, _, _, S_1⟩ := h_1.1; C.X.keeps S_1.fr.keep, h_1.2.run⟩) fun _ _ e => e) he hplain⟩
end
theorem kind_isn : builtinKind "issubclass.nested" = none := by decide +kernel
theorem plain_isn : plainId "issubclass.nested" = true := by decide +kernel
theorem args_isn (a b c : Value) : argsOk "issubclass.nested" ⟨[a, b, c], []⟩ := by unfold argsOk; kernel_rfl
theorem sub_str_self : isSubtype (.type "str") (.type "str") = pure true := by rw [isSubtype_type]; kernel_rfl
theorem meta_str : typeOf (.type "str") = pure (.type "type") := F.isi_meta_str
section
variable {prog : Program} {w : World} {A : Around} {E : VP} {s : Shared}
theorem isn_str {dep : Int} {tk : Tok} {Q : Fin → Shared → Prop} (hq : Q (.done (.ret (.bool true))) s) :
  wpAny (model prog w) A (Builtin.«issubclass.nested» ⟨[.type "str", .type "str", .int dep tk], []⟩) Q E s := by
 have hm := meta_str
 have hself := sub_str_self
 repeat (any_goals (first | assumption | (rw [if_pos hm]) | (rw [hself]) | wp_step))
theorem isn_tuple {tp : Addr} {tk : Tok} {Q : Fin → Shared → Prop} {cs : List Value} (hcs : cs = [.type "str", .type "bytes"]) (htp : s.heap.get? tp = some (tupObj cs)) (hq : Q (.done (.ret (.bool true))) s) :
  wpAny (model prog w) A (Builtin.«issubclass.nested» ⟨[.type "str", .ref tp, .int 0 tk], []⟩) Q E s := by
 obtain ⟨h, g, d, t, os⟩ := s
 have hT2 : (⟨h, g, d, t, os⟩ : Shared).TypeIs (.ref tp) "tuple" := ⟨_, htp, rfl⟩
 have f1 := F.isi_sub_tuple
 repeat (any_goals (first | assumption | wp_step))
 refine wpAny_arrayLoop ?_
 simp only [Option.getD_some, List.toList_toArray]
 subst hcs
 rw [List.forIn_cons]
 refine wpAny_bind (wpAny_bind (Calls.call_function_entry kind_isn plain_isn F.entry_issubclass_nested (args_isn _ _ _) (isn_str ?_)))
 refine ⟨_, rfl, ?_⟩
 refine wpAny_bind (m := truthy (.bool true)) (wpAny_pure ?_)
 refine wpAny_bind (wpAny_pure (wpAny_pure (wpAny_pure ?_)))
 repeat (any_goals (first | assumption | wp_step))
theorem q_issub {tp : Addr} {Q : VP} (htp : s.heap.get? tp = some (tupObj [.type "str", .type "bytes"])) (hq : Q (.bool true) s) : WP (model prog w) A (call (.builtin "issubclass") [.type "str", .ref tp]) Q E s := by
 refine ⟨call_issubclass (S := fun _ R s' => s'.heap.get? tp = some (tupObj [.type "str", .type "bytes"]) ∧ R (.ok (.ret (.bool true))) s') (fun _ _ _ _ _ hs => issubclass_outer (isn_tuple rfl hs.1 hs.2)) ⟨htp, hq⟩⟩
theorem q_typeStr {x : Str} {t : Tok} {Q : VP} (hq : Q (.type "str") s) : WP (model prog w) A (call (.type "type") [.str x t]) Q E s := ⟨call_type_of (typeIs_str _ _ _) (by decide) hq⟩
theorem q_isBytes {x : Str} {t : Tok} {Q : VP} (hq : Q (.bool false) { s with toks := s.toks + 1 }) : WP (model prog w) A (call (.builtin "isinstance") [.str x t, .type "bytes"]) Q E s := ⟨IsiPair.str_bytes hq⟩
end
section
variable {prog : Program} {w : World} {A : Around} {env : Env} {g base : Heap} {outer : List Env} {nm : List Str} {G : SV}
 {E : VP} {s0 s : Shared} {L : Addr} {m : SM} {news news' rest : LD}
theorem q_attr {value : Expr} {attr : Str} {pos : Pos} {Q : VP}
  (h : WP (model prog w) A (eval value env) (AttrP (model prog w) A E attr Q) E s)
  (he : eval (.Attribute value attr pos) env = (do
   let o ← eval value env
   standAt pos.atName
   let r ← holding [o] (getAttr o attr true)
   letTemporaryGo value o r
   pure r) := by with_unfolding_all exact rfl) :
  WP (model prog w) A (eval (.Attribute value attr pos) env) Q E s := ⟨Attribute_any_ (W1 h) he⟩
theorem q_aattr {o : Expr} {attr : Str} {pos' pos : Pos} {value : Expr} {Q : FP}
  (h : WP (model prog w) A (eval value env) (ASetP (model prog w) A env E o attr Q) E s) (hs : swapsWith value (some (.Attribute o attr pos')) pos.line env = pure false := by exact rfl) :
  WP (model prog w) A (exec (.Assign [.Attribute o attr pos'] value pos) env) Q E s := ⟨plainObj_wpAny_Assign_Attribute (W2 h) hs⟩
theorem q_augattr {o value : Expr} {attr : Str} {tpos pos : Pos} {op : Operator} {Q : FP}
  (h : WP (model prog w) A (eval o env) (AugA (model prog w) A env E attr op value Q) E s) :
  WP (model prog w) A (exec (.AugAssign (.Attribute o attr tpos) op value pos) env) Q E s :=
 ⟨wpAny_AugAssign_AttributeAny (wpAny_mono h.run (fun _ _ h => W3 h) fun _ _ e => e)⟩
theorem q_mcall {o : Expr} {name : Str} {apos pos : Pos} {args : List Expr} {pl : Sem Bool} {Q : VP}
  (h : WP (model prog w) A (eval o env) (McP (model prog w) A env E name pl pos args Q) E s)
  (he : eval (.Call (.Attribute o name apos) args [] pos) env = (do
   let ov ← eval o env
   standAt apos.atName
   let (f, first) ← holding [ov] (getMethod ov name pl)
   callWith pos f first (backTo pos (starEach args env)) (backToKw pos (keywordEach [] env))) := by exact rfl) :
  WP (model prog w) A (eval (.Call (.Attribute o name apos) args [] pos) env) Q E s :=
 ⟨methodCall_KW (wpAny_mono h.run (fun _ _ h => wpAny_mono h.run (fun _ _ h => h.run) fun _ _ e => e) fun _ _ e => e) he⟩
theorem instAt (S : Stt s0 g L m news s) {x C dx : Addr} {od : Obj} {sl : Array (Option Value)} (h1 : (x, (⟨.ref C, some dx, .plain, sl⟩ : Obj)) ∈ news) (h2 : (dx, od) ∈ news) : InstAt s.heap x ⟨.ref C, some dx, .plain, sl⟩ C (some od) := InstAt.of_news S.led h1 h2
theorem q_getM (C : Fm w A env g base outer nm G) (S : Stt s0 g env.locals m news s) {x Cl : Addr} {ox : Obj} {es : List DictEntry} {n : Nat} {name : Str} {f : Addr} {pl : Sem Bool} {Q : Value × List Value → Shared → Prop} (I : InstAt s.heap x ox Cl (some (dictOf es n)))
  (hg : plainGet (hK w.params) Cl name = true) (hf : findIn (hK w.params) (.ref Cl) name = some (some (.ref f))) (ht : isFn (hK w.params) (.ref f) = true) (hl : getL name es = some none) (h : Q (.ref f, [.ref x]) s) :
  WP (model prog w) A (getMethod (.ref x) name pl) Q E s := ⟨method_inst S.fr C.X I hg hf ht hl h⟩
theorem q_getD (C : Fm w A env g base outer nm G) (S : Stt s0 g env.locals m news s) {x Cl : Addr} {ox : Obj} {es : List DictEntry} {n : Nat} {name : Str} {v : Value} {attr : Option Value} {expr : Bool} {Q : VP} (I : InstAt s.heap x ox Cl (some (dictOf es n)))
  (hg : plainGet (hK w.params) Cl name = true) (hh : hasDictIn (hK w.params) Cl = true) (ha : findIn (hK w.params) (.ref Cl) name = some attr) (hn : noGet (hK w.params) attr = true) (hl : getL name es = some (some v)) (hv : handedIn v = true)
  (h : ∀ s', Stt s0 g env.locals m news s' → s'.heap = s.heap → Q v s') : WP (model prog w) A (getAttr (.ref x) name expr) Q E s := ⟨get_own S.fr C.X I hg hh ha hn hl hv (h _ (S.tok _) rfl)⟩
theorem Ch.upd {a : Addr} {o o' : Obj} {l l' : LD} (h : Ch a o o' l l') (nd : (l.map (·.1)).Nodup) : Upd a o o' l l' := by
 induction h with
 | head =>
  simp only [List.map_cons, List.nodup_cons] at nd
  exact .head fun p hp e => nd.1 (e ▸ List.mem_map_of_mem hp)
 | tail h ih =>
  simp only [List.map_cons, List.nodup_cons] at nd
  refine .tail (fun e => nd.1 ?_) (ih nd.2)
  obtain ⟨pre, post, rfl, _⟩ := h.split
  rw [e]; simp
theorem q_setD (C : Fm w A env g base outer nm G) (S : Stt s0 g env.locals m news s) {x Cl dx : Addr} {ox : Obj} {es es' : List DictEntry} {n n' : Nat} {name : Str} {v : Value} {Q : Unit → Shared → Prop} (I : InstAt s.heap x ox Cl (some (dictOf es n))) (hd : ox.dict = some dx)
  (hs : findIn (hK w.params) (.ref Cl) "__setattr__" = some (some (.builtin "object.__setattr__"))) (hp : plainOver (hK w.params) Cl = true) (ht : takerIn (hK w.params) Cl name = some none) (hh : hasDictIn (hK w.params) Cl = true) (hl : (getL name es).isSome = true)
  (e : (putL name (PyData.keyHash w.params name) (.str name (s.toks + 1)) v es, putN name es n) = (es', n')) (U : Ch dx (dictOf es n) (dictOf es' n') news news') (hz : es'.length ≤ 1000)
  (h : ∀ s', Stt s0 g env.locals m news' s' → Q () s') : WP (model prog w) A (setAttr (.ref x) name v) Q E s :=
 ⟨set_dict S.fr C.X S.led I hd hs hp ht hh hl e (U.upd S.nd) hz fun h' F N => h _ ⟨same_of S.same, F, N, U.keys ▸ S.nd⟩⟩
theorem q_getS (C : Fm w A env g base outer nm G) (S : Stt s0 g env.locals m news s) {x Cl p : Addr} {ox od : Obj} {name : Str} {v : Value} {i : Nat} {expr : Bool} {Q : VP} (I : InstAt s.heap x ox Cl (some od)) (hg : plainGet (hK w.params) Cl name = true) (hc : isClsIn (hK w.params) Cl = true)
  (ha : findIn (hK w.params) (.ref Cl) name = some (some (.ref p))) (hn : specialIn (hK w.params) (.ref p) "__get__" = some (some (.builtin "member_descriptor.__get__"))) (ht : takesIn (hK w.params) (.ref p) = some true) (hp : slotIn (hK w.params) p Cl = some i)
  (hv : (ox.slots[i]?).join = some v) (hh : handedIn v = true) (h : ∀ s', Stt s0 g env.locals m news s' → s'.heap = s.heap → Q v s') : WP (model prog w) A (getAttr (.ref x) name expr) Q E s :=
 ⟨get_slot S.fr C.X I hg hc ha hn ht hp hv hh (h _ (S.tok _) rfl)⟩
theorem q_setS (C : Fm w A env g base outer nm G) (S : Stt s0 g env.locals m news s) {x Cl p : Addr} {ox ox' od : Obj} {name : Str} {v : Value} {i : Nat} {Q : Unit → Shared → Prop} (I : InstAt s.heap x ox Cl (some od))
  (hs : findIn (hK w.params) (.ref Cl) "__setattr__" = some (some (.builtin "object.__setattr__"))) (hp : plainOver (hK w.params) Cl = true) (ht : takerIn (hK w.params) Cl name = some (some (.ref p))) (hT : typeIn (hK w.params) (.ref p) = some (.type "member_descriptor")) (hi : slotIn (hK w.params) p Cl = some i) (hz : i < 1000)
  (e : { ox with slots := (ox.slots ++ Array.replicate (i + 1 - ox.slots.size) none).setIfInBounds i (some v) } = ox') (hf : ox'.isFreed = false) (U : Ch x ox ox' news news')
  (h : ∀ s', Stt s0 g env.locals m news' s' → Q () s') : WP (model prog w) A (setAttr (.ref x) name v) Q E s :=
 ⟨set_slot S.fr C.X S.led I hs hp ht hT hi hz e hf (U.upd S.nd) fun h' F N => h _ ⟨same_of S.same, F, N, U.keys ▸ S.nd⟩⟩
theorem making_frames (args : Args) : (A.under (.builtin "type.__call__" args)).frames = A.frames := rfl
theorem making_weight (Cl : Addr) (args : List Value) : Code.weight (.builtin "type.__call__" ⟨.ref Cl :: args, []⟩) = 1 := by with_unfolding_all rfl
theorem Fm.making (C : Fm w A env g base outer nm G) (args : Args) : Fm w (A.under (.builtin "type.__call__" args)) env g base outer nm G :=
 ⟨C.X, C.T, C.B, (making_frames args).trans C.hA, C.hf, C.hk, C.hh, C.hg, C.hb, C.nd, C.loc, C.glo⟩
theorem making_depth (Cl : Addr) (args : List Value) : (A.under (.builtin "type.__call__" ⟨.ref Cl :: args, []⟩)).depth = A.depth + 1 := by
 show A.depth + Code.weight _ = _
 rw [making_weight]
theorem q_new (C : Fm w A env g base outer nm G) (S : Stt s0 g env.locals m news s) {Cl fI : Addr} {args : List Value} {Q : VP} (hm : makesIn (hK w.params) Cl = true) (hi : findIn (hK w.params) (.ref Cl) "__init__" = some (some (.ref fI))) (hf : isFn (hK w.params) (.ref fI) = true)
  (h : ∀ x dx s', Stt s0 g env.locals m ((x, instObj Cl dx) :: (dx, dictOf [] 0) :: news) s' →
   codeAny (model prog w) (A.under (.builtin "type.__call__" ⟨.ref Cl :: args, []⟩)) (.call (.ref fI) ⟨.ref x :: args, []⟩) (fun r s' => match r with | .ok (.ret v) => v = .none ∧ Q (.ref x) s' | .ok _ => False | .error e => E e s') s') :
  WP (model prog w) A (call (.ref Cl) args) Q E s := by
 refine ⟨call_cls S.fr C.X S.led hm hi hf fun x dx h' F N hlt hlt2 => ?_⟩
 have S' : Stt s0 g env.locals m ((x, instObj Cl dx) :: (dx, dictOf [] 0) :: news) { s with heap := h' } := ⟨same_of S.same, F, N, by
  simp only [List.map_cons, List.nodup_cons, List.mem_cons, not_or]
  refine ⟨⟨Nat.ne_of_gt hlt2, fun q => ?_⟩, fun q => ?_, S.nd⟩
  ·obtain ⟨p, hp, e⟩ := List.mem_map.mp q
   exact absurd (hlt p hp) (by rw [e]; exact Nat.not_lt.mpr (Nat.le_of_lt hlt2))
  ·obtain ⟨p, hp, e⟩ := List.mem_map.mp q
   exact absurd (hlt p hp) (by rw [e]; exact Nat.lt_irrefl _)⟩
 refine codeAny_mono (h x dx _ S') fun r s' hr => ?_
 cases r with
 | ok f => cases f <;> exact hr
 | error e => exact hr
end
section
variable {prog : Program} {w : World} {A : Around} {env : Env} {g base : Heap} {outer : List Env} {nm : List Str} {G : SV}
 {E : VP} {s0 s : Shared} {L : Addr} {m : SM} {news news' rest r : LD}
noncomputable abbrev IsD (prog : Program) (w : World) (o : Obj) (kvs : SV) : Prop := o.IsDictOf (strKind prog w) kvs
theorem isD_new (hp : Heap) : IsD prog w (dictOf [] 0) [] := by
 obtain ⟨o, es, ep, ho, h⟩ := Heap.DictOf.new (knd := strKind prog w) (h := hp)
 rw [Heap.get?_push_size _ rfl] at ho
 cases ho
 exact ⟨es, ep, h⟩
theorem dictAt (S : Stt s0 g L m news s) {d : Addr} {o : Obj} {kvs : SV} (hm : (d, o) ∈ news) (hd : IsD prog w o kvs) : s.heap.DictOf (strKind prog w) d kvs := Heap.dictOf_iff.mpr ⟨o, S.get hm, hd⟩
theorem q_dnew (C : Fm w A env g base outer nm G) (S : Stt s0 g env.locals m news s) {pos : Pos} {Q : VP}
  (h : ∀ d s', (d == sysModules) = false → Stt s0 g env.locals m ((d, dictOf [] 0) :: news) s' → Q (.ref d) s') : WP M A (eval (.Dict [] [] pos) env) Q E s := by
 obtain ⟨p, loose, mean, mg, mb, T⟩ := C.T
 have hb := modules_low (T.nolimit.keeps S.fr.keep)
 refine ⟨wpAny_Dict_empty (h _ _ ?_ (S.push _ s.toks))⟩
 exact beq_eq_false_iff_ne.mpr (Nat.ne_of_gt hb)
theorem q_din (S : Stt s0 g L m news s) {d : Addr} {o : Obj} {kvs : SV} {x : Str} {t : Tok} {Q : VP} (hm : (d, o) ∈ news) (hd : IsD prog w o kvs) (lo : (d == sysModules) = false)
  (h : ∀ s', Stt s0 g L m news s' → s'.heap = s.heap → Q (.bool (valueAt kvs x).isSome) s') : WP (model prog w) A (compareOp .In (.str x t) (.ref d)) Q E s :=
 ⟨wpAny_in_of (strKind_is prog w x t) lo (dictAt S hm hd).mapOf (h _ (S.tok _) rfl)⟩
theorem q_dsub (S : Stt s0 g L m news s) {d : Addr} {o : Obj} {kvs : SV} {x : Str} {t : Tok} {v : Value} {value slice : Expr} {Q : VP} (hm : (d, o) ∈ news) (hd : IsD prog w o kvs) (hv : valueAt kvs x = some v)
  (h : ∀ s', Stt s0 g L m news s' → s'.heap = s.heap → Q v s')
  (hs : subscripted slice false (.ref d) (.str x t) = operate [.ref d, .str x t] (getItem (.ref d) (.str x t)) := by with_unfolding_all exact rfl) : WP (model prog w) A (subscriptTail value slice (.ref d) (.str x t)) Q E s :=
 ⟨tail_any (dictAt (prog := prog) (w := w) S hm hd).typeIs slot_dict_getitem.lookup (wpAny_getItem_of (strKind_is prog w x t) (dictAt S hm hd).mapOf hv (h _ (S.tok _) rfl)) hs⟩
theorem q_dset {d : Addr} {o : Obj} (S : Stt s0 g L m ((d, o) :: r) s) {kvs : SV} {x : Str} {t : Tok} {v : Value} {Q : Unit → Shared → Prop} (hd : IsD prog w o kvs) (hz : kvs.length ≤ 1000)
  (h : ∀ o' s', IsD prog w o' (stored kvs x v) → Stt s0 g L m ((d, o') :: r) s' → Q () s') : WP (model prog w) A (setItem (.ref d) (.str x t) v) Q E s := by
 refine ⟨wpAny_setItem_pairs (hsz := Nat.le_trans hz (by decide)) (strKind_is prog w x t) (dictAt S (.head _) hd) fun h' hm hs => ?_⟩
 obtain ⟨o', ho', hd'⟩ := Heap.dictOf_iff.mp hm
 exact h o' _ hd' (S.setAt _ .head hs ho')
inductive PDgetV (prog : Program) (w : World) (Q : VP) (d : Addr) (v : Value) (s_2 : Shared) : Prop
 | mk (s0 : Shared) (g : Heap) (L : Addr) (m : SM) (news : LD) (ob : _) (kvs : _) (x : _) (t : _) (h1 : v = .str x t) (h2 : Stt s0 g L m news s_2) (h3 : (d, ob) ∈ news) (h4 : IsD prog w ob kvs) (h5 : ∀ s', Stt s0 g L m news s' → s'.heap = s_2.heap → Q ((valueAt kvs x).getD .none) s') : PDgetV prog w Q d v s_2
inductive PDget (prog : Program) (w : World) (A : Around) (env : Env) (e : Expr) (Q : VP) (E : VP) (ov : Value) (s_1 : Shared) : Prop
 | mk (d : _) (h1 : ov = .ref d) (h2 : (d == sysModules) = false) (h3 : (∃ kvs, s_1.heap.DictOf (strKind prog w) d kvs)) (h4 : WP (model prog w) A (eval e env) (PDgetV prog w Q d) E s_1) : PDget prog w A env e Q E ov s_1
theorem q_dget {o e : Expr} {apos pos : Pos} {Q : VP}
  (h : WP (model prog w) A (eval o env) (PDget prog w A env e Q E) E s)
  (hbase : attributeBase o "get" env (eval o env) = eval o env := by exact rfl)
  (hfew : ((backTo pos (starEach [e] env)).all (fun x => !x.1) && (backToKw pos (keywordEach [] env)).all (fun x => x.1.isSome)
   && decide (([e] : List Expr).length + ([] : List Keyword).length + (if ([] : List Keyword).isEmpty then 0 else 1) < 30)) = true := by exact rfl)
  (hline : (apos.endLine == pos.line) = true := by exact rfl) (htr : backTo pos (starEach [e] env) = [(false, eval e env)] := by exact rfl) :
  WP (model prog w) A (eval (.Call (.Attribute o "get" apos) [e] [] pos) env) Q E s := by
 refine q_meth1 F.plainAttrs_dict F.slot_dict_get F.type_dict_get (q_mono h fun ov s_1 h_1 => ?_) hbase hfew hline htr
 obtain ⟨d, rfl, lo, ⟨kvs0, hD⟩, hc⟩ := h_1
 refine ⟨hD.typeIs, hD.mapOf.noDict, ⟨wpAny_dict_get1 (knd := strKind prog w) lo (wpAny_mono hc.run (fun v s_2 h_2 => ?_) fun _ _ e => e)⟩⟩
 obtain ⟨s0, g, L, m, news, ob, kvs, x, t, rfl, S, hm, hd, q⟩ := h_2
 exact ⟨x, _, strKind_is prog w x t, (dictAt S hm hd).mapOf, q _ (S.tok _) rfl⟩
theorem dictAt_of {h : Heap} {d : Addr} {o : Obj} {kvs : SV} (ho : h.get? d = some o) (hd : IsD prog w o kvs) : ∃ ep, h.DictAt (strKind prog w) d kvs ep := by
 obtain ⟨es, ep, a, b, c⟩ := hd
 exact ⟨ep, o, es, ho, a, b, c⟩
inductive PForK (prog : Program) (w : World) (A : Around) (env : Env) (g : Heap) (x : Str) (body : List Stmt) (Q : FP) (xv : Value) (s_1 : Shared) : Prop
 | mk (s0 : Shared) (d : Addr) (o : Obj) (kvs : SV) (J : Nat → (SM) → List (Addr × Obj) → Prop) (m : SM) (rest : LD) (h1 : xv = .ref d) (h2 : (d == sysModules) = false) (h3 : IsD prog w o kvs) (h4 : Stt s0 g env.locals m rest s_1) (h5 : (g.get? d = some o ∨ ∀ i m r, J i m r → (d, o) ∈ r)) (h6 : J 0 m rest) (h7 : (∀ i k y t m1 r_1 I it s_2, kvs[i]? = some (k, y) → J i m1 r_1 → Stt s0 g env.locals (fun y => if y = x then some (.str k t) else m1 y) ((I, it) :: r_1) s_2 →
    WP (model prog w) A (execs body env) (LPost s0 g env.locals I it (J (i + 1)) Q) NE s_2)) (h8 : (∀ m1 r_1 s_2, J kvs.length m1 r_1 → Stt s0 g env.locals m1 r_1 s_2 → Q .next s_2)) : PForK prog w A env g x body Q xv s_1
theorem q_forK (C : Fm w A env g base outer nm G) {x : Str} {px pos : Pos} {iter : Expr} {body : List Stmt} {Q : FP} (hx : x ∈ nm)
  (h : WP (model prog w) A (eval iter env) (PForK prog w A env g x body Q) NE s)
  (hs : ∀ x, foldedSetIterable iter env x = pure x := by intro _; exact rfl) :
  WP (model prog w) A (exec (.For (.Name x px) iter body [] pos) env) Q NE s := by
 refine ⟨wpAny_For (wpAny_mono h.run (fun xv s_1 h_1 => ?_) fun _ _ e => e) hs⟩
 obtain ⟨s0, d, o, kvs, J, m, rest, rfl, lo, hd, S, hl, h0, turn, done⟩ := h_1
 have hlo : s_1.heap.get? d = some o := hl.elim (fun e => S.base e) fun e => S.get (e _ _ _ h0)
 obtain ⟨ep, hat⟩ := dictAt_of hlo hd
 have hne : d ≠ s_1.heap.objs.size := Nat.ne_of_lt (Heap.lt_size hlo)
 have hlL : d ≠ env.locals := by
  rcases hl with e | e
  ·exact Nat.ne_of_lt (Nat.lt_of_lt_of_le (Heap.lt_size e) S.fr.above)
  ·exact (S.led _ (e _ _ _ h0)).2.1
 refine wpAny_pyIter_dict lo hat ?_
 have S' := S.push { cls := .type "dict_keyiterator", data := .fields #[.ref d, .int 0 0, .int kvs.length 0, .int ep 0] } s_1.toks
 refine for_walk C (Walks.dictKeys C.hh s_1.heap.objs.size d hne kvs ep) hx S' ⟨⟨_, Heap.get?_push_size _ rfl, rfl, rfl⟩, hat.at' fun o e => Heap.get?_push_of_some _ e⟩
  (fun i h ⟨⟨o, e, _⟩, _⟩ => ⟨o, e⟩) ?_ J ?_ h0 ?_ done
 ·intro hm
  rcases List.mem_cons.mp hm with e | hm
  ·exact (S'.led _ (.head _)).2.1 e.symm
  ·exact hlL (List.mem_singleton.mp hm).symm
 ·intro b hb hbI hg
  rcases List.mem_cons.mp hb with e | hb
  ·exact absurd e hbI
  ·obtain rfl := List.mem_singleton.mp hb
   rcases hl with e | e
   ·rw [hg] at e; cases e
   ·exact ⟨o, e⟩
 ·rintro i v m1 r_1 it s_2 hi ⟨k, y, hk, hkey⟩ hJ S_2
  obtain ⟨t, rfl⟩ := Value.isStrOf_shape hkey
  exact (turn i k y t m1 r_1 _ it s_2 hk hJ S_2).run
noncomputable abbrev viewObj (d : Addr) : Obj := { cls := .type "dict_values", data := .fields #[.ref d] }
inductive PVals (prog : Program) (w : World) (Q : VP) (ov : Value) (s_1 : Shared) : Prop
 | mk (s0 : Shared) (g : Heap) (L : Addr) (m : SM) (news : LD) (d : _) (kvs : _) (h1 : ov = .ref d) (h2 : (d == sysModules) = false) (h3 : s_1.heap.DictOf (strKind prog w) d kvs) (h4 : Stt s0 g L m news s_1) (h5 : ∀ v s', Stt s0 g L m ((v, viewObj d) :: news) s' → Q (.ref v) s') : PVals prog w Q ov s_1
theorem q_values {o : Expr} {apos pos : Pos} {Q : VP}
  (h : WP (model prog w) A (eval o env) (PVals prog w Q) E s)
  (hbase : attributeBase o "values" env (eval o env) = eval o env := by exact rfl) (hline : (apos.endLine == pos.line) = true := by exact rfl) :
  WP (model prog w) A (eval (.Call (.Attribute o "values" apos) [] [] pos) env) Q E s := by
 refine q_meth0 F.plainAttrs_dict F.slot_dict_values F.type_dict_values (q_mono h fun ov s_1 h_1 => ?_) hbase hline
 obtain ⟨s0, g, L, m, news, d, kvs, rfl, lo, hD, S, q⟩ := h_1
 exact ⟨hD.typeIs, hD.mapOf.noDict, ⟨method_meetsIn F.slot_dict_values F.entry_dict_values rfl (PySem.evalArgs_none ⟨rfl, hD.typeIs, F.args_dict_values_1 _, _, meets_dict_values (strKind prog w) d lo, ⟨⟨kvs, hD⟩, q _ _ (S.push _ s_1.toks)⟩⟩)⟩⟩
theorem src_vals {x : Str} {scope : Scope} {cl : List (Str × Addr)} {ifs : List Expr} {elt : Expr} {J : Nat → List Value → List (Addr × Obj) → Prop} {v d : Addr} {o : Obj} {kvs : SV}
  (hh : A.handled = none) (hd : IsD prog w o kvs) (hv : s.heap.get? v = some (viewObj d)) (S : Stt s0 g L m rest s) (hl : g.get? d = some o ∨ ∀ i ys r, J i ys r → (d, o) ∈ r) (hsz : kvs.length ≤ sizeLine) (h0 : J 0 [] rest)
  (turn : ∀ i k v, kvs[i]? = some (k, v) → WTurn prog w A s0 g L m env x scope cl ifs elt J i v) :
  wpAny (model prog w) A (pyIter (.ref v)) (fun iv s' => CSrc prog w A s0 g L m (CTurn prog w A s0 g L m env x scope cl ifs elt) J kvs.length iv s') E s := by
 have hlo : s.heap.get? d = some o := hl.elim (fun e => S.base e) fun e => S.get (e _ _ _ h0)
 obtain ⟨ep, hat⟩ := dictAt_of hlo hd
 have hlt := Heap.lt_size hlo
 have hne : d ≠ s.heap.objs.size := Nat.ne_of_lt hlt
 have keep : ∀ b ∈ [s.heap.objs.size, d], b ≠ s.heap.objs.size → g.get? b = none → ∃ o, ∀ i ys r, J i ys r → (b, o) ∈ r := fun b hb hbI hg => by
  rcases List.mem_cons.mp hb with e | hb
  ·exact absurd e hbI
  ·obtain rfl := List.mem_singleton.mp hb
   rcases hl with e | e
   ·rw [hg] at e; cases e
   ·exact ⟨o, e⟩
 have fpl : ∀ (o : Obj), ∀ b ∈ [s.heap.objs.size, d], b < (s.heap.push o).objs.size := fun o b hb => by
  rw [Heap.size_push]
  rcases List.mem_cons.mp hb with rfl | hb
  ·exact Nat.lt_succ_self _
  ·rw [List.mem_singleton.mp hb]; exact Nat.lt_succ_of_lt hlt
 refine wpAny_pyIter_values ⟨_, hv, rfl, rfl⟩ hat ⟨_, _, _, _, _, rest, rfl, Walks.dictValues hh s.heap.objs.size d hne kvs ep, hsz, fun i h ⟨⟨o, e, _⟩, _⟩ => ⟨o, e⟩, S.push _ s.toks, ⟨⟨_, Heap.get?_push_size _ rfl, rfl, rfl⟩, hat.at' fun o e => Heap.get?_push_of_some _ e⟩, fpl _, keep, h0, fun i v _ ⟨k, hk⟩ => (turn i k v hk).c⟩
end
noncomputable abbrev slotObj (dx : Addr) (sl : Array (Option Value)) : Obj := ⟨.ref 40, some dx, .plain, sl⟩
noncomputable abbrev infoObj (dx : Addr) (a b c : Value) : Obj := slotObj dx #[some a, some b, some c]
theorem info_spec {w : World} {A : Around} {env : Env} {g base : Heap} {outer : List Env} {nm : List Str} {G : SV} {s0 s : Shared} {m : SM} {news : LD}
  {E : VP} {x : Str} {t : Tok} {Q : VP} :
  (hK w.params).In g → ∀ (C : Fm w A env g base outer nm G) (S : Stt s0 g env.locals m news s) (hd : A.depth + 10 < recursionLimit)
  (k : ∀ a dx l tp s', Stt s0 g env.locals m ((a, infoObj dx (.str x t) (.int 0 tp) (.ref l)) :: (dx, dictOf [] 0) :: (l, W.listOf #[] 0) :: news) s' → Q (.ref a) s'), WP (model PySem.Challenge.rw_rt0104_01.row.prog w) A (call (.ref 40) [.str x t]) Q E s := by
 k_fill
 intro X C S hd k
 refine q_new C S (fI := 36) (by k_is) (by k_is) (by k_is) fun a dx s_1 S_1 => ?_
 have X : (hK w.params).In s_1.heap := C.X.keeps S_1.fr.keep
 have hdep := making_depth (A := A) 40 [.str x t]
 refine (C.making ⟨.ref 40 :: [.str x t], []⟩).callK (sub := [(a, instObj 40 dx), (dx, dictOf [] 0)]) (rest := news) S_1 (cl := []) (nm' := ["self", "node"]) (vs := [.ref a, .str x t]) (vals' := [some (.ref a), some (.str x t)]) (G' := []) (fun _ => NE) (X _ _ (by k_is)) rfl (codeRec_of X (by k_is)) (by rw [hdep]; with_reducible exact n36 (by assumption) (by decide)) (BindsTo.of_eq rfl) (Nat.le_of_ble_eq_true rfl) rfl (by decide +kernel) (by decide +kernel) rfl rfl rfl (fun _ _ _ x => x.elim) ?_
 intro g' L' s_2 hx hx' C' S_2
 generalize henv : envX _ _ L' _ _ [] = env' at C' ⊢
 have hL : env'.locals = L' := by rw [← henv]
 rw [← hL] at S_2 ⊢
 refine W0 ?_
 replace S_2 : Stt s_1 g' env'.locals (lcs ["self", "node"] [some (.ref a), some (.str x t)]) [(a, slotObj dx #[]), (dx, dictOf [] 0)] s_2 := S_2
 refine q_cons <| q_aattr <| q_name C' S_2 (by walk_at "lk") <| q_name C' S_2 (by walk_at "lk") <| q_setS C' S_2 (p := 41) (i := 0) (ox' := slotObj dx #[some (.str x t)]) (instAt S_2 (.head _) (.tail _ (.head _))) (by k_is) (by k_is) (by k_is) (by k_is) (by k_is) (by decide) (by simp) rfl .head fun s3 S_3 => ?_
 refine q_cons <| q_aattr <| q_int S_3 fun tp s4 S4 => q_name C' S4 (by walk_at "lk") <| q_setS C' S4 (p := 42) (i := 1) (ox' := slotObj dx #[some (.str x t), some (.int 0 tp)]) (instAt S4 (.head _) (.tail _ (.head _))) (by k_is) (by k_is) (by k_is) (by k_is) (by k_is) (by decide) (by simp) rfl .head fun s5 S5 => ?_
 refine q_cons <| q_aattr <| q_list <| q_i0 ⟨_, _, _, _, S5, Nat.le_of_ble_eq_true rfl, fun l s6 S6 => q_name C' S6 (by walk_at "lk") <| q_setS C' S6 (p := 43) (i := 2) (ox' := infoObj dx (.str x t) (.int 0 tp) (.ref l)) (instAt S6 (.tail _ (.head _)) (.tail _ (.tail _ (.head _)))) (by k_is) (by k_is) (by k_is) (by k_is) (by k_is) (by decide) (by simp) rfl (.tail .head) fun s7 S7 =>
  q_nil ⟨_, [(a, infoObj dx (.str x t) (.int 0 tp) (.ref l)), (dx, dictOf [] 0), (l, W.listOf #[] 0)], S7.perm (List.perm_middle (l₁ := [_, _]) (l₂ := [])), fun S8 => ⟨rfl, k a dx l tp _ S8⟩⟩⟩
structure SD where
 (h1 h2 h3 h4 : Int) (t1 t2 t3 t4 : Tok) (v1 v2 v3 v4 : Value)
noncomputable abbrev SD.es (q : SD) : List DictEntry := [⟨q.h1, .str "_node2info" q.t1, q.v1⟩, ⟨q.h2, .str "_ready_nodes" q.t2, q.v2⟩, ⟨q.h3, .str "_npassedout" q.t3, q.v3⟩, ⟨q.h4, .str "_nfinished" q.t4, q.v4⟩]
noncomputable abbrev sortObj (dx : Addr) : Obj := ⟨.ref 137, some dx, .plain, #[]⟩
theorem sorter_spec {w : World} {A : Around} {env : Env} {g base : Heap} {outer : List Env} {nm : List Str} {G : SV} {s0 s : Shared} {m : SM} {news : LD}
  {E : VP} {Q : VP} :
  (hK w.params).In g → ∀ (C : Fm w A env g base outer nm G) (S : Stt s0 g env.locals m news s) (hd : A.depth + 10 < recursionLimit)
  (k : ∀ x dx d q s', (d == sysModules) = false → q.v1 = .ref d → q.v2 = .none → (∃ t, q.v3 = .int 0 t) → (∃ t, q.v4 = .int 0 t) → Stt s0 g env.locals m ((x, sortObj dx) :: (dx, dictOf (SD.es q) 4) :: (d, dictOf [] 0) :: news) s' → Q (.ref x) s'), WP (model PySem.Challenge.rw_rt0104_01.row.prog w) A (call (.ref 137) []) Q E s := by
 k_fill
 intro X C S hd k
 refine q_new C S (fI := 73) (by k_is) (by k_is) (by k_is) fun x dx s_1 S_1 => ?_
 have X : (hK w.params).In s_1.heap := C.X.keeps S_1.fr.keep
 have hdep := making_depth (A := A) 137 []
 refine (C.making ⟨.ref 137 :: [], []⟩).callK (sub := [(x, instObj 137 dx), (dx, dictOf [] 0)]) (rest := news) S_1 (cl := []) (nm' := ["self", "graph", "node", "predecessors"]) (vs := [.ref x, .none]) (vals' := [some (.ref x), some .none, none, none]) (G' := []) (fun _ => NE) (X _ _ (by k_is)) rfl (codeRec_of X (by k_is)) (by rw [hdep]; with_reducible exact n36 (by assumption) (by decide)) (kp_binds X (fun S => by rfl)) (Nat.le_of_ble_eq_true rfl) rfl (by decide +kernel) (by decide +kernel) rfl rfl rfl (fun _ _ _ x => x.elim) ?_
 intro g' L' s_2 hx hx' C' S_2
 generalize henv : envX _ _ L' _ _ [] = env' at C' ⊢
 have hL : env'.locals = L' := by rw [← henv]
 rw [← hL] at S_2 ⊢
 refine W0 ?_
 replace S_2 : Stt s_1 g' env'.locals (lcs ["self", "graph", "node", "predecessors"] [some (.ref x), some .none, none, none]) [(x, sortObj dx), (dx, dictOf [] 0)] s_2 := S_2
 refine q_cons <| q_aattr <| q_dnew C' S_2 fun d s3 lo S_3 => q_name C' S_3 (by walk_at "lk") <| q_setD C' S_3 (instAt S_3 (.tail _ (.head _)) (.tail _ (.tail _ (.head _)))) rfl (by k_is) (by k_is) (by k_is) (by k_is) rfl rfl (.tail (.tail .head)) (Nat.le_of_ble_eq_true rfl) fun s4 S4 => ?_
 generalize s3.toks + 1 = t1 at S4
 refine q_cons <| q_aattr <| q_cnone <| q_name C' S4 (by walk_at "lk") <| q_setD C' S4 (instAt S4 (.tail _ (.head _)) (.tail _ (.tail _ (.head _)))) rfl (by k_is) (by k_is) (by k_is) (by k_is) rfl rfl (.tail (.tail .head)) (Nat.le_of_ble_eq_true rfl) fun s5 S5 => ?_
 generalize s4.toks + 1 = t2 at S5
 refine q_cons <| q_aattr <| q_int S5 fun t3' s6 S6 => q_name C' S6 (by walk_at "lk") <| q_setD C' S6 (instAt S6 (.tail _ (.head _)) (.tail _ (.tail _ (.head _)))) rfl (by k_is) (by k_is) (by k_is) (by k_is) rfl rfl (.tail (.tail .head)) (Nat.le_of_ble_eq_true rfl) fun s7 S7 => ?_
 generalize s6.toks + 1 = t3 at S7
 refine q_cons <| q_aattr <| q_int S7 fun t4' s8 S8 => q_name C' S8 (by walk_at "lk") <| q_setD C' S8 (instAt S8 (.tail _ (.head _)) (.tail _ (.tail _ (.head _)))) rfl (by k_is) (by k_is) (by k_is) (by k_is) rfl rfl (.tail (.tail .head)) (Nat.le_of_ble_eq_true rfl) fun s9 S9 => ?_
 generalize s8.toks + 1 = t4 at S9
 refine q_cons <| q_if <| q_tcmp <| q_name C' S9 (by walk_at "lk") <| q_cnone <| q_isnotnone <| q_tbool ?_
 rw [show (!(Value.none == Value.none)) = false by rfl, if_neg Bool.false_ne_true]
 refine q_nil <| q_nil ⟨_, [(x, sortObj dx), (dx, dictOf (SD.es ⟨_, _, _, _, t1, t2, t3, t4, .ref d, .none, .int 0 t3', .int 0 t4'⟩) 4), (d, dictOf [] 0)], S9.perm (List.perm_middle (l₁ := [_, _]) (l₂ := [])), fun S10 => ⟨rfl, k x dx d _ _ lo rfl rfl ⟨_, rfl⟩ ⟨_, rfl⟩ S10⟩⟩
section
variable {M : Model} {prog : Program} {w : World} {A : Around} {env : Env} {E : VP} {s : Shared}
theorem q_walrus {x : Str} {px pos : Pos} {value : Expr} {Q : VP} (h : WP M A (eval value env) (fun v s_1 => WP M A (storeName env x v) (fun _ s_2 => Q v s_2) E s_1) E s) :
  WP M A (eval (.NamedExpr (.Name x px) value pos) env) Q E s := ⟨wpAny_NamedExpr (wpAny_mono h.run (fun v s_1 h_1 => assign_Name h_1.run) fun _ _ e => e)⟩
theorem w_asgSub {o i : Expr} {p : Pos} {v : Value} {Q : Unit → Shared → Prop} (h : wpAny M A (eval o env) (fun ov s_2 => wpAny M A (eval i env) (fun iv s3 => wpAny M A (setItem ov iv v) Q E s3) E s_2) E s) : wpAny M A (assign (.Subscript o i p) env v) Q E s := fun Γ q hΓ => by
 simp only [assign_Subscript, Sem.wp_bind', Sem.wp_holding, Sem.wp_cmd_standAt, Sem.wp_release, Sem.wp_pure']
 exact Sem.wp_mono M Γ _ (fun ov p_2 s_2 h_2 => Sem.wp_mono M Γ _ (fun iv _ s3 h_3 => h_3 Γ _ hΓ) (fun _ _ _ h' => h') _ _ (h_2 Γ p_2 hΓ)) (fun _ _ _ h' => h') _ _ (h Γ _ hΓ)
theorem q_assignSN {o i : Expr} {p py pos : Pos} {y : Str} {value : Expr} {Q : FP}
  (h : WP M A (eval value env) (fun v s_1 => WP M A (eval o env) (fun ov s_2 => WP M A (eval i env) (fun iv s3 => WP M A (setItem ov iv v) (fun _ s4 => WP M A (storeName env y v) (fun _ => Q .next) E s4) E s3) E s_2) E s_1) E s)
  (he : (assignEach [.Subscript o i p, .Name y py] env).map (·.2) = [assign (.Subscript o i p) env, assign (.Name y py) env] := by exact rfl)
  (hw : swappedStores [.Subscript o i p, .Name y py] value env = pure none := by exact rfl) : WP M A (exec (.Assign [.Subscript o i p, .Name y py] value pos) env) Q E s :=
 ⟨wpAny_Assign_two (wpAny_mono h.run (fun v s_1 h_1 => w_asgSub (wpAny_mono h_1.run (fun ov s_2 h_2 => wpAny_mono h_2.run (fun iv s3 h_3 => wpAny_mono h_3.run (fun _ s4 h_4 => assign_Name h_4.run) fun _ _ e => e) fun _ _ e => e) fun _ _ e => e)) fun _ _ e => e) he hw⟩
end
structure Nd where
 (nm : Str) (a dx l : Addr) (t tp : Tok) (np : Int) (sv : List Value) (ss : List Str) (ln : Nat)
noncomputable abbrev Nd.led (q : Nd) : LD := [(q.a, infoObj q.dx (.str q.nm q.t) (.int q.np q.tp) (.ref q.l)), (q.dx, dictOf [] 0), (q.l, W.listOf q.sv.toArray q.ln)]
noncomputable def kvsOf (ns : List Nd) : SV := ns.map fun q => (q.nm, .ref q.a)
noncomputable def ndsLed (ns : List Nd) : LD := ns.flatMap Nd.led
noncomputable abbrev sLed (x dx d : Addr) (q : SD) (od : Obj) (ns : List Nd) : LD := (x, sortObj dx) :: (dx, dictOf (SD.es q) 4) :: (d, od) :: ndsLed ns
theorem valueAt_kvs {ns : List Nd} {x : Str} {v : Value} (h : valueAt (kvsOf ns) x = some v) : ∃ q ∈ ns, q.nm = x ∧ v = .ref q.a := by
 unfold valueAt kvsOf at h
 cases e : (ns.map fun q => (q.nm, Value.ref q.a)).find? (fun kv => kv.1 = x) with
 | none => rw [e] at h; cases h
 | some p =>
  rw [e] at h
  have h1 := List.mem_of_find?_eq_some e
  have h2 := List.find?_some e
  obtain ⟨q, hq, rfl⟩ := List.mem_map.mp h1
  exact ⟨q, hq, by simpa using h2, by simpa using h.symm⟩
theorem valueAt_none {ns : List Nd} {x : Str} (h : valueAt (kvsOf ns) x = none) : ∀ q ∈ ns, q.nm ≠ x := by
 intro q hq e
 unfold valueAt kvsOf at h
 rw [Option.map_eq_none_iff, List.find?_eq_none] at h
 exact h _ (List.mem_map_of_mem hq) (by simpa using e)
theorem stored_new {ns : List Nd} {x : Str} {v : Value} (h : ∀ q ∈ ns, q.nm ≠ x) : stored (kvsOf ns) x v = kvsOf ns ++ [(x, v)] := by
 unfold stored
 rw [if_neg]
 simp only [List.any_eq_true, not_exists, not_and]
 intro p hp
 obtain ⟨q, hq, rfl⟩ := List.mem_map.mp hp
 simpa using h q hq
theorem getinfo_spec {w : World} {A : Around} {env : Env} {g base : Heap} {outer : List Env} {nm : List Str} {G : SV} {s0 s : Shared} {m : SM} {news : LD}
  {E : VP} {x dx d : Addr} {q : SD} {od : Obj} {ns : List Nd} {y : Str} {t : Tok} {Q : VP} :
  (hK w.params).In g → ∀ (C : Fm w A env g base outer nm G) (S : Stt s0 g env.locals m (sLed x dx d q od ns ++ news) s) (hd : A.depth + 20 < recursionLimit)
  (hI : IsD PySem.Challenge.rw_rt0104_01.row.prog w od (kvsOf ns)) (lo : (d == sysModules) = false) (hv1 : q.v1 = .ref d) (hns : ns.length ≤ 900)
  (k : ∀ od' ns' a s', IsD PySem.Challenge.rw_rt0104_01.row.prog w od' (kvsOf ns') → (ns' = ns ∧ (∃ p ∈ ns, p.nm = y ∧ p.a = a) ∨ ∃ p : Nd, (∀ r ∈ ns, r.nm ≠ y) ∧ ns' = ns ++ [p] ∧ p.nm = y ∧ p.a = a ∧ p.np = 0 ∧ p.ss = [] ∧ p.sv = []) →
   Stt s0 g env.locals m (sLed x dx d q od' ns' ++ news) s' → Q (.ref a) s'), WP (model PySem.Challenge.rw_rt0104_01.row.prog w) A (call (.ref 80) [.ref x, .str y t]) Q E s := by
 k_fill
 intro X C S hd hI lo hv1 hns k
 obtain ⟨h1, h2, h3, h4, t1, t2, t3, t4, v1, v2, v3, v4⟩ := q
 dsimp only at hv1
 subst hv1
 refine q_def C (sub := sLed x dx d _ od ns) S ["self", "node", "result"] [.ref x, .str y t] [some (.ref x), some (.str y t), none] [("_NodeInfo", .ref 40)] (by k_is) (by k_is) (by lia) (BindsTo.of_eq rfl) (Nat.le_of_ble_eq_true rfl) rfl (by decide +kernel) (by decide +kernel) rfl rfl rfl ?_
 intro g' env' s_1 hx hx' C' S_1
 have hD : (A.deeper env').depth = A.depth + 1 := rfl
 refine q_cons <| q_if <| q_tcmp <| q_walrus <| q_dget <| q_attr <| q_name C' S_1 (by walk_at "lk") <| q_getD C' S_1 (instAt S_1 (.head _) (.tail _ (.head _))) (attr := none) (by k_is) (by k_is) (by k_is) (by k_is) rfl rfl fun s_2 S_2 _ =>
  ⟨d, rfl, lo, ⟨_, dictAt S_2 (.tail _ (.tail _ (.head _))) hI⟩, q_name C' S_2 (by walk_at "lk") ⟨_, _, _, _, _, _, _, _, _, rfl, S_2, .tail _ (.tail _ (.head _)), hI, fun s3 S_3 _ => q_store C' S_3 (by walk_at "up") fun s4 S4 => q_cnone <| q_isnone <| q_tbool ?_⟩⟩
 cases hv : valueAt (kvsOf ns) y with
 | some v =>
  obtain ⟨p, hp, hpn, rfl⟩ := valueAt_kvs hv
  rw [hv] at S4
  rw [show ((some (Value.ref p.a)).getD Value.none == Value.none) = false by rfl, if_neg Bool.false_ne_true]
  exact q_nil <| q_cons <| q_ret <| q_name C' S4 (.tail (.tail .head)) ⟨_, _, S4, fun S5 => k od ns p.a _ hI (.inl ⟨rfl, p, hp, hpn, rfl⟩) S5⟩
 | none =>
  have hno := valueAt_none hv
  rw [show ((none : Option Value).getD Value.none == Value.none) = true by rfl, if_pos rfl]
  refine q_cons <| q_assignSN <| q_call <| q_glob C' S4 (by walk_at "mem") <| q_cwK C' S4 (by k_is) <| q_ic <| q_name C' S4 (by walk_at "lk") <| q_i0 ⟨⟨_, _, _, S4⟩, info_spec C'.X C' S4 (by with_reducible exact n35 (by assumption) (by assumption) (by decide)) fun a dxx l tp s5 S5 => ?_⟩
  refine q_attr <| q_name C' S5 (by walk_at "lk") <| q_getD C' S5 (instAt S5 (.tail _ (.tail _ (.tail _ (.head _)))) (.tail _ (.tail _ (.tail _ (.tail _ (.head _)))))) (attr := none) (by k_is) (by k_is) (by k_is) (by k_is) rfl rfl fun s6 S6 _ => q_name C' S6 (by walk_at "lk") <| ?_
  replace S6 := S6.perm (List.perm_middle (l₁ := [_, _, _, _, _])).symm
  refine q_dset S6 hI (by unfold kvsOf; rw [List.length_map]; with_reducible exact Nat.le_trans (by assumption) (by decide)) fun od' s7 hI' S7 => q_store C' S7 (by walk_at "up") fun s8 S8 => ?_
  rw [stored_new hno] at hI'
  refine q_nil <| q_cons <| q_ret <| q_name C' S8 (by walk_at "lk") ⟨_, sLed x dx d _ od' (ns ++ [⟨y, a, dxx, l, t, tp, 0, [], [], 0⟩]), S8.perm ?_, fun S9 => k od' _ a _ (by unfold kvsOf; rw [List.map_append]; exact hI') (.inr ⟨_, hno, rfl, rfl, rfl, rfl, rfl, rfl⟩) S9⟩
  refine (List.perm_middle (l₁ := [_, _])).trans (.cons _ ?_)
  rw [show ndsLed (ns ++ [⟨y, a, dxx, l, t, tp, 0, [], [], 0⟩]) = ndsLed ns ++ Nd.led ⟨y, a, dxx, l, t, tp, 0, [], [], 0⟩ by unfold ndsLed; rw [List.flatMap_append]; simp]
  exact List.perm_append_comm (l₁ := _ :: _ :: ndsLed ns)
noncomputable abbrev AG := List (Str × Int × List Str)
noncomputable def absN (q : Nd) : Str × Int × List Str := (q.nm, q.np, q.ss)
noncomputable def absG (ns : List Nd) : AG := ns.map absN
noncomputable def hasG (G : AG) (y : Str) : Bool := G.any fun p => p.1 == y
noncomputable def ensure (G : AG) (y : Str) : AG := if hasG G y then G else G ++ [(y, 0, [])]
noncomputable def addNp (G : AG) (y : Str) (k : Int) : AG := G.map fun p => if p.1 = y then (p.1, p.2.1 + k, p.2.2) else p
noncomputable def addSucc (G : AG) (p y : Str) : AG := G.map fun r => if r.1 = p then (r.1, r.2.1, r.2.2 ++ [y]) else r
noncomputable def addG (G : AG) (y : Str) (ps : List Str) : AG := ps.foldl (fun G p => addSucc (ensure G p) p y) (addNp (ensure G y) y ps.length)
noncomputable def NdOk (b : Nat) (q : Nd) : Prop := All2 Vs q.sv q.ss ∧ q.ss.length ≤ b
theorem ensure_of {ns ns' : List Nd} {y : Str} {a : Addr} (h : ns' = ns ∧ (∃ p ∈ ns, p.nm = y ∧ p.a = a) ∨ ∃ p : Nd, (∀ r ∈ ns, r.nm ≠ y) ∧ ns' = ns ++ [p] ∧ p.nm = y ∧ p.a = a ∧ p.np = 0 ∧ p.ss = [] ∧ p.sv = []) :
  absG ns' = ensure (absG ns) y ∧ (∃ p ∈ ns', p.nm = y ∧ p.a = a) ∧ (∀ b, (∀ q ∈ ns, NdOk b q) → ∀ q ∈ ns', NdOk b q) ∧ ns'.length ≤ ns.length + 1 := by
 rcases h with ⟨rfl, p, hp, h1, h2⟩ | ⟨p, hno, rfl, h1, h2, h3, h4, h5⟩
 ·refine ⟨?_, ⟨p, hp, h1, h2⟩, fun b h => h, by lia⟩
  unfold ensure
  rw [if_pos]
  unfold hasG absG
  rw [List.any_map, List.any_eq_true]
  exact ⟨p, hp, by simpa [absN] using h1⟩
 ·refine ⟨?_, ⟨p, by simp, h1, h2⟩, fun b h q hq => ?_, by simp⟩
  ·unfold ensure
   rw [if_neg]
   ·unfold absG
    rw [List.map_append]
    simp [absN, h1, h3, h4]
   ·unfold hasG absG
    rw [List.any_map]
    simp only [List.any_eq_true, not_exists, not_and]
    intro r hr
    simpa [absN] using hno r hr
  ·rcases List.mem_append.mp hq with hq | hq
   ·exact h q hq
   ·rw [List.mem_singleton.mp hq]; unfold NdOk; rw [h4, h5]; exact ⟨.nil, Nat.zero_le _⟩
theorem ndsLed_mid (pre : List Nd) (q : Nd) (post : List Nd) : ndsLed (pre ++ q :: post) = ndsLed pre ++ (q.led ++ ndsLed post) := by
 unfold ndsLed; rw [List.flatMap_append, List.flatMap_cons]
theorem swapQ {α : Type} {T N E : List α} : (T ++ (N ++ E)).Perm (N ++ (T ++ E)) := by
 rw [← List.append_assoc, ← List.append_assoc]; exact List.perm_append_comm.append_right _
theorem sLed_out {x dx d : Addr} {q : SD} {od : Obj} {pre post : List Nd} {p : Nd} {r : LD} :
  (sLed x dx d q od (pre ++ p :: post) ++ r).Perm (p.led ++ ((x, sortObj dx) :: (dx, dictOf (SD.es q) 4) :: (d, od) :: (ndsLed pre ++ ndsLed post)) ++ r) := by
 refine List.Perm.append_right _ ?_
 show ((x, sortObj dx) :: (dx, dictOf (SD.es q) 4) :: (d, od) :: ndsLed (pre ++ p :: post)).Perm _
 rw [ndsLed_mid]
 exact swapQ (T := (x, sortObj dx) :: (dx, dictOf (SD.es q) 4) :: (d, od) :: ndsLed pre) (N := p.led) (E := ndsLed post)
theorem abs_mid {pre post : List Nd} {p : Nd} (nd : ((pre ++ p :: post).map Nd.nm).Nodup) (f : Str × Int × List Str → Str × Int × List Str) (p' : Nd) (hp : absN p' = f (absN p)) :
  absG (pre ++ p' :: post) = (absG (pre ++ p :: post)).map fun r => if r.1 = p.nm then f r else r := by
 unfold absG
 rw [List.map_append, List.map_cons, List.map_append, List.map_cons, List.map_append, List.map_cons]
 simp only [List.map_append, List.map_cons, List.nodup_append, List.nodup_cons] at nd
 have off : ∀ l : List Nd, (∀ r ∈ l, r.nm ≠ p.nm) → List.map (fun r => if r.1 = p.nm then f r else r) (List.map absN l) = List.map absN l := by
  intro l h
  rw [List.map_map]
  refine List.map_congr_left fun r hr => ?_
  show (if (absN r).1 = p.nm then _ else _) = _
  rw [if_neg (by show r.nm ≠ _; exact h r hr)]
 rw [off pre (fun r hr e => nd.2.2 r.nm (List.mem_map_of_mem hr) p.nm (.head _) e), off post (fun r hr e => nd.2.1.1 (e ▸ List.mem_map_of_mem hr)), hp]
 show _ = _ ++ (if (absN p).1 = p.nm then f (absN p) else absN p) :: _
 rw [if_pos (show (absN p).1 = p.nm from rfl)]
section
variable {prog : Program} {w : World} {A : Around} {env : Env} {g : Heap} {E : VP} {s0 s : Shared} {L : Addr} {m : SM} {news : LD}
theorem q_lenT (S : Stt s0 g L m news s) {l : Addr} {vs : List Value} {Q : VP} (hl : s.heap.get? l = some (tupObj vs)) (hsz : vs.length < 2 ^ 62)
  (h : ∀ t s', Stt s0 g L m news s' → Q (.int (vs.length : Nat) t) s') : WP (model prog w) A (call (.builtin "len") [.ref l]) Q E s :=
 ⟨len_tuple (items := vs.toArray) ⟨_, hl, rfl, _, rfl⟩ (by simp only [List.size_toArray]; lia) (by
  have := h (s.toks + 1) _ (S.tok (s.toks + 1 + 1))
  simpa using this)⟩
end
theorem add_specK {w : World} {A : Around} {env : Env} {g base : Heap} {outer : List Env} {nm : List Str} {G : SV} {s0 s : Shared} {m : SM} {news : LD}
  {E : VP} {x dx d : Addr} {q : SD} {od : Obj} {ns : List Nd} {y : Str} {t : Tok} {pvs : List Value} {ps : List Str} {Q : VP} :
  (hK w.params).In g → ∀ (C : Fm w A env g base outer nm G) (S : Stt s0 g env.locals m (sLed x dx d q od ns ++ news) s) (hd : A.depth + 30 < recursionLimit)
  (hI : IsD PySem.Challenge.rw_rt0104_01.row.prog w od (kvsOf ns)) (lo : (d == sysModules) = false) (hv1 : q.v1 = .ref d) (hv2 : q.v2 = .none) (hns : ns.length ≤ 100) {b : Nat} (hb : b ≤ 900) (hok : ∀ p ∈ ns, NdOk b p) (hp : All2 Vs pvs ps) (hpl : pvs.length ≤ 6)
  (k : ∀ od' ns' s', IsD PySem.Challenge.rw_rt0104_01.row.prog w od' (kvsOf ns') → absG ns' = addG (absG ns) y ps → (∀ p ∈ ns', NdOk (b + ps.length) p) → ns'.length ≤ ns.length + 1 + ps.length →
   Stt s0 g env.locals m (sLed x dx d q od' ns' ++ news) s' → Q .none s'), codeAny (model PySem.Challenge.rw_rt0104_01.row.prog w) A (.call (.ref 87) ⟨.ref x :: .str y t :: pvs, []⟩) (rets Q E) s := by
 k_fill
 intro X C S hd hI lo hv1 hv2 hns b hb hok hp hpl k
 refine q_defGK C (sub := (s.heap.objs.size, tupObj pvs) :: sLed x dx d q od ns) (z := { s with heap := s.heap.push (tupObj pvs) }) (S.push _ s.toks) S.fr.keep ["self", "node", "predecessors", "nodeinfo", "pred", "pred_info"] [.ref x, .str y t, .ref s.heap.objs.size] [some (.ref x), some (.str y t), some (.ref s.heap.objs.size), none, none, none] [("len", .builtin "len")]
  [("self", .ref x), ("node", .str y t), ("predecessors", .ref s.heap.objs.size)] [] (fun _ => []) (by k_is) (by k_is) (by lia) (fun M A E Q hq => ?_) (Nat.le_of_ble_eq_true rfl) rfl rfl rfl (by decide +kernel) (fun z => rfl) (by decide) rfl (fun z x hx => .inl (by
   rcases List.mem_cons.mp hx with rfl | hx
   ·exact rfl
   ·rcases List.mem_cons.mp hx with rfl | hx
    ·exact rfl
    ·rw [List.mem_singleton.mp hx]; exact rfl)) rfl rfl rfl ?_
 ·have key : wpAny M A (alloc (tupObj pvs) >>= fun D => pure [(("self" : Str), Value.ref x), (("node" : Str), Value.str y t), (("predecessors" : Str), Value.ref D)]) Q E s := wpAny_bind (wpAny_alloc (wpAny_pure hq))
  rcases pvs with _ | ⟨a1, _ | ⟨a2, _ | ⟨a3, _ | ⟨a4, _ | ⟨a5, _ | ⟨a6, _ | ⟨a7, r⟩⟩⟩⟩⟩⟩⟩
  ·exact key
  ·exact key
  ·exact key
  ·exact key
  ·exact key
  ·exact key
  ·exact key
  ·simp at hpl
 intro g' n env' s_1 cells hx hx' C' _ _ Y S_1
 refine q_abs fun PR hR => ?_
 obtain rfl : cells = [] := by cases Y; rfl
 generalize s.heap.objs.size = pt at *
 generalize ({ s with heap := s.heap.push (tupObj pvs) } : Shared) = z at *
 obtain ⟨h1, h2, h3, h4, t1, t2, t3, t4, v1, v2, v3, v4⟩ := q
 dsimp only at hv1 hv2
 subst hv1 hv2
 have hD : (A.deeper env').depth = A.depth + 1 := rfl
 generalize hqq : (⟨h1, h2, h3, h4, t1, t2, t3, t4, .ref d, .none, v3, v4⟩ : SD) = q at *
 have hq1 : q.v1 = .ref d := by rw [← hqq]
 have hq2 : getL "_ready_nodes" (SD.es q) = some (some .none) := by rw [← hqq]; rfl
 have hq3 : getL "_get_nodeinfo" (SD.es q) = some none := by rw [← hqq]; rfl
 replace S_1 : Stt z g' env'.locals (lcs ["self", "node", "predecessors", "nodeinfo", "pred", "pred_info"] [some (.ref x), some (.str y t), some (.ref pt), none, none, none]) ((pt, tupObj pvs) :: sLed x dx d q od ns) s_1 := S_1
 replace S_1 := S_1.perm (news' := sLed x dx d q od ns ++ [(pt, tupObj pvs)]) (List.perm_append_comm (l₂ := [_]))
 refine q_cons <| q_if <| q_tcmp <| q_attr <| q_name C' S_1 (by walk_at "lk") <| q_getD C' S_1 (instAt S_1 (.head _) (.tail _ (.head _))) (attr := none) (by k_is) (by k_is) (by k_is) (by k_is) hq2 rfl fun s_2 S_2 _ => q_cnone <| q_isnotnone <| q_tbool ?_
 rw [show (!(Value.none == Value.none)) = false by rfl, if_neg Bool.false_ne_true]
 refine q_nil ?_
 refine q_cons <| q_assign <| q_mcall <| q_name C' S_2 (by walk_at "lk") <| q_getM C' S_2 (f := 80) (instAt S_2 (.head _) (.tail _ (.head _))) (by k_is) (by k_is) (by k_is) hq3 <| q_cwK C' S_2 (by k_is) <| q_ic <| q_name C' S_2 (by walk_at "lk") <| q_i0 ⟨⟨_, _, _, S_2⟩, getinfo_spec C'.X C' S_2 (by with_reducible exact n35 (by assumption) (by assumption) (by decide)) hI lo hq1 (by with_reducible exact Nat.le_trans (by assumption) (by decide)) fun od1 ns1 a_1 s3 hI1 he1 S_3 => q_store C' S_3 (by walk_at "up") fun s4 S4 => ?_⟩
 obtain ⟨hG1, ⟨p_1, hp_1, hpn1, rfl⟩, hok1, hlen1⟩ := ensure_of he1
 obtain ⟨pre, post, rfl⟩ := List.append_of_mem hp_1
 replace S4 := S4.perm sLed_out.symm
 replace S4 : Stt z g' env'.locals (lcs ["self", "node", "predecessors", "nodeinfo", "pred", "pred_info"] [some (.ref x), some (.str y t), some (.ref pt), some (.ref p_1.a), none, none]) ((p_1.a, infoObj p_1.dx (.str p_1.nm p_1.t) (.int p_1.np p_1.tp) (.ref p_1.l)) :: (p_1.dx, dictOf [] 0) :: (p_1.l, W.listOf p_1.sv.toArray p_1.ln) :: (x, sortObj dx) :: (dx, dictOf (SD.es q) 4) :: (d, od1) :: ((ndsLed pre ++ ndsLed post) ++ [(pt, tupObj pvs)])) s4 := S4
 refine q_cons <| q_augattr <| q_name C' S4 (by walk_at "lk") <| q_getS C' S4 (p := 42) (i := 1) (instAt S4 (.head _) (.tail _ (.head _))) (by k_is) (by k_is) (by k_is) (by k_is) (by k_is) (by k_is) rfl rfl fun s5 S5 _ =>
  q_call <| q_glob C' S5 (by walk_at "mem") <| q_cwB <| q_ic <| q_name C' S5 (by walk_at "lk") <| q_i0 <| q_lenT S5 (vs := pvs) (S5.get (by simp)) (by with_reducible exact Nat.lt_of_le_of_lt (by assumption) (by decide)) fun t6 s6 S6 => q_iadd S6 fun t7 s7 S7 =>
  q_setS C' S7 (p := 42) (i := 1) (ox' := infoObj p_1.dx (.str p_1.nm p_1.t) (.int (p_1.np + (pvs.length : Nat)) t7) (.ref p_1.l)) (instAt S7 (.head _) (.tail _ (.head _))) (by k_is) (by k_is) (by k_is) (by k_is) (by k_is) (by decide) (by with_unfolding_all rfl) rfl .head fun s8 S8 => ?_
 have hkv : ∀ (p : Nd), p.nm = p_1.nm → p.a = p_1.a → kvsOf (pre ++ p :: post) = kvsOf (pre ++ p_1 :: post) := fun p h1 h2 => by unfold kvsOf; simp [h1, h2]
 have hnd : ((pre ++ p_1 :: post).map Nd.nm).Nodup := by
  obtain ⟨es, ep, _, _, _, _, nd⟩ := hI1
  unfold kvsOf at nd
  rwa [List.map_map] at nd
 obtain ⟨p_2, hp_2⟩ : ∃ p : Nd, p = { p_1 with np := p_1.np + (pvs.length : Nat), tp := t7 } := ⟨_, rfl⟩
 have hI2 : IsD PySem.Challenge.rw_rt0104_01.row.prog w od1 (kvsOf (pre ++ p_2 :: post)) := by rw [hkv p_2 (by rw [hp_2]) (by rw [hp_2])]; exact hI1
 have hG2 : absG (pre ++ p_2 :: post) = addNp (ensure (absG ns) y) y ps.length := by
  rw [abs_mid hnd (fun r => (r.1, r.2.1 + (ps.length : Nat), r.2.2)) p_2 (by rw [hp_2]; unfold absN; rw [hp.length]), hG1, hpn1]; rfl
 have hok2 : ∀ p ∈ pre ++ p_2 :: post, NdOk b p := fun p hpm => by
  have := hok1 b hok
  rcases List.mem_append.mp hpm with h | h
  ·exact this p (List.mem_append_left _ h)
  ·rcases List.mem_cons.mp h with rfl | h
   ·have := this p_1 (by simp); rw [hp_2]; exact this
   ·exact this p (List.mem_append_right _ (.tail _ h))
 have hlen2 : (pre ++ p_2 :: post).length ≤ ns.length + 1 := by simpa using hlen1
 replace S8 := S8.perm (news' := sLed x dx d q od1 (pre ++ p_2 :: post) ++ [(pt, tupObj pvs)]) (by
  have := sLed_out (x := x) (dx := dx) (d := d) (q := q) (od := od1) (pre := pre) (post := post) (p := p_2) (r := [(pt, tupObj pvs)])
  rw [hp_2] at this ⊢
  exact this)
 generalize hn2 : pre ++ p_2 :: post = ns2 at *
 refine q_cons <| q_forT C' (by walk_at "mem") <| q_name C' S8 (by walk_at "lk") ⟨z, pt, tupObj pvs, pvs, fun i m r => Ex4 fun od ns' u4 u5 => An6 (r = sLed x dx d q od ns' ++ [(pt, tupObj pvs)]) (IsD PySem.Challenge.rw_rt0104_01.row.prog w od (kvsOf ns')) (absG ns' = (ps.take i).foldl (fun G p => addSucc (ensure G p) p y) (addNp (ensure (absG ns) y) y ps.length)) (∀ p ∈ ns', NdOk (b + i) p) (ns'.length ≤ ns.length + 1 + i) (m = lcs ["self", "node", "predecessors", "nodeinfo", "pred", "pred_info"] [some (.ref x), some (.str y t), some (.ref pt), some (.ref p_1.a), u4, u5]), _, _, rfl, rfl, ⟨_, rfl⟩, S8, .inr ?_, ?_, ?_, ?_⟩
 ·rintro i m r ⟨od, ns', u4, u5, rfl, _⟩; simp
 ·exact ⟨od1, ns2, none, none, rfl, hI2, by rw [List.take_zero, List.foldl_nil, hG2], by simpa using hok2, by with_reducible assumption, rfl⟩
 ·rintro i v m1 r_1 I it s9 hv hJJ S9
  refine q_abs fun PL hL => ?_
  obtain ⟨od, ns', u4, u5, rfl, hI', hG', hok', hl', rfl⟩ := hJJ
  obtain ⟨p, hpi, tp, rfl⟩ := hp.get' hv
  have hilt : i < pvs.length := (List.getElem?_eq_some_iff.mp hv).1
  rw [(show Up "pred" (some (.str p tp)) ["self", "node", "predecessors", "nodeinfo", "pred", "pred_info"] _ [some (.ref x), some (.str y t), some (.ref pt), some (.ref p_1.a), some (.str p tp), u5] by walk_at "up").eq C'.nd] at S9
  replace S9 := S9.perm (news' := sLed x dx d q od ns' ++ (I, it) :: [(pt, tupObj pvs)]) List.perm_middle
  refine q_cons <| q_assign <| q_mcall <| q_name C' S9 (by walk_at "lk") <| q_getM C' S9 (f := 80) (instAt S9 (.head _) (.tail _ (.head _))) (by k_is) (by k_is) (by k_is) hq3 <| q_cwK C' S9 (by k_is) <| q_ic <| q_name C' S9 (by walk_at "lk") <| q_i0 ⟨⟨_, _, _, S9⟩, getinfo_spec C'.X C' S9 (by with_reducible exact n35 (by assumption) (by assumption) (by decide)) hI' lo hq1 (by lia) fun od3 ns3 a_3 s10 hI3 he3 S10 => q_store C' S10 (by walk_at "up") fun s11 S11 => ?_⟩
  obtain ⟨hG3, ⟨p_3, hp3, hpn3, rfl⟩, hok3, hlen3⟩ := ensure_of he3
  replace hok3 := hok3 _ hok'
  obtain ⟨pre3, post3, rfl⟩ := List.append_of_mem hp3
  have hpok := hok3 p_3 (by simp)
  have hpl3 := hpok.1.length
  replace S11 := S11.perm sLed_out.symm
  replace S11 : Stt z g' env'.locals (lcs ["self", "node", "predecessors", "nodeinfo", "pred", "pred_info"] [some (.ref x), some (.str y t), some (.ref pt), some (.ref p_1.a), some (.str p tp), some (.ref p_3.a)]) ((p_3.a, infoObj p_3.dx (.str p_3.nm p_3.t) (.int p_3.np p_3.tp) (.ref p_3.l)) :: (p_3.dx, dictOf [] 0) :: (p_3.l, W.listOf p_3.sv.toArray p_3.ln) :: (x, sortObj dx) :: (dx, dictOf (SD.es q) 4) :: (d, od3) :: ((ndsLed pre3 ++ ndsLed post3) ++ (I, it) :: [(pt, tupObj pvs)])) s11 := S11
  refine q_cons <| q_expr C' <| q_append <| q_attr <| q_name C' S11 (by walk_at "lk") <| q_getS C' S11 (p := 43) (i := 2) (instAt S11 (.head _) (.tail _ (.head _))) (by k_is) (by k_is) (by k_is) (by k_is) (by k_is) (by k_is) rfl rfl fun s12 S12 _ =>
   ⟨p_3.l, _, p_3.ln, rfl, S12.get (.tail _ (.tail _ (.head _))), q_name C' S12 (by walk_at "lk") ⟨_, _, _, _, p_3.sv, p_3.ln, _, S12, by have := hpok.2; have := hp.length; lia, S12.get (.tail _ (.tail _ (.head _))), .tail (.tail .head), fun s13 S13 => ?_⟩⟩
  obtain ⟨p_4, hp4⟩ : ∃ q : Nd, q = { p_3 with sv := p_3.sv ++ [.str y t], ss := p_3.ss ++ [y], ln := p_3.ln + 1 } := ⟨_, rfl⟩
  have hnd3 : ((pre3 ++ p_3 :: post3).map Nd.nm).Nodup := by
   obtain ⟨es, ep, _, _, _, _, nd⟩ := hI3
   unfold kvsOf at nd
   rwa [List.map_map] at nd
  have hkv3 : kvsOf (pre3 ++ p_4 :: post3) = kvsOf (pre3 ++ p_3 :: post3) := by unfold kvsOf; simp [hp4]
  refine q_nil <| hL _ _ ⟨_, _, (S13.perm (news' := sLed x dx d q od3 (pre3 ++ p_4 :: post3) ++ (I, it) :: [(pt, tupObj pvs)]) ?_).perm List.perm_middle.symm, od3, pre3 ++ p_4 :: post3, _, _, rfl, by rw [hkv3]; exact hI3, ?_, ?_, ?_, rfl⟩
  ·have := sLed_out (x := x) (dx := dx) (d := d) (q := q) (od := od3) (pre := pre3) (post := post3) (p := p_4) (r := (I, it) :: [(pt, tupObj pvs)])
   rw [hp4] at this ⊢
   exact this
  ·rw [abs_mid hnd3 (fun r => (r.1, r.2.1, r.2.2 ++ [y])) p_4 (by rw [hp4]; rfl), hG3, hpn3, List.take_add_one, hpi, hG', List.foldl_append]; rfl
  ·intro r hr
   rcases List.mem_append.mp hr with h | h
   ·exact ⟨(hok3 r (List.mem_append_left _ h)).1, by have := (hok3 r (List.mem_append_left _ h)).2; lia⟩
   ·rcases List.mem_cons.mp h with rfl | h
    ·rw [hp4]
     exact ⟨hpok.1.snoc ⟨t, rfl⟩, by simp; have := hpok.2; lia⟩
    ·exact ⟨(hok3 r (List.mem_append_right _ (.tail _ h))).1, by have := (hok3 r (List.mem_append_right _ (.tail _ h))).2; lia⟩
  ·have e : (pre3 ++ p_4 :: post3).length = (pre3 ++ p_3 :: post3).length := by simp
   lia
 ·rintro m1 r_1 s9 ⟨od, ns', u4, u5, rfl, hI', hG', hok', hl', rfl⟩ S9
  rw [hp.length] at hG' hok' hl'
  rw [List.take_length] at hG'
  exact q_nil <| hR _ _ ⟨_, sLed x dx d q od ns', S9.sub (List.sublist_append_left _ _), fun S10 => k od ns' _ hI' hG' hok' hl' S10⟩
theorem instAtH {h : Heap} {x C dx : Addr} {od : Obj} {sl : Array (Option Value)} (h1 : h.get? x = some (⟨.ref C, some dx, .plain, sl⟩ : Obj)) (h2 : h.get? dx = some od) : InstAt h x ⟨.ref C, some dx, .plain, sl⟩ C (some od) := ⟨h1, rfl, rfl, h2⟩
theorem meets_bool_list (l : Addr) (vs : List Value) : Meets (Builtin.«bool.__new__» ⟨[.type "bool", .ref l], []⟩) (fun A R s => s.heap.IsList l vs.toArray ∧ vs.length ≤ 1000 ∧ ∀ tk, R (.ok (.ret (.bool (!vs.isEmpty)))) { s with toks := tk }) :=
 Meets.of_wp fun prog w A R s hs => by
  obtain ⟨hp, g, d, tk, os⟩ := s
  obtain ⟨hl, hz, hr⟩ := hs
  have f1 := F.conv_sub_bool
  have key : ∀ {A' : Around} {Q : Bool → Shared → Prop} {E : VP}, Q (!vs.isEmpty) ⟨hp, g, d, tk + 1 + 1, os⟩ → wpAny (model prog w) A' (truthy (.ref l)) Q E ⟨hp, g, d, tk, os⟩ := fun {A' Q E} q =>
   wpAny_truthy_list hl (by simp only [List.size_toArray]; with_reducible exact n40 (by assumption) (by decide)) (by simpa using q)
  repeat (any_goals (first | assumption | (refine key ?_) | wp_step))
  all_goals first | exact ⟨_, rfl, hr _⟩ | skip
theorem active_spec {w : World} {A : Around} {env : Env} {g base : Heap} {outer : List Env} {nm : List Str} {G : SV} {s0 s : Shared} {m : SM} {news : LD}
  {E : VP} {x dx rl : Addr} {q : SD} {rv : List Value} {rn : Nat} {po nf : Int} {t3 t4 : Tok} {Q : VP} :
  (hK w.params).In g → ∀ (C : Fm w A env g base outer nm G) (S : Stt s0 g env.locals m news s) (hd : A.depth + 20 < recursionLimit)
  (hx : s.heap.get? x = some (sortObj dx)) (hdx : s.heap.get? dx = some (dictOf (SD.es q) 4)) (hr : s.heap.get? rl = some (W.listOf rv.toArray rn)) (h2 : q.v2 = .ref rl) (h3 : q.v3 = .int po t3) (h4 : q.v4 = .int nf t4) (hrl : rv.length ≤ 100) (he : nf = po)
  (k : ∀ s', Stt s0 g env.locals m news s' → Q (.bool (!rv.isEmpty)) s'), WP (model PySem.Challenge.rw_rt0104_01.row.prog w) A (call (.ref 106) [.ref x]) Q E s := by
 k_fill
 intro X C S hd hxo hdx hr h2 h3 h4 hrl he k
 have e2 : getL "_ready_nodes" (SD.es q) = some (some (.ref rl)) := by rw [← h2]; rfl
 have e3 : getL "_npassedout" (SD.es q) = some (some (.int po t3)) := by rw [← h3]; rfl
 have e4 : getL "_nfinished" (SD.es q) = some (some (.int nf t4)) := by rw [← h4]; rfl
 refine q_def C (sub := []) S ["self"] [.ref x] [some (.ref x)] [("bool", .type "bool")] (by k_is) (by k_is) (by lia) (BindsTo.of_eq rfl) (Nat.le_of_ble_eq_true rfl) rfl (by decide +kernel) (by decide +kernel) rfl rfl rfl ?_
 intro g' env' s_1 hx hx' C' S_1
 have I := fun {s_2 : Shared} {m2 n_2} (S : Stt s g' env'.locals m2 n_2 s_2) => instAtH (S.base (hx _ _ hxo (by simp))) (S.base (hx _ _ hdx (by simp)))
 refine q_cons <| q_if <| q_tcmp <| q_attr <| q_name C' S_1 (by walk_at "lk") <| q_getD C' S_1 (I S_1) (attr := none) (by k_is) (by k_is) (by k_is) (by k_is) e2 rfl fun s_2 S_2 _ => q_cnone <| q_isnone <| q_tbool ?_
 rw [show (Value.ref rl == Value.none) = false by rfl, if_neg Bool.false_ne_true]
 refine q_nil ?_
 refine q_cons <| q_ret <| q_or2 <| q_cmp <| q_attr <| q_name C' S_2 (by walk_at "lk") <| q_getD C' S_2 (I S_2) (attr := none) (by k_is) (by k_is) (by k_is) (by k_is) e4 rfl fun s3 S_3 _ => q_attr <| q_name C' S_3 (by walk_at "lk") <| q_getD C' S_3 (I S_3) (attr := none) (by k_is) (by k_is) (by k_is) (by k_is) e3 rfl fun s4 S4 _ => q_lti <| q_tbool ?_
 rw [show decide (nf < po) = false by simp; lia, if_neg Bool.false_ne_true]
 refine q_call <| q_glob C' S4 (by walk_at "mem") <| q_cwT <| q_ic <| q_attr <| q_name C' S4 (by walk_at "lk") <| q_getD C' S4 (I S4) (attr := none) (by k_is) (by k_is) (by k_is) (by k_is) e2 rfl fun s5 S5 _ => q_i0 <| ?_
 refine ⟨call_bool_1 (meets_bool_list rl rv) ⟨isL (S5.base (hx _ _ hr (by simp))), by with_reducible exact Nat.le_trans (by assumption) (by decide), fun tk => ?_⟩⟩
 exact ⟨rfl, ⟨_, [], S5.tok tk, fun S6 => k _ S6⟩⟩
noncomputable abbrev NP := Str → Int × Tok
noncomputable def NP.put (F : NP) (y : Str) (v : Int × Tok) : NP := fun z => if z = y then v else F z
noncomputable def reNp (ns : List Nd) (F : NP) : List Nd := ns.map fun p => { p with np := (F p.nm).1, tp := (F p.nm).2 }
theorem reNp_cons (p : Nd) (ns : List Nd) (F : NP) : reNp (p :: ns) F = { p with np := (F p.nm).1, tp := (F p.nm).2 } :: reNp ns F := rfl
theorem ndsLed_cons (p : Nd) (ns : List Nd) : ndsLed (p :: ns) = p.led ++ ndsLed ns := List.flatMap_cons
theorem reNp_off {ns : List Nd} {F : NP} {y : Str} {v : Int × Tok} (h : y ∉ ns.map Nd.nm) : reNp ns (F.put y v) = reNp ns F := by
 unfold reNp
 refine List.map_congr_left fun p hp => ?_
 have : p.nm ≠ y := fun e => h (e ▸ List.mem_map_of_mem hp)
 simp [NP.put, this]
noncomputable abbrev ndObj (p : Nd) (v : Int × Tok) : Obj := infoObj p.dx (.str p.nm p.t) (.int v.1 v.2) (.ref p.l)
theorem chNp {F : NP} {v : Int × Tok} {p : Nd} : ∀ {ns : List Nd}, (ns.map Nd.nm).Nodup → p ∈ ns → Ch p.a (ndObj p (F p.nm)) (ndObj p v) (ndsLed (reNp ns F)) (ndsLed (reNp ns (F.put p.nm v)))
 | q :: ns, nd, h => by
  simp only [List.map_cons, List.nodup_cons] at nd
  rw [reNp_cons, reNp_cons, ndsLed_cons, ndsLed_cons]
  rcases List.mem_cons.mp h with rfl | h
  ·rw [reNp_off nd.1]
   simp only [NP.put, if_true]
   exact .head
  ·have : q.nm ≠ p.nm := fun e => nd.1 (e ▸ List.mem_map_of_mem h)
   simp only [NP.put, if_neg this]
   exact .tail (.tail (.tail (chNp nd.2 h)))
theorem nd_mem {F : NP} {p : Nd} : ∀ {ns : List Nd}, p ∈ ns → (p.a, ndObj p (F p.nm)) ∈ ndsLed (reNp ns F) ∧ (p.dx, dictOf [] 0) ∈ ndsLed (reNp ns F) ∧ (p.l, W.listOf p.sv.toArray p.ln) ∈ ndsLed (reNp ns F)
 | q :: ns, h => by
  rw [reNp_cons, ndsLed_cons]
  rcases List.mem_cons.mp h with rfl | h
  ·exact ⟨by simp, by simp, by simp⟩
  ·have := nd_mem (F := F) h
   exact ⟨List.mem_append_right _ this.1, List.mem_append_right _ this.2.1, List.mem_append_right _ this.2.2⟩
theorem reNp_self : ∀ {ns : List Nd}, (ns.map Nd.nm).Nodup → ∃ F : NP, reNp ns F = ns ∧ ∀ p ∈ ns, F p.nm = (p.np, p.tp)
 | [], _ => ⟨fun _ => (0, 0), rfl, by simp⟩
 | q :: ns, nd => by
  simp only [List.map_cons, List.nodup_cons] at nd
  obtain ⟨F, h1, h2⟩ := reNp_self nd.2
  refine ⟨F.put q.nm (q.np, q.tp), ?_, fun p hp => ?_⟩
  ·rw [reNp_cons, reNp_off nd.1, h1]
   simp [NP.put]
  ·rcases List.mem_cons.mp hp with rfl | hp
   ·simp [NP.put]
   ·have : p.nm ≠ q.nm := fun e => nd.1 (e ▸ List.mem_map_of_mem hp)
    simp [NP.put, this, h2 p hp]
theorem valueAt_nd {ns : List Nd} {p : Nd} (nd : (ns.map Nd.nm).Nodup) (h : p ∈ ns) : valueAt (kvsOf ns) p.nm = some (.ref p.a) := by
 cases hv : valueAt (kvsOf ns) p.nm with
 | none => exact absurd rfl (valueAt_none hv p h)
 | some v =>
  obtain ⟨q, hq, e, rfl⟩ := valueAt_kvs hv
  have : ∀ {ns : List Nd}, (ns.map Nd.nm).Nodup → p ∈ ns → q ∈ ns → q = p := by
   intro ns nd hp hq
   induction ns with
   | nil => cases hp
   | cons r ns ih =>
    simp only [List.map_cons, List.nodup_cons] at nd
    rcases List.mem_cons.mp hp with h1 | h1 <;> rcases List.mem_cons.mp hq with h2 | h2
    ·rw [h1, h2]
    ·subst h1; exact absurd (e ▸ List.mem_map_of_mem h2) nd.1
    ·subst h2; exact absurd (e ▸ List.mem_map_of_mem h1) nd.1
    ·exact ih nd.2 h1 h2
  rw [this nd h hq]
section
variable {prog : Program} {w : World} {A : Around} {env : Env} {g : Heap} {E : VP} {s0 s : Shared} {L : Addr} {m : SM} {news : LD}
theorem q_tupleL (S : Stt s0 g L m news s) {l : Addr} {vs : List Value} {n : Nat} {Q : VP} (hl : s.heap.get? l = some (W.listOf vs.toArray n)) (hz : vs.length ≤ 1000)
  (h : ∀ t s', Stt s0 g L m ((t, tupObj vs) :: news) s' → Q (.ref t) s') : WP (model prog w) A (call (.type "tuple") [.ref l]) Q E s :=
 ⟨call_tuple_list (isL hl) (fun h' hk => h _ _ ((S.keeps s.toks hk).push _ s.toks)) (by simp only [List.size_toArray]; exact Nat.le_trans hz (by decide))⟩
end
theorem ready_spec {w : World} {A : Around} {env : Env} {g base : Heap} {outer : List Env} {nm : List Str} {G : SV} {s0 s : Shared} {m : SM} {news : LD}
  {E : VP} {x dx d rl : Addr} {q : SD} {od : Obj} {ns : List Nd} {F : NP} {rv : List Value} {rs : List Str} {rn : Nat} {po : Int} {t3 : Tok} {Q : VP} :
  (hK w.params).In g → ∀ (C : Fm w A env g base outer nm G) (S : Stt s0 g env.locals m (((rl, W.listOf rv.toArray rn) :: sLed x dx d q od (reNp ns F)) ++ news) s) (hd : A.depth + 20 < recursionLimit)
  (hI : IsD PySem.Challenge.rw_rt0104_01.row.prog w od (kvsOf ns)) (lo : (d == sysModules) = false) (h1 : q.v1 = .ref d) (h2 : q.v2 = .ref rl) (h3 : q.v3 = .int po t3) (hr : All2 Vs rv rs) (hrl : rv.length ≤ 100) (hrs : ∀ r ∈ rs, r ∈ ns.map Nd.nm)
  (k : ∀ tp t F' rn' s', (∀ y, (F' y).1 = if y ∈ rs then -1 else (F y).1) →
   Stt s0 g env.locals m (((tp, tupObj rv) :: (rl, W.listOf #[] rn') :: sLed x dx d { q with v3 := .int (po + (rv.length : Nat)) t } od (reNp ns F')) ++ news) s' → Q (.ref tp) s'), WP (model PySem.Challenge.rw_rt0104_01.row.prog w) A (call (.ref 99) [.ref x]) Q E s := by
 k_fill
 intro X C S hd hI lo h1 h2 h3 hr hrl hrs k
 have e1 : getL "_node2info" (SD.es q) = some (some (.ref d)) := by rw [← h1]; rfl
 have e2 : getL "_ready_nodes" (SD.es q) = some (some (.ref rl)) := by rw [← h2]; rfl
 have e3 : getL "_npassedout" (SD.es q) = some (some (.int po t3)) := by rw [← h3]; rfl
 have hnd : (ns.map Nd.nm).Nodup := by
  refine byG fun GG hGG => ?_
  obtain ⟨es, ep, _, _, _, _, nd⟩ := hI
  refine hGG ?_
  clear hGG GG
  unfold kvsOf at nd
  rwa [List.map_map] at nd
 refine q_def C (sub := (rl, W.listOf rv.toArray rn) :: sLed x dx d q od (reNp ns F)) S ["self", "result", "n2i", "node"] [.ref x] [some (.ref x), none, none, none] [("_NODE_OUT", .int (-1) 197), ("tuple", .type "tuple"), ("len", .builtin "len")] (by k_is) (by k_is) (by lia) (BindsTo.of_eq rfl) (Nat.le_of_ble_eq_true rfl) rfl (by decide +kernel) (by decide +kernel) rfl rfl rfl ?_
 intro g' env' s_1 hx hx' C' S_1
 refine q_cons <| q_if <| q_tcmp <| q_attr <| q_name C' S_1 (by walk_at "lk") <| q_getD C' S_1 (instAt S_1 (.tail _ (.head _)) (.tail _ (.tail _ (.head _)))) (attr := none) (by k_is) (by k_is) (by k_is) (by k_is) e2 rfl fun s_2 S_2 _ => q_cnone <| q_isnone <| q_tbool ?_
 rw [show (Value.ref rl == Value.none) = false by rfl, if_neg Bool.false_ne_true]
 refine q_nil ?_
 refine q_cons <| q_assign <| q_call <| q_glob C' S_2 (by walk_at "mem") <| q_cwT <| q_ic <| q_attr <| q_name C' S_2 (by walk_at "lk") <| q_getD C' S_2 (instAt S_2 (.tail _ (.head _)) (.tail _ (.tail _ (.head _)))) (attr := none) (by k_is) (by k_is) (by k_is) (by k_is) e2 rfl fun s3 S_3 _ => q_i0 <| q_tupleL S_3 (S_3.get (.head _)) (by with_reducible exact Nat.le_trans (by assumption) (by decide)) fun tp s4 S4 => q_store C' S4 (by walk_at "up") fun s5 S5 => ?_
 refine q_cons <| q_assign <| q_attr <| q_name C' S5 (by walk_at "lk") <| q_getD C' S5 (instAt S5 (.tail _ (.tail _ (.head _))) (.tail _ (.tail _ (.tail _ (.head _))))) (attr := none) (by k_is) (by k_is) (by k_is) (by k_is) e1 rfl fun s6 S6 _ => q_store C' S6 (by walk_at "up") fun s7 S7 => ?_
 refine q_cons <| q_forT C' (by walk_at "mem") <| q_name C' S7 (by walk_at "lk") ⟨s, tp, tupObj rv, rv, fun i m r => Ex2 fun F' u => An3 (r = (tp, tupObj rv) :: (rl, W.listOf rv.toArray rn) :: sLed x dx d q od (reNp ns F')) (∀ y, (F' y).1 = if y ∈ rs.take i then -1 else (F y).1) (m = lcs ["self", "result", "n2i", "node"] [some (.ref x), some (.ref tp), some (.ref d), u]), _, _, rfl, rfl, ⟨_, rfl⟩, S7, .inr ?_, ?_, ?_, ?_⟩
 ·rintro i m r ⟨ns', u, rfl, _⟩; exact .head _
 ·exact ⟨F, none, rfl, by simp, rfl⟩
 ·rintro i v m1 r_1 I it s8 hv ⟨F', u, rfl, hF', rfl⟩ S8
  obtain ⟨y, hpi, tq, rfl⟩ := hr.get' hv
  rw [(show Up "node" (some (.str y tq)) ["self", "result", "n2i", "node"] _ [some (.ref x), some (.ref tp), some (.ref d), some (.str y tq)] by walk_at "up").eq C'.nd] at S8
  refine byG fun GG hGG => ?_
  obtain ⟨p, hp, rfl⟩ := List.mem_map.mp (hrs y (List.mem_of_getElem? hpi))
  obtain ⟨hm1, hm2, hm3⟩ := nd_mem (F := F') hp
  refine hGG ?_
  clear hGG GG
  refine q_cons <| q_aattr <| q_glob C' S8 (by walk_at "mem") <| q_sub <| q_name C' S8 (by walk_at "lk") <| q_name C' S8 (by walk_at "lk") <| q_dsub S8 (o := od) (.tail _ (.tail _ (.tail _ (.tail _ (.tail _ (.head _)))))) hI (valueAt_nd hnd hp) fun s9 S9 _ => ?_
  refine q_setS C' S9 (p := 42) (i := 1) (ox' := ndObj p (-1, 197)) (instAt S9 (.tail _ (.tail _ (.tail _ (.tail _ (.tail _ (.tail _ hm1)))))) (.tail _ (.tail _ (.tail _ (.tail _ (.tail _ (.tail _ hm2))))))) (by k_is) (by k_is) (by k_is) (by k_is) (by k_is) (by decide) (by with_unfolding_all rfl) rfl (.tail (.tail (.tail (.tail (.tail (.tail (chNp hnd hp))))))) fun s10 S10 => ?_
  refine q_nil ⟨_, _, S10, _, _, rfl, fun y => ?_, rfl⟩
  unfold NP.put
  rw [List.take_add_one, hpi]
  by_cases h : y = p.nm
  ·subst h; simp
  ·simp [h, hF']
 ·rintro m1 r_1 s8 ⟨F', u, rfl, hF', rfl⟩ S8
  rw [hr.length, List.take_length] at hF'
  refine q_cons <| q_expr C' <| q_clear <| q_attr <| q_name C' S8 (by walk_at "lk") <| q_getD C' S8 (instAt S8 (.tail _ (.tail _ (.head _))) (.tail _ (.tail _ (.tail _ (.head _))))) (attr := none) (by k_is) (by k_is) (by k_is) (by k_is) e2 rfl fun s9 S9 _ =>
   ⟨_, _, _, _, _, rl, rv, rn, _, rfl, S9, by with_reducible exact Nat.le_trans (by assumption) (by decide), S9.get (.tail _ (.head _)), .tail .head, fun s10 S10 => ?_⟩
  refine byG fun GG hGG => ?_
  obtain ⟨a1, a2, a3, a4, b1, b2, b3, b4, v1, v2, v3, v4⟩ := q
  refine hGG ?_
  clear hGG GG
  refine q_cons <| q_augattr <| q_name C' S10 (by walk_at "lk") <| q_getD C' S10 (instAt S10 (.tail _ (.tail _ (.head _))) (.tail _ (.tail _ (.tail _ (.head _))))) (attr := none) (by k_is) (by k_is) (by k_is) (by k_is) e3 rfl fun s11 S11 _ =>
   q_call <| q_glob C' S11 (by walk_at "mem") <| q_cwB <| q_ic <| q_name C' S11 (by walk_at "lk") <| q_i0 <| q_lenT S11 (vs := rv) (S11.get (.head _)) (by with_reducible exact Nat.lt_of_le_of_lt (by assumption) (by decide)) fun t12 s12 S12 => q_iadd S12 fun t13 s13 S13 =>
   q_setD C' S13 (instAt S13 (.tail _ (.tail _ (.head _))) (.tail _ (.tail _ (.tail _ (.head _))))) rfl (by k_is) (by k_is) (by k_is) (by k_is) rfl rfl (.tail (.tail (.tail .head))) (Nat.le_of_ble_eq_true rfl) fun s14 S14 => ?_
  exact q_cons <| q_ret <| q_name C' S14 (by walk_at "lk") ⟨_, _, S14, fun S15 => k tp t13 F' _ _ hF' S15⟩
section
variable {prog : Program} {w : World} {A : Around} {env : Env} {E : VP} {s : Shared}
inductive PDgSV (prog : Program) (w : World) (Q : VP) (d : Addr) (v : Value) (s_2 : Shared) : Prop
 | mk (s0 : Shared) (g : Heap) (L : Addr) (m : SM) (news : LD) (ob : _) (kvs : _) (x : _) (t : _) (u : _) (h1 : v = .str x t) (h2 : Stt s0 g L m news s_2) (h3 : (d, ob) ∈ news) (h4 : IsD prog w ob kvs) (h5 : valueAt kvs x = some u) (h6 : ∀ s', Stt s0 g L m news s' → s'.heap = s_2.heap → Q u s') : PDgSV prog w Q d v s_2
inductive PDgS (prog : Program) (w : World) (A : Around) (env : Env) (e : Expr) (Q : VP) (E : VP) (ov : Value) (s_1 : Shared) : Prop
 | mk (d : _) (h1 : ov = .ref d) (h2 : (d == sysModules) = false) (h3 : (∃ kvs, s_1.heap.DictOf (strKind prog w) d kvs)) (h4 : WP (model prog w) A (eval e env) (PDgSV prog w Q d) E s_1) : PDgS prog w A env e Q E ov s_1
theorem q_dgetS {o e : Expr} {apos pos : Pos} {Q : VP}
  (h : WP (model prog w) A (eval o env) (PDgS prog w A env e Q E) E s)
  (hbase : attributeBase o "get" env (eval o env) = eval o env := by exact rfl)
  (hfew : ((backTo pos (starEach [e] env)).all (fun x => !x.1) && (backToKw pos (keywordEach [] env)).all (fun x => x.1.isSome)
   && decide (([e] : List Expr).length + ([] : List Keyword).length + (if ([] : List Keyword).isEmpty then 0 else 1) < 30)) = true := by exact rfl)
  (hline : (apos.endLine == pos.line) = true := by exact rfl) (htr : backTo pos (starEach [e] env) = [(false, eval e env)] := by exact rfl) :
  WP (model prog w) A (eval (.Call (.Attribute o "get" apos) [e] [] pos) env) Q E s :=
 q_dget (q_mono h fun ov s_1 ⟨d, a, b, c, h'⟩ => ⟨d, a, b, c, q_mono h' fun v s_2 ⟨s0, g, L, m, news, ob, kvs, x, t, u, a1, a2, a3, a4, a5, a6⟩ => ⟨s0, g, L, m, news, ob, kvs, x, t, a1, a2, a3, a4, fun s' S' e' => by rw [a5]; exact a6 s' S' e'⟩⟩) hbase hfew hline htr
end
noncomputable abbrev SP := (Str → Int) × List Str
noncomputable def decP (st : SP) (z : Str) : SP := (fun y => if y = z then st.1 z - 1 else st.1 y, if st.1 z - 1 = 0 then st.2 ++ [z] else st.2)
noncomputable def doneP (sc : Str → List Str) (st : SP) (y : Str) : SP := (sc y).foldl decP (fun z => if z = y then -2 else st.1 z, st.2)
noncomputable def cnt (F : NP) : Str → Int := fun y => (F y).1
theorem cnt_put (F : NP) (y : Str) (v : Int × Tok) : cnt (F.put y v) = fun z => if z = y then v.1 else cnt F z := by
 funext z; unfold cnt NP.put; split <;> rfl
theorem foldl_at {α β : Type} {f : β → α → β} {b : β} {l : List α} {i : Nat} {x : α} (h : l[i]? = some x) : (l.take (i + 1)).foldl f b = f ((l.take i).foldl f b) x := by
 rw [List.take_add_one, h, List.foldl_append]; rfl
theorem done_specK {w : World} {A : Around} {env : Env} {g base : Heap} {outer : List Env} {nm : List Str} {G : SV} {s0 s : Shared} {m : SM} {news : LD}
  {E : VP} {x dx d rl : Addr} {q : SD} {od : Obj} {ns : List Nd} {F : NP} {rv bvs : List Value} {rs bs : List Str} {rn : Nat} {nf : Int} {t4 : Tok} {sc : Str → List Str} {Q : VP} :
  (hK w.params).In g → ∀ (C : Fm w A env g base outer nm G) (S : Stt s0 g env.locals m (((rl, W.listOf rv.toArray rn) :: sLed x dx d q od (reNp ns F)) ++ news) s) (hd : A.depth + 20 < recursionLimit)
  (hI : IsD PySem.Challenge.rw_rt0104_01.row.prog w od (kvsOf ns)) (lo : (d == sysModules) = false) (h1 : q.v1 = .ref d) (h2 : q.v2 = .ref rl) (h4 : q.v4 = .int nf t4) (hr : All2 Vs rv rs) (hrl : rs.length ≤ 100) (hb : All2 Vs bvs bs) (hbl : bvs.length ≤ 6)
  (hsc : ∀ p ∈ ns, sc p.nm = p.ss ∧ NdOk 100 p ∧ ∀ z ∈ p.ss, z ∈ ns.map Nd.nm) (hbn : ∀ b ∈ bs, b ∈ ns.map Nd.nm)
  (hone : ∀ i y, bs[i]? = some y → ((bs.take i).foldl (doneP sc) (cnt F, rs)).1 y = -1)
  (k : ∀ rv' rn' t F' s', cnt F' = (bs.foldl (doneP sc) (cnt F, rs)).1 → All2 Vs rv' (bs.foldl (doneP sc) (cnt F, rs)).2 →
   Stt s0 g env.locals m (((rl, W.listOf rv'.toArray rn') :: sLed x dx d { q with v4 := .int (nf + (bs.length : Nat)) t } od (reNp ns F')) ++ news) s' → Q .none s'), codeAny (model PySem.Challenge.rw_rt0104_01.row.prog w) A (.call (.ref 120) ⟨.ref x :: bvs, []⟩) (rets Q E) s := by
 k_fill
 intro X C S hd hI lo h1 h2 h4 hr hrl hb hbl hsc hbn hone k
 obtain ⟨a1, a2, a3, a4, b1, b2, b3, b4, v1, v2, v3, v4⟩ := q
 dsimp only at h1 h2 h4
 subst h1 h2 h4
 have hnd : (ns.map Nd.nm).Nodup := by
  obtain ⟨es, ep, _, _, _, _, nd⟩ := hI
  unfold kvsOf at nd
  rwa [List.map_map] at nd
 refine q_defGK C (sub := (s.heap.objs.size, tupObj bvs) :: (rl, W.listOf rv.toArray rn) :: sLed x dx d _ od (reNp ns F)) (z := { s with heap := s.heap.push (tupObj bvs) }) (S.push _ s.toks) S.fr.keep ["self", "nodes", "n2i", "node", "nodeinfo", "stat", "successor", "successor_info"] [.ref x, .ref s.heap.objs.size] [some (.ref x), some (.ref s.heap.objs.size), none, none, none, none, none, none] [("_NODE_OUT", .int (-1) 197), ("_NODE_DONE", .int (-2) 200)]
  [("self", .ref x), ("nodes", .ref s.heap.objs.size)] [] (fun _ => []) (by k_is) (by k_is) (by lia) (fun M A E Q hq => ?_) (Nat.le_of_ble_eq_true rfl) rfl rfl rfl (by decide +kernel) (fun z => rfl) (by decide) rfl (fun z x hx => .inl (by
   rcases List.mem_cons.mp hx with rfl | hx
   ·exact rfl
   ·rw [List.mem_singleton.mp hx]; exact rfl)) rfl rfl rfl ?_
 ·have key : wpAny M A (alloc (tupObj bvs) >>= fun D => pure [(("self" : Str), Value.ref x), (("nodes" : Str), Value.ref D)]) Q E s := wpAny_bind (wpAny_alloc (wpAny_pure hq))
  rcases bvs with _ | ⟨c1, _ | ⟨c2, _ | ⟨c3, _ | ⟨c4, _ | ⟨c5, _ | ⟨c6, _ | ⟨c7, r⟩⟩⟩⟩⟩⟩⟩
  ·exact key
  ·exact key
  ·exact key
  ·exact key
  ·exact key
  ·exact key
  ·exact key
  ·simp at hbl
 intro g' n env' s_1 cells hx hx' C' _ _ Y S_1
 refine q_abs fun PR hR => ?_
 obtain rfl : cells = [] := by cases Y; rfl
 generalize s.heap.objs.size = nt at *
 generalize ({ s with heap := s.heap.push (tupObj bvs) } : Shared) = z at *
 have e1 : ∀ v4, getL "_node2info" (SD.es ⟨a1, a2, a3, a4, b1, b2, b3, b4, .ref d, .ref rl, v3, v4⟩) = some (some (.ref d)) := fun _ => rfl
 have e2 : ∀ v4, getL "_ready_nodes" (SD.es ⟨a1, a2, a3, a4, b1, b2, b3, b4, .ref d, .ref rl, v3, v4⟩) = some (some (.ref rl)) := fun _ => rfl
 have e4 : ∀ v4, getL "_nfinished" (SD.es ⟨a1, a2, a3, a4, b1, b2, b3, b4, .ref d, .ref rl, v3, v4⟩) = some (some v4) := fun _ => rfl
 replace S_1 : Stt z g' env'.locals (lcs ["self", "nodes", "n2i", "node", "nodeinfo", "stat", "successor", "successor_info"] [some (.ref x), some (.ref nt), none, none, none, none, none, none]) ((nt, tupObj bvs) :: (rl, W.listOf rv.toArray rn) :: sLed x dx d ⟨a1, a2, a3, a4, b1, b2, b3, b4, .ref d, .ref rl, v3, .int nf t4⟩ od (reNp ns F)) s_1 := S_1
 refine q_cons <| q_if <| q_tcmp <| q_attr <| q_name C' S_1 (by walk_at "lk") <| q_getD C' S_1 (instAt S_1 (.tail _ (.tail _ (.head _))) (.tail _ (.tail _ (.tail _ (.head _))))) (attr := none) (by k_is) (by k_is) (by k_is) (by k_is) (e2 _) rfl fun s_2 S_2 _ => q_cnone <| q_isnone <| q_tbool ?_
 rw [show (Value.ref rl == Value.none) = false by rfl, if_neg Bool.false_ne_true]
 refine q_nil ?_
 refine q_cons <| q_assign <| q_attr <| q_name C' S_2 (by walk_at "lk") <| q_getD C' S_2 (instAt S_2 (.tail _ (.tail _ (.head _))) (.tail _ (.tail _ (.tail _ (.head _))))) (attr := none) (by k_is) (by k_is) (by k_is) (by k_is) (e1 _) rfl fun s3 S_3 _ => q_store C' S_3 (by walk_at "up") fun s4 S4 => ?_
 refine q_cons <| q_forT C' (by walk_at "mem") <| q_name C' S4 (by walk_at "lk") ⟨z, nt, tupObj bvs, bvs, fun i m r => Ex10 fun F' rv' rs' rn' t u3 u4 u5 u6 u7 => An5 (r = (nt, tupObj bvs) :: (rl, W.listOf rv'.toArray rn') :: sLed x dx d ⟨a1, a2, a3, a4, b1, b2, b3, b4, .ref d, .ref rl, v3, .int (nf + (i : Nat)) t⟩ od (reNp ns F')) ((bs.take i).foldl (doneP sc) (cnt F, rs) = (cnt F', rs')) (All2 Vs rv' rs') (rs'.length ≤ 100 + 100 * i) (m = lcs ["self", "nodes", "n2i", "node", "nodeinfo", "stat", "successor", "successor_info"] [some (.ref x), some (.ref nt), some (.ref d), u3, u4, u5, u6, u7]), _, _, rfl, rfl, ⟨_, rfl⟩, S4, .inr ?_, ?_, ?_, ?_⟩
 ·rintro i m r ⟨F', rv', rs', rn', t, u3, u4, u5, u6, u7, rfl, _⟩; exact .head _
 ·exact ⟨F, rv, rs, rn, t4, none, none, none, none, none, by simp, rfl, hr, by with_reducible assumption, rfl⟩
 ·rintro i v m1 r_1 I it s5 hv hJJ S5
  refine q_abs fun PL hL => ?_
  obtain ⟨F1, rv1, rs1, rn1, t_1, u3, u4, u5, u6, u7, rfl, hf1, hrv1, hl_1, rfl⟩ := hJJ
  obtain ⟨y, hyi, tq, rfl⟩ := hb.get' hv
  have hilt : i < bvs.length := (List.getElem?_eq_some_iff.mp hv).1
  have h1y := hone i y hyi
  rw [hf1] at h1y
  rw [(show Up "node" (some (.str y tq)) ["self", "nodes", "n2i", "node", "nodeinfo", "stat", "successor", "successor_info"] _ [some (.ref x), some (.ref nt), some (.ref d), some (.str y tq), u4, u5, u6, u7] by walk_at "up").eq C'.nd] at S5
  obtain ⟨p, hp, rfl⟩ := List.mem_map.mp (hbn y (List.mem_of_getElem? hyi))
  obtain ⟨hsp, hpok, hcl⟩ := hsc p hp
  refine q_cons <| q_if <| q_tcmp <| q_walrus <| q_dgetS <| q_name C' S5 (by walk_at "lk") ⟨d, rfl, lo, ⟨_, dictAt S5 (.tail _ (.tail _ (.tail _ (.tail _ (.tail _ (.head _)))))) hI⟩, q_name C' S5 (by walk_at "lk") ⟨_, _, _, _, _, _, _, _, _, _, rfl, S5, .tail _ (.tail _ (.tail _ (.tail _ (.tail _ (.head _))))), hI, valueAt_nd hnd hp, fun s6 S6 _ => q_store C' S6 (by walk_at "up") fun s7 S7 => q_cnone <| q_isnone <| q_tbool ?_⟩⟩
  rw [show (Value.ref p.a == Value.none) = false by rfl, if_neg Bool.false_ne_true]
  obtain ⟨hm1, hm2, hm3⟩ := nd_mem (F := F1) hp
  refine q_nil <| q_cons <| q_assign <| q_attr <| q_name C' S7 (by walk_at "lk") <| q_getS C' S7 (p := 42) (i := 1) (instAt S7 (.tail _ (.tail _ (.tail _ (.tail _ (.tail _ (.tail _ hm1)))))) (.tail _ (.tail _ (.tail _ (.tail _ (.tail _ (.tail _ hm2))))))) (by k_is) (by k_is) (by k_is) (by k_is) (by k_is) (by k_is) rfl rfl fun s8 S8 _ => q_store C' S8 (by walk_at "up") fun s9 S9 => ?_
  refine q_cons <| q_if <| q_tcmp <| q_name C' S9 (by walk_at "lk") <| q_glob C' S9 (by walk_at "mem") <| q_nei <| q_tbool ?_
  rw [show ((F1 p.nm).1 != -1) = false by rw [show (F1 p.nm).1 = -1 from h1y]; rfl, if_neg Bool.false_ne_true]
  refine q_nil <| q_cons <| q_aattr <| q_glob C' S9 (by walk_at "mem") <| q_name C' S9 (by walk_at "lk") <|
   q_setS C' S9 (p := 42) (i := 1) (ox' := ndObj p (-2, 200)) (instAt S9 (.tail _ (.tail _ (.tail _ (.tail _ (.tail _ (.tail _ hm1)))))) (.tail _ (.tail _ (.tail _ (.tail _ (.tail _ (.tail _ hm2))))))) (by k_is) (by k_is) (by k_is) (by k_is) (by k_is) (by decide) (by with_unfolding_all rfl) rfl (.tail (.tail (.tail (.tail (.tail (.tail (chNp hnd hp))))))) fun s10 S10 => ?_
  obtain ⟨hm1, hm2, hm3⟩ := nd_mem (F := F1.put p.nm (-2, 200)) hp
  refine q_cons <| q_forL C' (by walk_at "mem") <| q_attr <| q_name C' S10 (by walk_at "lk") <| q_getS C' S10 (p := 43) (i := 2) (instAt S10 (.tail _ (.tail _ (.tail _ (.tail _ (.tail _ (.tail _ hm1)))))) (.tail _ (.tail _ (.tail _ (.tail _ (.tail _ (.tail _ hm2))))))) (by k_is) (by k_is) (by k_is) (by k_is) (by k_is) (by k_is) rfl rfl fun s11 S11 _ =>
   ⟨z, p.l, W.listOf p.sv.toArray p.ln, p.sv, fun j m r => Ex6 fun F' rv' rs' rn' u6 u7 => An5 (r = (I, it) :: (nt, tupObj bvs) :: (rl, W.listOf rv'.toArray rn') :: sLed x dx d ⟨a1, a2, a3, a4, b1, b2, b3, b4, .ref d, .ref rl, v3, .int (nf + (i : Nat)) t_1⟩ od (reNp ns F')) ((p.ss.take j).foldl decP (fun z => if z = p.nm then -2 else cnt F1 z, rs1) = (cnt F', rs')) (All2 Vs rv' rs') (rs'.length ≤ 100 + 100 * i + j) (m = lcs ["self", "nodes", "n2i", "node", "nodeinfo", "stat", "successor", "successor_info"] [some (.ref x), some (.ref nt), some (.ref d), some (.str p.nm tq), some (.ref p.a), some (.int (F1 p.nm).1 (F1 p.nm).2), u6, u7]), _, _, rfl, rfl, ⟨_, rfl⟩, S11, .inr ?_, ?_, ?_, ?_⟩
  ·rintro j m r ⟨F', rv', rs', rn', u6, u7, rfl, _⟩
   exact .tail _ (.tail _ (.tail _ (.tail _ (.tail _ (.tail _ (nd_mem (F := F') hp).2.2)))))
  ·exact ⟨F1.put p.nm (-2, 200), rv1, rs1, rn1, u6, u7, rfl, by rw [cnt_put]; rfl, hrv1, by lia, rfl⟩
  ·rintro j v m1 r_1 J jt s12 hv hJJ S12
   refine q_abs fun PM hM => ?_
   obtain ⟨F2, rv2, rs2, rn2, w6, w7, rfl, hf2, hrv2, hl_2, rfl⟩ := hJJ
   obtain ⟨y2, hyj, tz, rfl⟩ := hpok.1.get' hv
   have hjlt : j < p.ss.length := (List.getElem?_eq_some_iff.mp hyj).1
   rw [(show Up "successor" (some (.str y2 tz)) ["self", "nodes", "n2i", "node", "nodeinfo", "stat", "successor", "successor_info"] _ [some (.ref x), some (.ref nt), some (.ref d), some (.str p.nm tq), some (.ref p.a), some (.int (F1 p.nm).1 (F1 p.nm).2), some (.str y2 tz), w7] by walk_at "up").eq C'.nd] at S12
   obtain ⟨p_2, hp_2, rfl⟩ := List.mem_map.mp (hcl y2 (List.mem_of_getElem? hyj))
   obtain ⟨hn1, hn2, hn3⟩ := nd_mem (F := F2) hp_2
   refine q_cons <| q_assign <| q_sub <| q_name C' S12 (by walk_at "lk") <| q_name C' S12 (by walk_at "lk") <| q_dsub S12 (o := od) (.tail _ (.tail _ (.tail _ (.tail _ (.tail _ (.tail _ (.head _))))))) hI (valueAt_nd hnd hp_2) fun s13 S13 _ => q_store C' S13 (by walk_at "up") fun s14 S14 => ?_
   refine q_cons <| q_augattr <| q_name C' S14 (by walk_at "lk") <| q_getS C' S14 (p := 42) (i := 1) (instAt S14 (.tail _ (.tail _ (.tail _ (.tail _ (.tail _ (.tail _ (.tail _ hn1))))))) (.tail _ (.tail _ (.tail _ (.tail _ (.tail _ (.tail _ (.tail _ hn2)))))))) (by k_is) (by k_is) (by k_is) (by k_is) (by k_is) (by k_is) rfl rfl fun s15 S15 _ =>
    q_int S15 fun t16 s16 S16 => q_isub S16 fun t17 s17 S17 =>
    q_setS C' S17 (p := 42) (i := 1) (ox' := ndObj p_2 ((F2 p_2.nm).1 - 1, t17)) (instAt S17 (.tail _ (.tail _ (.tail _ (.tail _ (.tail _ (.tail _ (.tail _ hn1))))))) (.tail _ (.tail _ (.tail _ (.tail _ (.tail _ (.tail _ (.tail _ hn2)))))))) (by k_is) (by k_is) (by k_is) (by k_is) (by k_is) (by decide) (by with_unfolding_all rfl) rfl (.tail (.tail (.tail (.tail (.tail (.tail (.tail (chNp hnd hp_2)))))))) fun s18 S18 => ?_
   obtain ⟨hn1, hn2, hn3⟩ := nd_mem (F := F2.put p_2.nm ((F2 p_2.nm).1 - 1, t17)) hp_2
   refine q_cons <| q_if <| q_tcmp <| q_attr <| q_name C' S18 (by walk_at "lk") <| q_getS C' S18 (p := 42) (i := 1) (v := .int ((F2 p_2.nm).1 - 1) t17) (instAt S18 (.tail _ (.tail _ (.tail _ (.tail _ (.tail _ (.tail _ (.tail _ hn1))))))) (.tail _ (.tail _ (.tail _ (.tail _ (.tail _ (.tail _ (.tail _ hn2)))))))) (by k_is) (by k_is) (by k_is) (by k_is) (by k_is) (by k_is) (by simp [NP.put]) rfl fun s19 S19 _ =>
    q_int S19 fun t20 s20 S20 => q_eqi <| q_tbool ?_
   have hstep : (p.ss.take (j + 1)).foldl decP (fun z => if z = p.nm then -2 else cnt F1 z, rs1) = (cnt (F2.put p_2.nm ((F2 p_2.nm).1 - 1, t17)), if (F2 p_2.nm).1 - 1 = 0 then rs2 ++ [p_2.nm] else rs2) := by
    rw [foldl_at hyj, hf2, cnt_put]; rfl
   by_cases h0 : (F2 p_2.nm).1 - 1 = 0
   ·rw [show ((F2 p_2.nm).1 - 1 == 0) = true by rw [h0]; rfl, if_pos rfl]
    rw [if_pos h0] at hstep
    refine q_cons <| q_expr C' <| q_append <| q_attr <| q_name C' S20 (by walk_at "lk") <| q_getD C' S20 (instAt S20 (.tail _ (.tail _ (.tail _ (.tail _ (.head _))))) (.tail _ (.tail _ (.tail _ (.tail _ (.tail _ (.head _))))))) (attr := none) (by k_is) (by k_is) (by k_is) (by k_is) (e2 _) rfl fun s21 S21 _ =>
     ⟨rl, _, rn2, rfl, S21.get (.tail _ (.tail _ (.tail _ (.head _)))), q_name C' S21 (by walk_at "lk") ⟨_, _, _, _, rv2, rn2, _, S21, by have := hrv2.length; have := hpok.2; lia, S21.get (.tail _ (.tail _ (.tail _ (.head _)))), .tail (.tail (.tail .head)), fun s22 S22 => ?_⟩⟩
    exact q_nil <| q_nil <| hM _ _ ⟨_, _, S22, _, _, _, _, _, _, rfl, hstep, hrv2.snoc ⟨_, rfl⟩, by rw [List.length_append, List.length_singleton]; lia, rfl⟩
   ·rw [show ((F2 p_2.nm).1 - 1 == 0) = false by simpa using h0, if_neg Bool.false_ne_true]
    rw [if_neg h0] at hstep
    exact q_nil <| q_nil <| hM _ _ ⟨_, _, S20, _, _, _, _, _, _, rfl, hstep, hrv2, by lia, rfl⟩
  ·rintro m1 r_1 s12 ⟨F2, rv2, rs2, rn2, w6, w7, rfl, hf2, hrv2, hl_2, rfl⟩ S12
   rw [hpok.1.length, List.take_length] at hf2
   have := hpok.1.length
   have := hpok.2
   refine q_cons <| q_augattr <| q_name C' S12 (by walk_at "lk") <| q_getD C' S12 (instAt S12 (.tail _ (.tail _ (.tail _ (.head _)))) (.tail _ (.tail _ (.tail _ (.tail _ (.head _)))))) (attr := none) (by k_is) (by k_is) (by k_is) (by k_is) (e4 _) rfl fun s13 S13 _ => q_int S13 fun t14 s14 S14 => q_iadd S14 fun t15 s15 S15 =>
    q_setD C' S15 (instAt S15 (.tail _ (.tail _ (.tail _ (.head _)))) (.tail _ (.tail _ (.tail _ (.tail _ (.head _)))))) rfl (by k_is) (by k_is) (by k_is) (by k_is) rfl rfl (.tail (.tail (.tail (.tail .head)))) (Nat.le_of_ble_eq_true rfl) fun s16 S16 => ?_
   refine q_nil <| hL _ _ ⟨_, _, S16, F2, rv2, rs2, rn2, t15, _, _, _, _, _, ?_, ?_, hrv2, by lia, rfl⟩
   ·rw [show ((nf + (i : Nat)) + 1 : Int) = nf + ((i + 1 : Nat) : Int) by lia]; rfl
   ·rw [foldl_at hyi, hf1]
    show doneP sc (cnt F1, rs1) p.nm = _
    unfold doneP
    rw [hsp]; exact hf2
 ·rintro m1 r_1 s5 ⟨F1, rv1, rs1, rn1, t_1, u3, u4, u5, u6, u7, rfl, hf1, hrv1, hl_1, rfl⟩ S5
  rw [hb.length, List.take_length] at hf1
  rw [hb.length] at S5
  exact q_nil <| hR _ _ ⟨_, _, S5.sub (List.sublist_cons_self _ _), fun S6 => k rv1 rn1 t_1 F1 _ (by rw [hf1]) (by rw [hf1]; exact hrv1) S6⟩
noncomputable abbrev itObj (l : Addr) (i : Nat) : Obj := { cls := .type "list_iterator", data := .fields #[.ref l, .int i 0] }
noncomputable abbrev mwObj (I : Addr) : Obj := { cls := .type "method-wrapper", data := .fields #[.builtin "list_iterator.__next__", .ref I] }
theorem li_lk_ga : Slot "list_iterator" "__getattribute__" "object.__getattribute__" :=
 .of (owner := "object") (n := "__getattribute__") (by rw [typeLookup_type, builtinLookup_eq_fast]; kernel_rfl) (by decide +kernel) (by decide +kernel) (by decide +kernel)
  (by first | exact .inl (by decide +kernel) | exact .inr (by decide +kernel)) (by rw [isSubtype_type]; kernel_rfl)
theorem typeOf_li_next : typeOf (.builtin "list_iterator.__next__") = pure (.type "wrapper_descriptor") := by kernel_rfl
theorem slot_wd_get : Slot "wrapper_descriptor" "__get__" "wrapper_descriptor.__get__" :=
 .of (owner := "wrapper_descriptor") (n := "__get__") (by rw [typeLookup_type, builtinLookup_eq_fast]; kernel_rfl) (by decide +kernel) (by decide +kernel) (by decide +kernel)
  (by first | exact .inl (by decide +kernel) | exact .inr (by decide +kernel)) (by rw [isSubtype_type]; kernel_rfl)
theorem lk_wd_set : typeLookup (.type "wrapper_descriptor") "__set__" = pure none := by rw [typeLookup_type, builtinLookup_eq_fast]; kernel_rfl
theorem lk_wd_del : typeLookup (.type "wrapper_descriptor") "__delete__" = pure none := by rw [typeLookup_type, builtinLookup_eq_fast]; kernel_rfl
theorem entry_wd_get : entryFor table "wrapper_descriptor.__get__" = some Builtin.«wrapper_descriptor.__get__» := entryFor_of_tree (by kernel_rfl)
theorem args_wd_get (a b c : Value) : argsOk "wrapper_descriptor.__get__" ⟨[a, b, c], []⟩ := by unfold argsOk; kernel_rfl
theorem owner_li_next : (".".intercalate ("list_iterator.__next__".cutAt '.').dropLast) = "list_iterator" := by
 have e0 : "list_iterator.__next__".cutAt '.' = ["list_iterator", "__next__"] := by first | rfl | decide +kernel
 rw [e0]; decide +kernel
theorem sub_li_owner : isSubtype (.type "list_iterator") (.type (".".intercalate ("list_iterator.__next__".cutAt '.').dropLast)) = pure true := by rw [owner_li_next, isSubtype_type]; kernel_rfl
theorem args_li_ga (a b : Value) : argsOk "object.__getattribute__" ⟨[a, b], []⟩ := by unfold argsOk; kernel_rfl
theorem bound_li_next (a : Value) : checkBoundCall "list_iterator.__next__" ⟨[a], []⟩ = pure () := by unfold checkBoundCall; kernel_rfl
section
variable {prog : Program} {w : World} {A : Around} {E : VP} {s : Shared} {I l : Addr} {i : Nat}
theorem next_get {R : Result → Shared → Prop} (hI : s.heap.get? I = some (itObj l i)) (hq : R (.ok (.ret (.ref s.heap.objs.size))) { s with heap := s.heap.push (mwObj I) }) :
  codeAny (model prog w) A (.call (.builtin "wrapper_descriptor.__get__") ⟨[.builtin "list_iterator.__next__", .ref I, .type "list_iterator"], []⟩) R s := by
 obtain ⟨hp, g, d, tk, os⟩ := s
 have hT : (⟨hp, g, d, tk, os⟩ : Shared).TypeIs (.ref I) "list_iterator" := ⟨_, hI, rfl⟩
 have hT5 : (⟨hp, g, d, tk, os⟩ : Shared).TypeIs (.builtin "list_iterator.__next__") "wrapper_descriptor" := typeOf_li_next
 have f8 := sub_li_owner
 refine codeAny_call_builtin slot_wd_get.plain entry_wd_get (slot_wd_get.check _ _ _ _ _ _ _ _ hT5 (args_wd_get _ _ _) ?_)
 repeat (any_goals (first | assumption | wp_step))
theorem next_entry {tk : Tok} {Q : Fin → Shared → Prop} (hI : s.heap.get? I = some (itObj l i)) (hq : Q (.done (.ret (.ref s.heap.objs.size))) { s with heap := s.heap.push (mwObj I) }) :
  wpAny (model prog w) A (Builtin.«object.__getattribute__» ⟨[.ref I, .str "__next__" tk], []⟩) Q E s := by
 obtain ⟨hp, g, d, t, os⟩ := s
 have hT : (⟨hp, g, d, t, os⟩ : Shared).TypeIs (.ref I) "list_iterator" := ⟨_, hI, rfl⟩
 have hT5 : (⟨hp, g, d, t, os⟩ : Shared).TypeIs (.builtin "list_iterator.__next__") "wrapper_descriptor" := typeOf_li_next
 have f4 := slot_listiter_next.lookup
 have f5 := typeOf_li_next
 have f6 := slot_wd_get.lookup
 have f7 := lk_wd_set
 have f8 := lk_wd_del
 repeat (any_goals (first | assumption | wp_step))
 refine next_get hI ?_
 repeat (any_goals (first | assumption | wp_step))
theorem next_by {tk : Tok} {Q : VP} (hI : s.heap.get? I = some (itObj l i)) (hq : Q (.ref s.heap.objs.size) { s with heap := s.heap.push (mwObj I) }) :
  wpAny (model prog w) A (getAttrBy (.ref I) (.str "__next__" tk) true true) Q E s := by
 obtain ⟨hp, g, d, t, os⟩ := s
 have hT : (⟨hp, g, d, t, os⟩ : Shared).TypeIs (.ref I) "list_iterator" := ⟨_, hI, rfl⟩
 have f2 := li_lk_ga.lookup
 have f3 := li_lk_ga.bind (.ref I)
 repeat (any_goals (first | assumption | wp_step))
 refine codeAny_call_builtin li_lk_ga.plain F.entry_object_getattribute (li_lk_ga.check _ _ _ _ _ _ _ _ hT (args_li_ga _ _) (next_entry hI ?_))
 repeat (any_goals (first | assumption | wp_step))
theorem get_next {Q : VP} (hI : s.heap.get? I = some (itObj l i)) (hq : Q (.ref s.heap.objs.size) { s with heap := s.heap.push (mwObj I), toks := s.toks + 1 }) :
  wpAny (model prog w) A (getAttr (.ref I) "__next__" true) Q E s := by
 unfold getAttr
 refine wpAny_bind (wpAny_mkText ?_)
 exact next_by hI hq
end
section
open PyProof.Rows.TI
section
variable {prog : Program} {w : World} {A : Around} {env : Env} {g base : Heap} {outer : List Env} {nm : List Str} {G : SV}
 {E : VP} {s0 s s_1 : Shared} {m : SM} {news frs : LD}
theorem Stt.slots (S : Stt s0 g env.locals m (news ++ frs) s) (Fs : Frs outer frs) {h' : Heap} {tk : Nat}
  (hkl : ∀ p ∈ news, h'.get? p.1 = some p.2) (hkg : ∀ b o, g.get? b = some o → h'.get? b = some o)
  (hs : ∀ b o, s.heap.get? b = some o → (∀ vs, o.data ≠ .fields vs) → ∃ sl, h'.get? b = some { o with slots := sl }) :
  ∃ frs', SameUp frs frs' ∧ Frs outer frs' ∧ Stt s0 g env.locals m (news ++ frs') { s with heap := h', toks := tk } := by
 obtain ⟨frs', SU, ht⟩ := sameUp_of (h' := h') (frs := frs) fun p hp => hs p.1 p.2 (S.get (List.mem_append_right _ hp)) fun vs q => by
  obtain ⟨es, ep, hd⟩ := Fs.dict p hp
  rw [hd] at q; cases q
 have e1 : frs'.map (·.1) = frs.map (·.1) := by
  rw [← (Fs.up SU).addrs, ← Fs.addrs]
 have nd := S.nd
 simp only [List.map_append, List.nodup_append] at nd
 refine ⟨frs', SU, Fs.up SU, same_of S.same, ⟨?_, hkg, S.fr.above⟩, fun p hp => ?_, ?_⟩
 ·obtain ⟨o, es, ep, ho, hd, r⟩ := S.fr.ns
  obtain ⟨sl, h1⟩ := hs _ o ho fun vs q => by rw [hd] at q; cases q
  exact ⟨_, es, ep, h1, hd, r⟩
 ·rcases List.mem_append.mp hp with hp | hp
  ·have P := S.led p (List.mem_append_left _ hp)
   exact ⟨hkl p hp, P.2⟩
  ·have hm : p.1 ∈ frs.map (·.1) := e1 ▸ List.mem_map_of_mem hp
   obtain ⟨x, hx, q⟩ := List.mem_map.mp hm
   have P := S.led x (List.mem_append_right _ hx)
   exact ⟨ht p hp, by rw [← q]; exact P.2.1, by rw [← q]; exact P.2.2⟩
 ·rw [List.map_append, e1, List.nodup_append]; exact nd
noncomputable def Fly (g : Heap) (L e : Addr) (cls fl : Value) (news : LD) (h : Heap) : Prop :=
 ∃ ob vs a0 T oT ts, h.get? e = some ob ∧ ob.cls = cls ∧ ob.data = .fields vs ∧ vs[0]? = some a0 ∧ vs[1]? = some (.ref T) ∧ h.get? T = some oT ∧ oT.data = .fields ts ∧ ts[3]? = some fl ∧ T ≠ e ∧ (T ≠ L ∧ e ≠ L) ∧ (∀ p ∈ news, p.1 ≠ T ∧ p.1 ≠ e) ∧ (g.get? T = none ∧ g.get? e = none)
theorem base_off (S : Stt s0 g env.locals m (news ++ frs) s) {b : Addr} {o : Obj} (e : g.get? b = some o) : b ∉ env.locals :: frs.map (·.1) := fun hm => by
 rcases List.mem_cons.mp hm with q | hm
 ·subst q
  exact absurd (Nat.lt_of_lt_of_le (Heap.lt_size e) S.fr.above) (Nat.lt_irrefl _)
 ·obtain ⟨p, hp, rfl⟩ := List.mem_map.mp hm
  rw [(S.led p (List.mem_append_right _ hp)).2.2] at e; cases e
theorem note_end {e T : Addr} {oe oT : Obj} {vs ts : Array Value} {a0 cls fl : Value} {P : Prop} (S : Stt s0 g env.locals m (news ++ frs) s) (Fs : Frs outer frs) {h' : Heap} {tk : Nat} (hk : ∀ b o, s.heap.get? b = some o → b ∉ env.locals :: frs.map (·.1) → h'.get? b = some o)
  (hs : ∀ b o, s.heap.get? b = some o → (∀ vs, o.data ≠ .fields vs) → ∃ sl, h'.get? b = some { o with slots := sl }) (hT : ∀ b o, s.heap.get? b = some o → b ∉ env.locals :: frs.map (·.1) → b ≠ T) (hn : s.heap.get? e = none)
  (te : h'.get? e = some oe) (tc : oe.cls = cls) (td : oe.data = .fields vs) (ta : vs[0]? = some a0) (t1 : vs[1]? = some (.ref T)) (tne : T ≠ e) (tT : h'.get? T = some oT) (tdT : oT.data = .fields ts) (t3 : ts[3]? = some fl)
  (k : ∀ frs', SameUp frs frs' → Frs outer frs' → Stt s0 g env.locals m (news ++ frs') { s with heap := h', toks := tk } → Fly g env.locals e cls fl (news ++ frs') h' → P) : P := by
 have nd := S.nd
 simp only [List.map_append, List.nodup_append] at nd
 have off : ∀ p ∈ news, p.1 ∉ env.locals :: frs.map (·.1) := fun p hp hm => by
  rcases List.mem_cons.mp hm with q | hm
  ·exact (S.led p (List.mem_append_left _ hp)).2.1 q
  ·exact nd.2.2 p.1 (List.mem_map_of_mem hp) p.1 hm rfl
 obtain ⟨frs', SU, Fs', S'⟩ := S.slots (tk := tk) Fs (h' := h') (fun p hp => hk _ _ (S.get (List.mem_append_left _ hp)) (off p hp)) (fun b o q => hk b o (S.fr.keep b o q) (base_off S q)) hs
 have dict_ne : ∀ {b : Addr} {o : Obj} {es : Array DictEntry} {ep : Nat}, h'.get? b = some o → o.data = .dict es ep → b ≠ T := fun hb hd q => by
  rw [q, tT] at hb; cases hb
  rw [hd] at tdT; cases tdT
 have dict_ne' : ∀ {b : Addr} {o : Obj} {es : Array DictEntry} {ep : Nat}, h'.get? b = some o → o.data = .dict es ep → b ≠ e := fun hb hd q => by
  rw [q, te] at hb; cases hb
  rw [hd] at td; cases td
 refine byG fun GG hGG => ?_
 obtain ⟨oL, es, ep, hoL, hdL, _⟩ := S'.fr.ns
 refine hGG ?_
 clear hGG GG
 refine k frs' SU Fs' S' ⟨oe, vs, a0, T, oT, ts, te, tc, td, ta, t1, tT, tdT, t3, tne, ⟨fun q => dict_ne hoL hdL q.symm, fun q => dict_ne' hoL hdL q.symm⟩, fun p hp => ?_, ?_, ?_⟩
 ·rcases List.mem_append.mp hp with hp | hp
  ·have P := S.led p (List.mem_append_left _ hp)
   exact ⟨hT _ _ P.1 (off p hp), fun q => by rw [q, hn] at P; cases P.1⟩
  ·obtain ⟨es, ep, hdd⟩ := Fs'.dict p hp
   have := S'.get (List.mem_append_right _ hp)
   exact ⟨dict_ne this hdd, dict_ne' this hdd⟩
 ·cases q : g.get? T with
  | none => rfl
  | some o => exact absurd rfl (hT _ _ (S.fr.keep _ _ q) (base_off S q))
 ·cases q : g.get? e with
  | none => rfl
  | some o => have := S.fr.keep _ _ q; rw [hn] at this; cases this
theorem note_here {e : Addr} {ob : Obj} {vs : Array Value} {a0 : Value} {Q : Unit → Shared → Prop} (C : Fm w A env g base outer nm G) (S : Stt s0 g env.locals m (news ++ frs) s) (Fs : Frs outer frs) {h_1 : Heap} {tk : Nat}
  (hk : ∀ b o, s.heap.get? b = some o → h_1.get? b = some o) (hn : s.heap.get? e = none) (he : h_1.get? e = some ob) (hd : ob.data = .fields vs) (h1 : vs[1]? = some .none) (h0 : vs[0]? = some a0)
  (k : ∀ h' frs', SameUp frs frs' → Frs outer frs' → Stt s0 g env.locals m (news ++ frs') { s with heap := h', toks := tk } → Fly g env.locals e ob.cls (rawInt env.locals) (news ++ frs') h' → Q () { s with heap := h', toks := tk }) :
  wpAny (model prog w) A (noteFrame (.ref e) env) Q E { s with heap := h_1, toks := tk } := by
 have hNs : h_1.Ns env.locals m := S.fr.ns.keeps hk
 have hff : Heap.FunFrames h_1 (hideAll s.heap (env.locals :: frs.map (·.1))) (env :: outer) := by
  refine Heap.FunFrames.cons (by rw [C.hk]; decide) C.hf hNs (hideAll_none _ (.head _)) (Fs.fun fun p hp => ⟨hk _ _ (S.get (List.mem_append_right _ hp)), hideAll_none _ (.tail _ (List.mem_map_of_mem hp))⟩)
 unfold noteFrame
 simp only [C.hf]
 refine wpAny_bind (wpAny_field (s := { s with heap := h_1, toks := tk }) he hd h1 ?_)
 rw [if_neg (by decide)]
 refine wpAny_entryW (s := { s with heap := h_1, toks := tk }) (base := hideAll s.heap (env.locals :: frs.map (·.1))) C.hA hff C.hf he (fun b o q => hk b o (of_hideAll _ q)) ?_ hd (Array.getElem?_eq_some_iff.mp h1).1 h0 fun h' hN => ?_
 ·cases q : (hideAll s.heap (env.locals :: frs.map (·.1))).get? e with
  | none => rfl
  | some o => have := of_hideAll _ q; rw [hn] at this; cases this
 refine byG fun GG hGG => ?_
 obtain ⟨k1, _, ⟨oe, vs', T, oT, ts, te, ⟨tc, ta⟩, td, t1, tb, tne, tT, tdT, t3⟩, k4⟩ := hN
 refine hGG ?_
 clear hGG GG
 exact note_end S Fs (fun b o q hb => k1 b o (hideAll_get _ q hb)) (fun b o q hv => k4 b o (hk b o q) hv) (fun b o q hb => by
  intro e'; subst e'
  rw [hideAll_get _ q hb] at tb; cases tb) hn te tc td ta t1 tne tT tdT t3 fun frs' a b c d => k h' frs' a b c d
theorem fly_lands {e : Addr} {cls fl : Value} {Q : Unit → Shared → Prop} {L : Addr} (S : Stt s0 g L m news s) (F : Fly g L e cls fl news s.heap)
  (k : ∀ h', Stt s0 g L m news { s with heap := h' } → Fly g L e cls .none news h' → Q () { s with heap := h' }) : wpAny (model prog w) A (setFlight (.ref e) none) Q E s := by
 refine byG fun GG hGG => ?_
 obtain ⟨ob, vs, a0, T, oT, ts, te, tc, td, ta, t1, tT, tdT, t3, tne, tL, tn, tg⟩ := F
 refine hGG ?_
 clear hGG GG
 have hsz := (Array.getElem?_eq_some_iff.mp t3).1
 refine wpAny_setFlight_none te td t1 tT tdT hsz ?_
 have S' : Stt s0 g L m news { s with heap := s.heap.update T (Obj.mapFields (·.setIfInBounds 3 .none)) } :=
  ⟨same_of S.same, ⟨S.fr.ns.at' fun o e => (Heap.get?_update_other _ _ tL.1).trans e, fun b o q => (Heap.get?_update_other _ _ fun q' => by rw [q', q] at tg; cases tg.1).trans (S.fr.keep b o q), S.fr.above⟩,
   fun p hp => ⟨(Heap.get?_update_other _ _ (Ne.symm (tn p hp).1)).trans (S.led p hp).1, (S.led p hp).2⟩, S.nd⟩
 exact k _ S' ⟨ob, vs, a0, T, _, _, (Heap.get?_update_other _ _ tne).trans te, tc, td, ta, t1, Heap.get?_update_self _ tT (Obj.isFreed_of_fields (Obj.data_mapFields tdT _)), Obj.data_mapFields tdT _, by simp [Array.getElem?_setIfInBounds, hsz], tne, tL, tn, tg⟩
theorem note_next {e : Addr} {cls : Value} {Q : Unit → Shared → Prop} (C : Fm w A env g base outer nm G) (S : Stt s0 g env.locals m (news ++ frs) s) (Fs : Frs outer frs) (Fl : Fly g env.locals e cls .none (news ++ frs) s.heap)
  (k : ∀ h' frs', SameUp frs frs' → Frs outer frs' → Stt s0 g env.locals m (news ++ frs') { s with heap := h' } → Fly g env.locals e cls (rawInt env.locals) (news ++ frs') h' → Q () { s with heap := h' }) :
  wpAny (model prog w) A (noteFrame (.ref e) env) Q E s := by
 refine byG fun GG hGG => ?_
 obtain ⟨ob, vs, a0, T, oT, ts, te, tc, td, ta, t1, tT, tdT, t3, tne, tL, tn, tg⟩ := Fl
 refine hGG ?_
 clear hGG GG
 obtain ⟨as, has⟩ : ∃ as, as = [e, T] := ⟨_, rfl⟩
 have hide : ∀ b o, s.heap.get? b = some o → b ≠ e → b ≠ T → (hideAll s.heap as).get? b = some o := fun b o q h1 h2 => hideAll_get _ q (by rw [has]; simp [h1, h2])
 have hnE : (hideAll s.heap as).get? e = none := hideAll_none _ (by rw [has]; simp)
 have S0 : Stt s0 g env.locals m (news ++ frs) { s with heap := hideAll s.heap as } :=
  ⟨same_of S.same, ⟨S.fr.ns.at' fun o q => hide _ _ q (Ne.symm tL.2) (Ne.symm tL.1), fun b o q => hide b o (S.fr.keep b o q) (fun q' => by rw [q', tg.2] at q; cases q) (fun q' => by rw [q', tg.1] at q; cases q), S.fr.above⟩,
   fun p hp => ⟨hide _ _ (S.led p hp).1 (tn p hp).2 (tn p hp).1, (S.led p hp).2⟩, S.nd⟩
 obtain ⟨h_1, hh1⟩ : ∃ h_1, h_1 = s.heap.update T (Obj.mapFields (·.setIfInBounds 3 .none)) := ⟨_, rfl⟩
 have up : ∀ b o, (hideAll s.heap as).get? b = some o → h_1.get? b = some o := fun b o q => by
  have h1 := of_hideAll _ q
  rw [hh1]
  exact (Heap.get?_update_other _ _ fun q' => by rw [← q', hideAll_none _ (by rw [has]; simp)] at q; cases q).trans h1
 have he1 : h_1.get? e = some ob := by rw [hh1]; exact (Heap.get?_update_other _ _ tne).trans te
 have hff : Heap.FunFrames h_1 (hideAll (hideAll s.heap as) (env.locals :: frs.map (·.1))) (env :: outer) := by
  refine Heap.FunFrames.cons (by rw [C.hk]; decide) C.hf (S0.fr.ns.keeps up) (hideAll_none _ (.head _)) (Fs.fun fun p hp => ⟨up _ _ (S0.get (List.mem_append_right _ hp)), hideAll_none _ (.tail _ (List.mem_map_of_mem hp))⟩)
 unfold noteFrame
 simp only [C.hf]
 refine wpAny_bind (wpAny_field te td t1 ?_)
 rw [if_pos (show (Value.ref T != Value.none) = true from by simp)]
 refine wpAny_bind (wpAny_field tT tdT t3 ?_)
 rw [if_neg (show ¬ ((Value.none == rawInt env.locals) = true) from by simp [rawInt])]
 refine wpAny_bind (wpAny_setField tT tdT (Array.getElem?_eq_some_iff.mp t3).1 ?_)
 rw [← hh1]
 refine wpAny_entryW (s := { s with heap := h_1 }) (base := hideAll (hideAll s.heap as) (env.locals :: frs.map (·.1))) C.hA hff C.hf he1 (fun b o q => up b o (of_hideAll _ q)) ?_ td (Array.getElem?_eq_some_iff.mp t1).1 ta fun h' hN => ?_
 ·cases q : (hideAll (hideAll s.heap as) (env.locals :: frs.map (·.1))).get? e with
  | none => rfl
  | some o => have := of_hideAll _ q; rw [hnE] at this; cases this
 refine byG fun GG hGG => ?_
 obtain ⟨k1, _, ⟨oe, vs', T', oT', ts', te', ⟨tc', ta'⟩, td', t1', tb', tne', tT', tdT', t3'⟩, k4⟩ := hN
 refine hGG ?_
 clear hGG GG
 exact note_end (tk := s.toks) S0 Fs (fun b o q hb => k1 b o (hideAll_get _ q hb)) (fun b o q hv => k4 b o (up b o q) hv) (fun b o q hb => by
  intro e'; subst e'
  rw [hideAll_get _ q hb] at tb'; cases tb') hnE te' (tc'.trans tc) td' ta' t1' tne' tT' tdT' t3' fun frs' a b c d => k h' frs' a b c d
theorem leave_made {e : Addr} {ob : Obj} {vs : Array Value} {a0 : Value} {Q : Unit → Shared → Prop} (C : Fm w A env g base outer nm G) (S : Stt s0 g env.locals m (news ++ frs) s) (Fs : Frs outer frs) {h_1 : Heap} {tk : Nat}
  (hk : ∀ b o, s.heap.get? b = some o → h_1.get? b = some o) (hn : s.heap.get? e = none) (he : h_1.get? e = some ob) (hd : ob.data = .fields vs) (h1 : vs[1]? = some .none) (h0 : vs[0]? = some a0)
  (k : ∀ h' frs', SameUp frs frs' → Frs outer frs' → Stt s0 g env.locals m (news ++ frs') { s with heap := h', toks := tk } → Fly g env.locals e ob.cls .none (news ++ frs') h' → Q () { s with heap := h', toks := tk }) :
  wpAny (model prog w) A (leaving env (.ref e)) Q E { s with heap := h_1, toks := tk } := by
 unfold leaving
 exact wpAny_bind (note_here C S Fs hk hn he hd h1 h0 fun h' frs' SU Fs' S_1 Fl => fly_lands S_1 Fl fun h'' S_2 Fl2 => k h'' frs' SU Fs' S_2 Fl2)
theorem sameUp_addr : ∀ {a b : LD}, SameUp a b → b.map (·.1) = a.map (·.1)
 | [], [], _ => rfl
 | [], _ :: _, h => h.elim
 | _ :: _, [], h => h.elim
 | p :: ps, q :: qs, h => by simp only [List.map_cons, sameUp_addr h.2.2, h.1]
theorem fly_back {g' h : Heap} {L L' e : Addr} {cls fl : Value} {news' rest frs frs' frs'' : LD} {oL : Obj} (Fl : Fly g' L' e cls fl (news' ++ frs'') h) (SU : SameUp ((L, oL) :: frs) frs'') (SU' : SameUp frs frs')
  (hr : ∀ p ∈ rest, g'.get? p.1 = some p.2) (hg : ∀ b o, g.get? b = some o → g'.get? b = some o) : Fly g L e cls fl (news' ++ rest ++ frs') h := by
 refine byG fun GG hGG => ?_
 obtain ⟨ob, vs, a0, T, oT, ts, te, tc, td, ta, t1, tT, tdT, t3, tne, tL, tn, tg⟩ := Fl
 refine hGG ?_
 clear hGG GG
 have ha := sameUp_addr SU
 have ha' := sameUp_addr SU'
 have key : ∀ a ∈ L :: frs.map (·.1), a ≠ T ∧ a ≠ e := fun a hm => by
  rw [List.map_cons] at ha
  rw [← ha] at hm
  obtain ⟨p, hp, rfl⟩ := List.mem_map.mp hm
  exact tn p (List.mem_append_right _ hp)
 have hL := key L (.head _)
 refine ⟨ob, vs, a0, T, oT, ts, te, tc, td, ta, t1, tT, tdT, t3, tne, ⟨Ne.symm hL.1, Ne.symm hL.2⟩, fun p hp => ?_, ?_, ?_⟩
 ·rcases List.mem_append.mp hp with hp | hp
  ·rcases List.mem_append.mp hp with hp | hp
   ·exact tn p (List.mem_append_left _ hp)
   ·have := hr p hp
    exact ⟨fun q => (by rw [q, tg.1] at this; cases this), fun q => (by rw [q, tg.2] at this; cases this)⟩
  ·exact key p.1 (.tail _ (by rw [← ha']; exact List.mem_map_of_mem hp))
 ·cases q : g.get? T with
  | none => rfl
  | some o => have := hg _ _ q; rw [tg.1] at this; cases this
 ·cases q : g.get? e with
  | none => rfl
  | some o => have := hg _ _ q; rw [tg.2] at this; cases this
end
section
variable {prog : Program} {w : World} {A : Around} {env : Env} {g base : Heap} {outer : List Env} {nm : List Str} {G : SV}
 {E : VP} {s0 s : Shared} {m : SM} {sub rest frs : LD}
theorem backX {g' : Heap} {L L' : Addr} {m' : SM} {news' frs'' : LD} {oL : Obj} {s_2 : Shared} (S : Stt s0 g L m (sub ++ rest ++ frs) s) (hoL : s.heap.get? L = some oL)
  (hr : ∀ p ∈ rest, g'.get? p.1 = some p.2) (hg : ∀ b o, g.get? b = some o → g'.get? b = some o) (S_2 : Stt s g' L' m' (news' ++ frs'') s_2) (SU : SameUp ((L, oL) :: frs) frs'') :
  ∃ frs', SameUp frs frs' ∧ Stt s0 g L m (news' ++ rest ++ frs') s_2 ∧ frs''.map (·.1) = L :: frs'.map (·.1) := by
 cases frs'' with
 | nil => exact SU.elim
 | cons q qs =>
 obtain ⟨e1, ⟨sl, e2⟩, SU'⟩ := SU
 obtain ⟨qa, qo⟩ := q
 dsimp only at e1 e2
 subst e1 e2
 have nd := S.nd
 have nd2 := S_2.nd
 have ek : ∀ {a b : LD}, SameUp a b → b.map (·.1) = a.map (·.1) := by
  intro a
  induction a with
  | nil => intro b h; cases b with
   | nil => rfl
   | cons _ _ => exact h.elim
  | cons p ps ih => intro b h; cases b with
   | nil => exact h.elim
   | cons q qs => simp only [List.map_cons, ih h.2.2, h.1]
 refine ⟨qs, SU', ⟨?_, ⟨?_, fun b o e => S_2.fr.keep b o (hg b o e), S.fr.above⟩, fun p hp => ?_, ?_⟩, rfl⟩
 ·obtain ⟨h, tk, e⟩ := S_2.same
  obtain ⟨h', tk', e'⟩ := S.same
  exact ⟨h, tk, by rw [e, e']⟩
 ·obtain ⟨o, es, ep, ho, hd, r⟩ := S.fr.ns
  rw [hoL] at ho; cases ho
  exact ⟨_, es, ep, S_2.get (List.mem_append_right _ (.head _)), hd, r⟩
 ·rcases List.mem_append.mp hp with hp | hp
  ·rcases List.mem_append.mp hp with hp | hp
   ·have P := S_2.led p (List.mem_append_left _ hp)
    refine ⟨P.1, fun q => ?_, ?_⟩
    ·simp only [List.map_append, List.nodup_append, List.map_cons] at nd2
     exact nd2.2.2 p.1 (List.mem_map_of_mem hp) _ (.head _) q
    ·cases e : g.get? p.1 with
     | none => rfl
     | some o => have := hg _ _ e; rw [P.2.2] at this; cases this
   ·have P := S.led p (List.mem_append_left _ (List.mem_append_right _ hp))
    exact ⟨S_2.fr.keep _ _ (hr p hp), P.2⟩
  ·have P := S_2.led p (List.mem_append_right _ (.tail _ hp))
   have : p.1 ∈ frs.map (·.1) := by rw [← ek SU']; exact List.mem_map_of_mem hp
   obtain ⟨x, hx, q⟩ := List.mem_map.mp this
   have P' := S.led x (List.mem_append_right _ hx)
   exact ⟨P.1, by rw [← q]; exact P'.2.1, by rw [← q]; exact P'.2.2⟩
 ·simp only [List.map_append, List.nodup_append, List.map_cons, List.nodup_cons, ek SU'] at nd nd2 ⊢
  refine ⟨⟨nd2.1, nd.1.2.1, fun a ha b hb e => ?_⟩, nd.2.1, fun a ha b hb e => ?_⟩
  ·obtain ⟨p, hp, rfl⟩ := List.mem_map.mp ha
   obtain ⟨q, hq, rfl⟩ := List.mem_map.mp hb
   have := hr q hq
   rw [← e, (S_2.led p (List.mem_append_left _ hp)).2.2] at this; cases this
  ·rcases List.mem_append.mp ha with ha | ha
   ·exact nd2.2.2 a ha b (.tail _ hb) e
   ·exact nd.2.2 a (List.mem_append_right _ ha) b hb e
inductive FPost (outer : List Env) (s : Shared) (g' : Heap) (L' : Addr) (oL : Obj) (frs : LD) (s0 : Shared) (g : Heap) (L : Addr) (m : SM) (rest : LD) (Q : VP) (fl : Flow) (s_2 : Shared) : Prop
 | mk (m' : SM) (news' : LD) (frs'' : LD) (S : Stt s g' L' m' (news' ++ frs'') s_2) (U : SameUp ((L, oL) :: frs) frs'') (k : ∀ frs', SameUp frs frs' → Frs outer frs' → Stt s0 g L m (news' ++ rest ++ frs') s_2 → Q (rv fl) s_2) : FPost outer s g' L' oL frs s0 g L m rest Q fl s_2
theorem Fm.callX (C : Fm w A env g base outer nm G) (S : Stt s0 g env.locals m (sub ++ rest ++ frs) s) (Fs : Frs outer frs)
  {f : Addr} {fo : Obj} {name qual : Str} {params : Arguments} {body : List Stmt} {scope : Scope} {cl : List (Str × Addr)} {dV kV doc pm cdv ct : Value} {an : Option Addr}
  {args vs : List Value} {nm' : List Str} {vals' : OV} {G' : SV} {Q : VP}
  (ho : s.heap.get? f = some fo) (hd : fo.data = .func (fnX name qual params body scope cl dV kV doc pm an cdv ct)) (hcd : s.heap.CodeRec cdv qual) (hroom : A.depth < recursionLimit)
  (hbind : BindsTo s (fnX name qual params body scope cl dV kV doc pm an cdv ct) ⟨args, []⟩ (nm'.zip vs)) (hlen : vs.length ≤ nm'.length) (hvals : vals' = vs.map some ++ List.replicate (nm'.length - vs.length) none)
  (hck : ckNames scope nm' G' = true)
  (hcell : ∀ x ∈ scope.names, x.2 ≠ .cell) (hco : scope.isCoroutine = false) (hgen : scope.isGenerator = false) (hkf : scope.kind = .function)
  (h : ∀ g' L' env' s_1 oL, env'.locals = L' → (∀ p ∈ rest, g'.get? p.1 = some p.2) → (∀ b o, g.get? b = some o → g'.get? b = some o) → (∀ b o, g'.get? b = some o → s.heap.get? b = some o) →
   Fm w (A.deeper env') env' g' base (env :: outer) nm' G' → s.heap.get? env.locals = some oL → Frs (env :: outer) ((env.locals, oL) :: frs) →
   Stt s g' L' (lcs nm' vals') (sub ++ (env.locals, oL) :: frs) s_1 →
   WP (model prog w) (A.deeper env') (execs body env')
    (FPost outer s g' L' oL frs s0 g env.locals m rest Q)
    (fun e s_2 => wpAny (model prog w) (A.deeper env') (leaving env' e) (fun _ s3 => Ex3 fun m' news' frs'' => An3 (Stt s g' L' m' (news' ++ frs'') s3) (SameUp ((env.locals, oL) :: frs) frs'') (∀ frs', SameUp frs frs' → Frs outer frs' → Stt s0 g env.locals m (news' ++ rest ++ frs') s3 → E e s3)) NE s_2) s_1) :
  WP (model prog w) A (PySem.call (.ref f) args) Q E s := by
 obtain ⟨oL, es, ep, hL, hLd, hLk, hLf⟩ := S.fr.ns
 have nd := S.nd
 simp only [List.map_append, List.nodup_append] at nd
 obtain ⟨as, has⟩ : ∃ as, as = sub.map (·.1) ++ env.locals :: frs.map (·.1) := ⟨_, rfl⟩
 have gA : ∀ b o, g.get? b = some o → b ∉ as := fun b o e hm => by
  rw [has] at hm
  rcases List.mem_append.mp hm with hm | hm
  ·obtain ⟨p, hp, rfl⟩ := List.mem_map.mp hm
   rw [(S.led p (List.mem_append_left _ (List.mem_append_left _ hp))).2.2] at e; cases e
  ·exact base_off S e hm
 have rA : ∀ p ∈ rest, p.1 ∉ as := fun p hp hm => by
  rw [has] at hm
  rcases List.mem_append.mp hm with hm | hm
  ·exact nd.1.2.2 p.1 hm p.1 (List.mem_map_of_mem hp) rfl
  ·rcases List.mem_cons.mp hm with q | hm
   ·exact (S.led p (List.mem_append_left _ (List.mem_append_right _ hp))).2.1 q
   ·exact nd.2.2 p.1 (List.mem_append_right _ (List.mem_map_of_mem hp)) p.1 hm rfl
 have hgk : ∀ b o, g.get? b = some o → (hideAll s.heap as).get? b = some o := fun b o e => hideAll_get _ (S.fr.keep b o e) (gA b o e)
 have st : g.StaysIn (hideAll s.heap as) := hgk
 have hrk : ∀ p ∈ rest, (hideAll s.heap as).get? p.1 = some p.2 := fun p hp => hideAll_get _ (S.led p (List.mem_append_left _ (List.mem_append_right _ hp))).1 (rA p hp)
 obtain ⟨p, loose, mean, mg, mb, T⟩ := C.T
 have Fs' : Frs (env :: outer) ((env.locals, oL) :: frs) := ⟨by rw [C.hk]; decide, C.hf, ⟨es, ep, hLd⟩, Fs⟩
 simp only [ckNames, Bool.and_eq_true, List.all_eq_true, decide_eq_true_eq] at hck
 obtain ⟨⟨hk1, hk2⟩, hk3⟩ := hck
 have hp1 : ∀ x ∈ nm', scope.names.lookup x = some .local ∧ (x == ("__debug__" : Str)) = false := fun x hx => by
  have := hk1 x hx
  exact ⟨eq_of_beq this.1, by simpa using this.2⟩
 have fin : ∀ {news' frs'' : LD} {L' : Addr} {m' : SM} {s_2 : Shared} {P : Prop}, Stt s (hideAll s.heap as) L' m' (news' ++ frs'') s_2 → SameUp ((env.locals, oL) :: frs) frs'' →
   (∀ frs', SameUp frs frs' → Frs outer frs' → Stt s0 g env.locals m (news' ++ rest ++ frs') s_2 → P) → P := fun S_2 SU k => by
  obtain ⟨frs', SU', S_3, _⟩ := backX S hL hrk hgk S_2 SU
  exact k frs' SU' (Fs.up SU') S_3
 refine ⟨wpAny_call (codeAny_call_def (fd := fnX name qual params body scope cl dV kV doc pm an cdv ct) (body := body) (binds := nm'.zip vs) hroom ho hd (T.nolimit.keeps S.fr.keep) hcd rfl hbind hcell
  (fun y hy => (hp1 y.1 (List.of_mem_zip hy).1).1) (fun h_1 hns hk_1 => ?_) hco hgen hkf)⟩
 refine wpAny_mono (h (hideAll s.heap as) s.heap.objs.size (envX qual scope s.heap.objs.size f cdv cl) _ oL rfl hrk hgk (fun b o e => of_hideAll _ e) ?_ hL Fs' ?_).run (fun fl s_2 hl => ?_) fun e s_2 he => ?_
 ·refine ⟨C.X.keeps st, ⟨p, loose, mean, mg, mb, T.keeps st⟩, trivial, Around.frames_deeper C.hA, rfl, hkf, C.hh, rfl, rfl, hk3, hp1, fun q hq => ?_⟩
  have := hk2 q hq
  exact ⟨eq_of_beq this.1.1, by simpa using this.1.2, gts w q (List.contains_iff_mem.mp this.2)⟩
 ·refine ⟨⟨_, _, rfl⟩, ?_, fun p hp => ?_, ?_⟩
  ·rw [hvals, ← binds_lcs hlen hk3]
   exact ⟨hns, fun b o e => hk_1 b o (of_hideAll _ e), Nat.le_of_eq (hideAll_size _ _)⟩
  ·have hp' : s.heap.get? p.1 = some p.2 ∧ p.1 ∈ as := by
    rw [has]
    rcases List.mem_append.mp hp with hp | hp
    ·exact ⟨S.get (List.mem_append_left _ (List.mem_append_left _ hp)), List.mem_append_left _ (List.mem_map_of_mem hp)⟩
    ·rcases List.mem_cons.mp hp with rfl | hp
     ·exact ⟨hL, List.mem_append_right _ (.head _)⟩
     ·exact ⟨S.get (List.mem_append_right _ hp), List.mem_append_right _ (.tail _ (List.mem_map_of_mem hp))⟩
   exact ⟨hk_1 _ _ hp'.1, Nat.ne_of_lt (Heap.lt_size hp'.1), hideAll_none _ hp'.2⟩
  ·simp only [List.map_append, List.map_cons, List.nodup_append, List.nodup_cons]
   refine ⟨nd.1.1, ⟨fun hm => ?_, nd.2.1⟩, fun a ha b hb e => ?_⟩
   ·obtain ⟨p, hp, q⟩ := List.mem_map.mp hm
    exact (S.led p (List.mem_append_right _ hp)).2.1 q
   ·rcases List.mem_cons.mp hb with q | hb
    ·obtain ⟨p, hp, q'⟩ := List.mem_map.mp ha
     exact (S.led p (List.mem_append_left _ (List.mem_append_left _ hp))).2.1 (by rw [q', e, q])
    ·exact nd.2.2 a (List.mem_append_left _ ha) b hb e
 ·obtain ⟨m', news', frs'', S_2, SU, k⟩ := hl
  have := fin S_2 SU k
  cases fl <;> exact this
 ·refine wpAny_mono he (fun _ s3 hl => ?_) fun _ _ e => e.elim
  obtain ⟨m', news', frs'', S_2, SU, k⟩ := hl
  exact fin S_2 SU k
end
section
variable {prog : Program} {w : World} {A A' : Around} {M : Model} {env : Env} {g base : Heap} {outer : List Env} {nm : List Str} {G : SV}
 {E : VP} {s0 s : Shared} {L : Addr} {m : SM} {vals : OV} {news news' r : LD}
theorem q_nameA (C : Fm w A env g base outer nm G) (S : Stt s0 g env.locals (lcs nm vals) news s) {x : Str} {v : Value} {pos : Pos} {Q : VP}
  (h : Lk x v nm vals) (k : Q v s) : WP M A' (eval (.Name x pos) env) Q E s := ⟨wpAny_Name (wpAny_loadName_local C.hk (C.loc x h.mem).1 S.fr.ns (h.get C.nd) k) (C.loc x h.mem).2⟩
theorem q_globA (C : Fm w A env g base outer nm G) (S : Stt s0 g env.locals m news s) {x : Str} {v : Value} {pos : Pos} {Q : VP}
  (h : (x, v) ∈ G) (k : Q v s) : WP M A' (eval (.Name x pos) env) Q E s := by
 obtain ⟨h1, h2, h3⟩ := C.glo _ h
 obtain ⟨p, loose, mean, mg, mb, T⟩ := C.T
 refine ⟨Name_function_global C.hk h1 ?_ h2⟩
 rcases h3 with h3 | ⟨h3, h4, h5⟩
 ·exact loadGlobal_global (by rw [C.hg]; exact T.g.keeps S.fr.keep) (mg_of C.X T.g h3) k
 ·exact loadGlobal_builtin (by rw [C.hg]; exact T.g.keeps S.fr.keep) (mg_none_of C.X T.g h3) (by rw [C.hb]; exact T.b.keeps S.fr.keep) ((T.builtins x h5).trans h4) k
theorem q_exprA (C : Fm w A env g base outer nm G) {e : Expr} {pos : Pos} {Q : FP} (h : WP (model prog w) A' (eval e env) (fun _ s' => Q .next s') E s) (hn : notComp e = true := by exact rfl) : WP (model prog w) A' (exec (.Expr e pos) env) Q E s :=
 ⟨wpAny_Expr_any h.run (by unfold interactive; rw [C.hk]; rfl) (sw_of hn)⟩
theorem q_while {test : Expr} {body orelse : List Stmt} {pos : Pos} {Q : FP} (I : Nat → Shared → Prop) {n : Nat} (h : I n s)
  (turn : ∀ n s, I n s → WP (model prog w) A (isTrue test env (eval test env)) (fun b s_2 => if b = true then
    WP (model prog w) A (execs body env) (fun f s3 => match f with | .brk => Q .next s3 | .ret v => Q (.ret v) s3 | _ => ∃ k, And (k < n) (I k s3)) NE s_2
   else WP (model prog w) A (execs orelse env) Q NE s_2) NE s) : WP (model prog w) A (exec (.While test body orelse pos) env) Q E s := by
 refine ⟨wpAny_noRaise (whl_start 0 ?_)⟩
 induction n using Nat.strongRecOn generalizing s with
 | _ n ih =>
 have : ∀ k s, WhlRest prog w A (fun _ _ => False) env test body orelse Q k s → WhlRest prog w A (fun _ _ => False) env test body orelse Q 0 s := fun _ _ h => h
 refine this 1 s (whl_turn (k := 0) (fun _ _ x => x.elim) (wpAny_mono (turn n s h).run (fun b s_2 h_2 => ?_) fun _ _ e => e))
 cases b with
 | true =>
  rw [if_pos rfl] at h_2
  refine WhlIf.yes rfl (wpAny_mono h_2.run (fun f s3 h_3 => ?_) fun _ _ e => e)
  cases f with
  | next => obtain ⟨k, hk, hI⟩ := h_3; exact ih k hk hI
  | cont => obtain ⟨k, hk, hI⟩ := h_3; exact ih k hk hI
  | brk => exact h_3
  | ret v => exact h_3
 | false =>
  rw [if_neg Bool.false_ne_true] at h_2
  exact WhlIf.no rfl h_2.run
noncomputable def Catches (prog : Program) (w : World) (A : Around) (env : Env) (hs : List ExceptHandler) (Q : FP) (E : VP) (e : Value) (s : Shared) : Prop :=
 wpAny (model prog w) A (noteFrame e env) (fun _ s_2 => wpAny (model prog w) A (setFlight e none) (fun _ s3 => wpAny (model prog w) A (handleBy e env hs) Q E s3) E s_2) E s
theorem q_tryC {body : List Stmt} {h₀ : ExceptHandler} {hs : List ExceptHandler} {pos : Pos} {Q : FP}
  (h : WP (model prog w) A (execs body env) Q (Catches prog w A env (h₀ :: hs) Q E) s) : WP (model prog w) A (exec (.Try body (h₀ :: hs) [] [] pos) env) Q E s :=
 ⟨wpAny_Try_except (wpAny_mono h.run (fun f s_1 h_1 => by cases f <;> first | exact wpAny_execs_nil h_1 | exact h_1) fun e s_1 he => he)⟩
theorem catch_here {frs : LD} {e : Addr} {ob : Obj} {vs : Array Value} {a0 : Value} {x : Str} {T : String} {b0 : Stmt} {suite : List Stmt} {np pos : Pos} {Q : FP}
  (C : Fm w A env g base outer nm G) (S : Stt s0 g env.locals m (news ++ frs) s) (Fs : Frs outer frs) {h_1 : Heap} {tk : Nat}
  (hk : ∀ b o, s.heap.get? b = some o → h_1.get? b = some o) (hn : s.heap.get? e = none) (he : h_1.get? e = some ob) (hd : ob.data = .fields vs) (h1 : vs[1]? = some .none) (h0 : vs[0]? = some a0) (hc : ob.cls = .type T)
  (hx : (x, .type T) ∈ G) (hexc : isSubtype (.type T) (.type "BaseException") = pure true) (hnt : isSubtype (.type ((Manifest.find? T).elim "type" fun x => x.metatype)) (.type "tuple") = pure false) (hsub : isSubtype (.type T) (.type T) = pure true)
  (k : ∀ s' frs', SameUp frs frs' → Frs outer frs' → Stt s0 g env.locals m (news ++ frs') s' → WP (model prog w) (A.mark (some (.ref e))) (execs (b0 :: suite) env) Q NE s') :
  Catches prog w A env [.ExceptHandler (some (.Name x np)) none (b0 :: suite) pos] Q E (.ref e) { s with heap := h_1, toks := tk } := by
 refine note_here C S Fs hk hn he hd h1 h0 fun h' frs' SU Fs' S_1 Fl => ?_
 refine fly_lands S_1 Fl fun h'' S_2 Fl2 => ?_
 have hX : ∃ o, h''.get? e = some o ∧ o.cls = .type T := by
  obtain ⟨ob', _, _, _, _, _, q1, q2, _⟩ := Fl2
  exact ⟨ob', q1, q2.trans hc⟩
 refine wpAny_handleBy_builtin (X := T) (T := T) (b := true) hexc hnt hsub (wpAny_mono (q_globA (E := NE) C S_2 hx (Q := fun c s_1 => c = .type T ∧ s_1 = { s with heap := h'', toks := tk }) ⟨rfl, rfl⟩).run (fun c s_1 hq => ?_) fun _ _ e => e.elim)
 obtain ⟨rfl, rfl⟩ := hq
 refine ⟨rfl, hX, ?_⟩
 refine if_p rfl ?_
 exact fly_lands S_2 Fl2 fun h_3 S_3 _ => wpAny_mono (k _ frs' SU Fs' S_3).run (fun _ _ q => q) fun _ _ e => e.elim
theorem q_delSub {o i : Expr} {p pos : Pos} {Q : FP}
  (h : WP M A (eval o env) (fun ov s_1 => WP M A (eval i env) (fun iv s_2 => WP M A (delItem ov iv) (fun _ s3 => Q .next s3) E s_2) E s_1) E s) : WP M A (exec (.Delete [.Subscript o i p] pos) env) Q E s := by
 refine ⟨wpAny_Delete (wpAny_deleteEach_cons ?_)⟩
 rw [arm_delete_Subscript]
 refine wpAny_bind (wpAny_mono h.run (fun ov s_1 h_1 => wpAny_bind (wpAny_holding (wpAny_mono h_1.run (fun iv s_2 h_2 => wpAny_bind (wpAny_standAt (wpAny_bind (wpAny_holding (wpAny_mono h_2.run (fun _ s3 h_3 => ?_) fun _ _ e => e))))) fun _ _ e => e))) fun _ _ e => e)
 exact wpAny_release (wpAny_deleteEach_nil h_3)
noncomputable abbrev IsS (prog : Program) (w : World) (o : Obj) (S : Str → Bool) (n : Nat) : Prop := o.SetObjOf (strKind prog w) S n
noncomputable abbrev setObj0 (led : Bool) : Obj := { cls := .type "set", dict := none, data := .set #[] 0 (.fresh 0 0 led) }
theorem isS_new (led : Bool) : IsS prog w (setObj0 led) (fun _ => false) 0 := setObjOf_fresh (knd := strKind prog w) led
theorem q_setnew (S : Stt s0 g L m news s) {Q : VP} (h : ∀ a led s', Stt s0 g L m ((a, setObj0 led) :: news) s' → Q (.ref a) s') : WP (model prog w) A (call (.type "set") []) Q E s :=
 ⟨call_set_0 fun led => h _ led _ (S.push (setObj0 led) s.toks)⟩
theorem q_sin (S : Stt s0 g L m news s) {a : Addr} {o : Obj} {P : Str → Bool} {n : Nat} {x : Str} {t : Tok} {Q : VP} (hm : (a, o) ∈ news) (ho : IsS prog w o P n) (hn : n ≤ 1000)
  (h : ∀ s', Stt s0 g L m news s' → Q (.bool (P x)) s') : WP (model prog w) A (compareOp .In (.str x t) (.ref a)) Q E s :=
 ⟨wpAny_inSet_of (strKind_is prog w x t) rfl (ho.setOf (S.get hm) (Nat.lt_of_le_of_lt hn (by decide))) (h _ (S.tok _))⟩
inductive PSadV (prog : Program) (w : World) (Q : VP) (a : Addr) (v : Value) (s_2 : Shared) : Prop
 | mk (s0 : Shared) (g : Heap) (L : Addr) (m : SM) (r : LD) (ob : _) (P : _) (n : _) (x : _) (t : _) (h1 : v = .str x t) (h2 : Stt s0 g L m ((a, ob) :: r) s_2) (h3 : IsS prog w ob P n) (h4 : n ≤ 900) (h5 : ∀ ob' s', IsS prog w ob' (fun y => P y || decide (y = x)) (if P x then n else n + 1) → Stt s0 g L m ((a, ob') :: r) s' → Q .none s') : PSadV prog w Q a v s_2
inductive PSad (prog : Program) (w : World) (A : Around) (env : Env) (e : Expr) (Q : VP) (E : VP) (ov : Value) (s_1 : Shared) : Prop
 | mk (a : _) (h1 : ov = .ref a) (h2 : (∃ P n, s_1.heap.SetOf (strKind prog w) a P n)) (h3 : WP (model prog w) A (eval e env) (PSadV prog w Q a) E s_1) : PSad prog w A env e Q E ov s_1
end
theorem entry_iterB : entryFor table "iter" = some Builtin.«iter» := entryFor_of_fast (by kernel_rfl)
theorem args_iterB (a : Value) : argsOk "iter" ⟨[a], []⟩ := by unfold argsOk; kernel_rfl
theorem plain_li_next : plainId "list_iterator.__next__" = true := slot_listiter_next.plain
section
variable {prog : Program} {w : World} {A A' : Around} {M : Model} {env : Env} {g base : Heap} {outer : List Env} {nm : List Str} {G : SV}
 {E : VP} {s0 s : Shared} {L : Addr} {m : SM} {vals : OV} {news news' r : LD}
theorem q_iterL (S : Stt s0 g L m news s) {l : Addr} {its : Array Value} {Q : VP} (hl : s.heap.IsList l its)
  (h : ∀ I s', Stt s0 g L m ((I, itObj l 0) :: news) s' → Q (.ref I) s') : WP (model prog w) A (call (.builtin "iter") [.ref l]) Q E s := by
 refine ⟨call_function_entry (by decide +kernel) (by decide +kernel) entry_iterB (args_iterB _) ?_⟩
 unfold Builtin.«iter»
 refine wpAny_bind (m := someArgs "iter" 1 2 _) (wpAny_of_eq (a := [Value.ref l]) (by first | rfl | kernel_rfl!) ?_)
 show wpAny _ _ (pyIter (.ref l) >>= _) _ _ _
 refine wpAny_bind (wpAny_pyIter_list hl ?_)
 exact wpAny_pure ⟨_, rfl, h _ _ (S.push (itObj l 0) s.toks)⟩
theorem q_nextOf (S : Stt s0 g L m news s) {I l : Addr} {i : Nat} {Q : VP} (hI : s.heap.get? I = some (itObj l i))
  (h : ∀ b s', Stt s0 g L m ((b, mwObj I) :: news) s' → Q (.ref b) s') : WP (model prog w) A (getAttr (.ref I) "__next__" true) Q E s :=
 ⟨get_next hI (h _ _ (S.push (mwObj I) _))⟩
theorem keeps_mw {I b : Addr} (h : Heap) (X : h.get? b = some (mwObj I)) : ∃ k, (k = Keeper.frame ∨ k = Keeper.machine ∨ k = Keeper.boundFrame) ∧ Looks M h (keeperOf (.ref b)) k :=
 ⟨.machine, .inr (.inl rfl), (Looks.ld (part := none) X).andThen .now⟩
theorem q_cwMW {pos : Pos} {b I : Addr} {Q : VP} (X : s.heap.get? b = some (mwObj I)) (h : WP M A (call (.ref b) []) Q E s) :
  WP M A (callWith pos (.ref b) [] (backTo pos (starEach [] env)) []) Q E s :=
 ⟨callWith_of (P := fun h => h.get? b = some (mwObj I)) rfl (fun h X => keeps_mw h X) (evalArgs_nil3 ⟨X, h.run⟩)⟩
theorem call_mw {b I : Addr} {Q : VP} (X : s.heap.get? b = some (mwObj I))
  (h : wpAny (model prog w) A.in1 (Builtin.«list_iterator.__next__» ⟨[.ref I], []⟩) (fun fin s' => ∃ v, And (fin = .done (.ret v)) (Q v s')) E s) : wpAny (model prog w) A (call (.ref b) []) Q E s := by
 refine wpAny_call (codeAny_of_tree ?_)
 show wpAny _ A.in1 (callAny (.ref b) ⟨[], []⟩) _ _ _
 unfold callAny
 refine wpAny_bind (wpAny_load X ?_)
 show wpAny _ _ (if (((Value.type "method-wrapper" == Value.type "method") || (Value.type "method-wrapper" == Value.type "builtin_function_or_method")) || (Value.type "method-wrapper" == Value.type "method-wrapper")) = true then _ else _) _ _ _
 rw [if_pos (by rfl)]
 show wpAny _ _ (if (Value.type "method-wrapper" != Value.type "method") = true then _ else _) _ _ _
 rw [if_pos (by rfl)]
 refine wpAny_bind (wpAny_of_eq (bound_li_next (.ref I)) (wpAny_pure ⟨plainId_quiet plain_li_next _, codeAny_builtin entry_listiter_next ?_⟩))
 rw [Around.under_plainId plain_li_next _]
 refine wpAny_mono h (fun fin s' hq => ?_) fun _ _ e => e
 obtain ⟨v, rfl, hq⟩ := hq
 exact hq
theorem q_nextItem (S : Stt s0 g L m news s) {b I l : Addr} {i : Nat} {vs : List Value} {n : Nat} {x : Value} {Q : VP} (hb : s.heap.get? b = some (mwObj I)) (hI : s.heap.get? I = some (itObj l i)) (hl : s.heap.get? l = some (W.listOf vs.toArray n)) (hx : vs[i]? = some x)
  (U : Ch I (itObj l i) (itObj l (i + 1)) news news') (h : ∀ s', Stt s0 g L m news' s' → Q x s') : WP (model prog w) A (call (.ref b) []) Q E s := by
 refine ⟨call_mw hb ?_⟩
 show wpAny _ _ (field (.ref I) 0 >>= _) _ _ s
 refine wpAny_bind (wpAny_field hI rfl (x := .ref l) rfl ?_)
 show wpAny _ _ (if (Value.ref l == Value.none) = true then _ else _) _ _ s
 rw [if_neg (show ¬ ((Value.ref l == Value.none) = true) from Bool.false_ne_true)]
 show wpAny _ _ (field (.ref I) 1 >>= _) _ _ s
 refine wpAny_bind (wpAny_field hI rfl (x := .int i 0) rfl ?_)
 show wpAny _ _ (seqItems? (.ref l) >>= _) _ _ s
 refine wpAny_bind (wpAny_seqItems hl rfl ?_)
 have hx' : vs.toArray[i]? = some x := by simpa using hx
 simp only [Int.toNat_natCast, hx']
 refine wpAny_bind (wpAny_setField hI rfl (by simp) (wpAny_pure ⟨x, rfl, h _ (S.upd s.toks U ?_)⟩))
 show Obj.mapFields _ _ = _
 simp [Obj.mapFields, rawInt]
noncomputable abbrev itDone (i : Nat) : Obj := { cls := .type "list_iterator", data := .fields #[.none, .int i 0] }
theorem q_nextEnd (hh : A.handled = none) (S : Stt s0 g L m news s) {b I l : Addr} {i : Nat} {vs : List Value} {n : Nat} {Q : VP} (hb : s.heap.get? b = some (mwObj I)) (hI : s.heap.get? I = some (itObj l i)) (hl : s.heap.get? l = some (W.listOf vs.toArray n)) (hx : vs[i]? = none)
  (U : Ch I (itObj l i) (itDone i) news news') (h : ∀ s_1 h_1 tk e ob vs a0, Stt s0 g L m news' s_1 → (∀ b o, s_1.heap.get? b = some o → h_1.get? b = some o) → s_1.heap.get? e = none → h_1.get? e = some ob → ob.data = .fields vs → vs[1]? = some .none → vs[0]? = some a0 → ob.cls = .type "StopIteration" → E (.ref e) { s_1 with heap := h_1, toks := tk }) :
  WP (model prog w) A (call (.ref b) []) Q E s := by
 refine ⟨call_mw hb ?_⟩
 show wpAny _ _ (field (.ref I) 0 >>= _) _ _ s
 refine wpAny_bind (wpAny_field hI rfl (x := .ref l) rfl ?_)
 show wpAny _ _ (if (Value.ref l == Value.none) = true then _ else _) _ _ s
 rw [if_neg (show ¬ ((Value.ref l == Value.none) = true) from Bool.false_ne_true)]
 show wpAny _ _ (field (.ref I) 1 >>= _) _ _ s
 refine wpAny_bind (wpAny_field hI rfl (x := .int i 0) rfl ?_)
 show wpAny _ _ (seqItems? (.ref l) >>= _) _ _ s
 refine wpAny_bind (wpAny_seqItems hl rfl ?_)
 have hx' : vs.toArray[i]? = none := by simpa using hx
 simp only [Int.toNat_natCast, hx']
 refine wpAny_bind (wpAny_rule (wpAny_bind (wpAny_setField hI rfl (by simp) ?_)))
 show wpAny _ _ (newExc (.type "StopIteration") [] >>= _) _ _ _
 refine wpAny_bind ?_
 simp only [newExc, newTuple]
 refine wpAny_bind (wpAny_newObj_type ?_ (by size_fits))
 refine wpAny_bind (m := firstArgMember _ _) (wpAny_of_eq (a := Value.none) (by first | rfl | (simp only [firstArgMember]; rfl)) ?_)
 refine wpAny_newObj_type ?_ (by size_fits)
 simp only [raiseNew]
 refine wpAny_bind (wpAny_handled ?_)
 rw [show A.in1.handled = none from hh]
 refine wpAny_bind (wpAny_pure (wpAny_throw ?_))
 have S_1 := S.upd (f := Obj.mapFields fun x => x.setIfInBounds 0 Value.none) s.toks U (by show Obj.mapFields _ _ = _; simp [Obj.mapFields])
 refine h { s with heap := s.heap.update I (Obj.mapFields fun x => x.setIfInBounds 0 Value.none), toks := s.toks } _ s.toks _ _ _ (.ref (s.heap.update I (Obj.mapFields fun x => x.setIfInBounds 0 Value.none)).objs.size) S_1 (fun b o q => Heap.get?_push_of_some _ (Heap.get?_push_of_some _ q)) (Heap.get?_none_of_le (by rw [Heap.size_push]; exact Nat.le_succ _)) (Heap.get?_push_size _ rfl) rfl ?_ ?_ rfl
 ·rw [Array.getElem?_append_left (by simp)]; rfl
 ·rw [Array.getElem?_append_left (by simp)]; rfl
end
inductive Topo (sc : Str → List Str) : List Str → Prop where
 | nil : Topo sc []
 | cons {f l} : (∀ v ∈ sc f, v ∈ l) → Topo sc l → Topo sc (f :: l)
inductive Path (sc : Str → List Str) : Str → Str → Prop where
 | one {u v} : v ∈ sc u → Path sc u v
 | step {u v w} : Path sc u v → w ∈ sc v → Path sc u w
theorem Topo.closed {sc : Str → List Str} {l : List Str} (h : Topo sc l) : ∀ {u v : Str}, u ∈ l → v ∈ sc u → v ∈ l := by
 induction h with
 | nil => intro u v h; cases h
 | cons h1 h2 ih =>
  intro u v hu hv
  rcases List.mem_cons.mp hu with rfl | hu
  ·exact .tail _ (h1 v hv)
  ·exact .tail _ (ih hu hv)
structure En where
 (p : Nd) (i : Nat) (b I : Addr) (t : Tok)
noncomputable abbrev En.nm (e : En) : Str := e.p.nm
noncomputable def enLed (es : List En) : LD := es.flatMap fun e => [(e.b, mwObj e.I), (e.I, itObj e.p.l e.i)]
noncomputable def Chain (fin : List Str) : Str → List En → Prop
 | _, [] => True
 | v, e :: r => (1 ≤ e.i ∧ e.p.ss[e.i - 1]? = some v ∧ ∀ w ∈ e.p.ss.take (e.i - 1), w ∈ fin) ∧ Chain fin e.nm r
theorem Chain.mono {fin fin' : List Str} (h : ∀ y ∈ fin, y ∈ fin') : ∀ {r : List En} {v : Str}, Chain fin v r → Chain fin' v r
 | [], _, _ => trivial
 | _ :: _, _, ⟨⟨a, b, c⟩, d⟩ => ⟨⟨a, b, fun w hw => h w (c w hw)⟩, d.mono h⟩
noncomputable def Inner (fin : List Str) : List En → Prop
 | [] => True
 | e :: r => (∀ w ∈ e.p.ss.take e.i, w ∈ fin) ∧ Chain fin e.nm r
noncomputable def wt (es : List En) : Nat := (es.map fun e => e.p.ss.length - e.i).sum
noncomputable def unseen (names : List Str) (P : Str → Bool) : Nat := (names.filter fun y => !P y).length
theorem unseen_le (names : List Str) (P : Str → Bool) (x : Str) : unseen names (fun y => P y || decide (y = x)) ≤ unseen names P := by
 unfold unseen
 induction names with
 | nil => simp
 | cons a r ih =>
  by_cases h2 : a = x
  ·subst h2
   by_cases h1 : P a = true <;> simp [List.filter_cons, h1] at * <;> lia
  ·by_cases h1 : P a = true <;> simp [List.filter_cons, h1, h2] at * <;> with_reducible assumption
theorem unseen_lt {names : List Str} {P : Str → Bool} {x : Str} (hx : x ∈ names) (hP : P x = false) : unseen names (fun y => P y || decide (y = x)) + 1 ≤ unseen names P := by
 induction names with
 | nil => cases hx
 | cons a r ih =>
  by_cases h2 : a = x
  ·subst h2
   have := unseen_le r P a
   unfold unseen at *
   simp only [List.filter_cons, hP]
   simp
   simpa using this
  ·have hx' : x ∈ r := by
    rcases List.mem_cons.mp hx with e | h
    ·exact absurd e.symm h2
    ·exact h
   have := ih hx'
   unfold unseen at *
   simp only [List.filter_cons]
   by_cases h1 : P a = true <;> simp [h1, h2] at * <;> with_reducible assumption
structure Inv (sc : Str → List Str) (ns : List Nd) (fin : List Str) (P : Str → Bool) (cnt : Nat) (es : List En) : Prop where
 topo : Topo sc fin
 nd : (fin ++ es.map En.nm).Nodup
 seen : ∀ y, P y = true ↔ y ∈ fin ∨ y ∈ es.map En.nm
 inn : ∀ e ∈ es, e.p ∈ ns
 few : cnt + unseen (ns.map Nd.nm) P ≤ ns.length
 len : fin.length + es.length = cnt
theorem Chain.path {sc : Str → List Str} {ns : List Nd} (hsc : ∀ p ∈ ns, sc p.nm = p.ss) {fin : List Str} : ∀ {r : List En} {v : Str}, (∀ e ∈ r, e.p ∈ ns) → Chain fin v r → ∀ u ∈ r.map En.nm, Path sc u v
 | e :: r, v, hin, ⟨⟨h1, h2, _⟩, h3⟩, u, hu => by
  have hv : v ∈ sc e.nm := by rw [show sc e.nm = e.p.ss from hsc _ (hin e (.head _))]; exact List.mem_of_getElem? h2
  rcases List.mem_cons.mp hu with rfl | hu
  ·exact .one hv
  ·exact .step (Chain.path hsc (fun e he => hin e (.tail _ he)) h3 u hu) hv
theorem Chain.inner {fin : List Str} {v : Str} : ∀ {r : List En}, Chain fin v r → v ∈ fin → Inner fin r
 | [], _, _ => trivial
 | e :: r, ⟨⟨h1, h2, h3⟩, h4⟩, hv => by
  refine ⟨fun w hw => ?_, h4⟩
  have e1 : e.i = (e.i - 1) + 1 := by lia
  rw [e1, List.take_add_one, h2] at hw
  rcases List.mem_append.mp hw with hw | hw
  ·exact h3 w hw
  ·simp at hw; subst hw; exact hv
theorem Inv.pop {sc : Str → List Str} {ns : List Nd} (hsc : ∀ p ∈ ns, sc p.nm = p.ss) {fin : List Str} {P : Str → Bool} {cnt : Nat} {e : En} {r : List En} (I : Inv sc ns fin P cnt (e :: r)) (h : Inner fin (e :: r)) (he : e.p.ss[e.i]? = none) :
  Inv sc ns (e.nm :: fin) P cnt r ∧ Inner (e.nm :: fin) r := by
 have hall : ∀ v ∈ sc e.nm, v ∈ fin := fun v hv => by
  rw [show sc e.nm = e.p.ss from hsc _ (I.inn e (.head _))] at hv
  refine h.1 v ?_
  rw [List.take_of_length_le (List.getElem?_eq_none_iff.mp he)]; exact hv
 refine ⟨⟨.cons hall I.topo, ?_, fun y => ?_, fun x hx => I.inn x (.tail _ hx), I.few, by have := I.len; simp at this ⊢; lia⟩, ?_⟩
 ·have := I.nd
  rw [List.map_cons] at this
  exact (List.perm_middle.nodup_iff).mp this
 ·rw [I.seen]
  simp only [List.map_cons, List.mem_cons]
  constructor
  ·rintro (h | h | h)
   ·exact .inl (.inr h)
   ·exact .inl (.inl h)
   ·exact .inr h
  ·rintro ((h | h) | h)
   ·exact .inr (.inl h)
   ·exact .inl h
   ·exact .inr (.inr h)
 ·exact (h.2.mono fun y hy => .tail _ hy).inner (.head _)
theorem Inner.next {fin : List Str} {e : En} {r : List En} {v : Str} (h : Inner fin (e :: r)) (he : e.p.ss[e.i]? = some v) : Chain fin v ({ e with i := e.i + 1 } :: r) :=
 ⟨⟨Nat.le_add_left _ _, he, fun w hw => h.1 w hw⟩, h.2⟩
theorem Inv.next {sc : Str → List Str} {ns : List Nd} {fin : List Str} {P : Str → Bool} {cnt : Nat} {e : En} {r : List En} (I : Inv sc ns fin P cnt (e :: r)) (i : Nat) : Inv sc ns fin P cnt ({ e with i := i } :: r) :=
 ⟨I.topo, I.nd, I.seen, fun x hx => by
  rcases List.mem_cons.mp hx with rfl | hx
  ·exact I.inn e (.head _)
  ·exact I.inn x (.tail _ hx), I.few, by have := I.len; simpa using this⟩
theorem Inv.push {sc : Str → List Str} {ns : List Nd} {fin : List Str} {P : Str → Bool} {cnt : Nat} {e : En} {r : List En} (I : Inv sc ns fin P cnt r) (he : e.p ∈ ns) (hP : P e.nm = false) :
  Inv sc ns fin (fun y => P y || decide (y = e.nm)) (cnt + 1) (e :: r) := by
 have hno : ¬ (e.nm ∈ fin ∨ e.nm ∈ r.map En.nm) := fun h => by
  have := (I.seen e.nm).mpr h
  rw [hP] at this; cases this
 refine ⟨I.topo, ?_, fun y => ?_, fun x hx => ?_, ?_, by have := I.len; simp; lia⟩
 ·rw [List.map_cons]
  refine (List.perm_middle.nodup_iff).mpr ?_
  rw [List.nodup_cons]
  exact ⟨fun h => hno (List.mem_append.mp h), I.nd⟩
 ·simp only [Bool.or_eq_true, decide_eq_true_eq, I.seen, List.map_cons, List.mem_cons]
  constructor
  ·rintro ((h | h) | h)
   ·exact .inl h
   ·exact .inr (.inr h)
   ·exact .inr (.inl h)
  ·rintro (h | h | h)
   ·exact .inl (.inl h)
   ·exact .inr h
   ·exact .inl (.inr h)
 ·rcases List.mem_cons.mp hx with rfl | hx
  ·exact he
  ·exact I.inn x hx
 ·have h5 : unseen (ns.map Nd.nm) (fun y => P y || decide (y = e.nm)) + 1 ≤ unseen (ns.map Nd.nm) P := unseen_lt (names := ns.map Nd.nm) (x := e.nm) (List.mem_map_of_mem he) hP
  have := I.few
  lia
section
variable {prog : Program} {w : World} {A : Around} {env : Env} {g : Heap} {E : VP} {s0 s : Shared} {L : Addr} {m : SM} {news : LD}
theorem q_dsubH (S : Stt s0 g L m news s) {d : Addr} {kvs : SV} {x : Str} {t : Tok} {v : Value} {value slice : Expr} {Q : VP} (hD : s.heap.DictOf (strKind prog w) d kvs) (hv : valueAt kvs x = some v)
  (h : ∀ s', Stt s0 g L m news s' → s'.heap = s.heap → Q v s')
  (hs : subscripted slice false (.ref d) (.str x t) = operate [.ref d, .str x t] (getItem (.ref d) (.str x t)) := by with_unfolding_all exact rfl) : WP (model prog w) A (subscriptTail value slice (.ref d) (.str x t)) Q E s :=
 ⟨tail_any hD.typeIs slot_dict_getitem.lookup (wpAny_getItem_of (strKind_is prog w x t) hD.mapOf hv (h _ (S.tok _) rfl)) hs⟩
theorem q_dsetU {d : Addr} {o : Obj} (S : Stt s0 g L m news s) (f : Obj → LD) (U : ∀ o', Ch d o o' news (f o')) (hm : (d, o) ∈ news) {kvs : SV} {x : Str} {t : Tok} {v : Value} {Q : Unit → Shared → Prop} (hd : IsD prog w o kvs) (hz : kvs.length ≤ 1000)
  (h : ∀ o' s', IsD prog w o' (stored kvs x v) → Stt s0 g L m (f o') s' → Q () s') : WP (model prog w) A (setItem (.ref d) (.str x t) v) Q E s := by
 refine ⟨wpAny_setItem_pairs (hsz := Nat.le_trans hz (by decide)) (strKind_is prog w x t) (dictAt S hm hd) fun h' hm hs => ?_⟩
 obtain ⟨o', ho', hd'⟩ := Heap.dictOf_iff.mp hm
 exact h o' _ hd' (S.setAt _ (U o') hs ho')
theorem q_ddelU {d : Addr} {o : Obj} (S : Stt s0 g L m news s) (f : Obj → LD) (U : ∀ o', Ch d o o' news (f o')) (hm : (d, o) ∈ news) {kvs : SV} {x : Str} {t : Tok} {Q : Unit → Shared → Prop} (hd : IsD prog w o kvs) (hz : kvs.length ≤ 1000) (hx : (valueAt kvs x).isSome = true)
  (h : ∀ o' s', IsD prog w o' (without kvs x) → Stt s0 g L m (f o') s' → Q () s') : WP (model prog w) A (delItem (.ref d) (.str x t)) Q E s := by
 have hD : s.heap.DictOf (strKind prog w) d kvs := dictAt S hm hd
 refine ⟨?_⟩
 unfold delItem
 try with_reducible refine wpAny_holding ?_
 refine wpAny_bind (wpAny_sequenceKey hD.typeIs (by decide) ?_)
 refine wpAny_bind (wpAny_callSpecial?_slot (name := Str.ofString "__delitem__") hD.typeIs PySem.F.slot_dict_delitem
  (call_meetsIn PySem.F.slot_dict_delitem hD.typeIs PySem.F.entry_dict_delitem (PySem.F.args_dict_delitem_2 _ _) (meets_dict_delitem_pairs (strKind prog w) d (strKind_is prog w x t)) ⟨kvs, hD, Nat.le_trans hz (by decide), hx, fun h' hmm hs => ?_⟩))
 obtain ⟨o', ho', hd'⟩ := Heap.dictOf_iff.mp hmm
 exact wpAny_pure (h o' _ hd' (S.setAt _ (U o') hs ho'))
inductive PSauV (prog : Program) (w : World) (Q : VP) (a : Addr) (v : Value) (s_2 : Shared) : Prop
 | mk (s0 : Shared) (g : Heap) (L : Addr) (m : SM) (news : LD) (f : Obj → LD) (ob : _) (P : _) (n : _) (x : _) (t : _) (h1 : v = .str x t) (h2 : Stt s0 g L m news s_2) (h3 : (a, ob) ∈ news) (h4 : (∀ o', Ch a ob o' news (f o'))) (h5 : IsS prog w ob P n) (h6 : n ≤ 900) (h7 : ∀ ob' s', IsS prog w ob' (fun y => P y || decide (y = x)) (if P x then n else n + 1) → Stt s0 g L m (f ob') s' → Q .none s') : PSauV prog w Q a v s_2
inductive PSau (prog : Program) (w : World) (A : Around) (env : Env) (e : Expr) (Q : VP) (E : VP) (ov : Value) (s_1 : Shared) : Prop
 | mk (a : _) (h1 : ov = .ref a) (h2 : (∃ P n, s_1.heap.SetOf (strKind prog w) a P n)) (h3 : WP (model prog w) A (eval e env) (PSauV prog w Q a) E s_1) : PSau prog w A env e Q E ov s_1
theorem q_saddU {o e : Expr} {apos pos : Pos} {Q : VP}
  (h : WP (model prog w) A (eval o env) (PSau prog w A env e Q E) E s)
  (hbase : attributeBase o "add" env (eval o env) = eval o env := by exact rfl)
  (hfew : ((backTo pos (starEach [e] env)).all (fun x => !x.1) && (backToKw pos (keywordEach [] env)).all (fun x => x.1.isSome)
   && decide (([e] : List Expr).length + ([] : List Keyword).length + (if ([] : List Keyword).isEmpty then 0 else 1) < 30)) = true := by exact rfl)
  (hline : (apos.endLine == pos.line) = true := by exact rfl) (htr : backTo pos (starEach [e] env) = [(false, eval e env)] := by exact rfl) :
  WP (model prog w) A (eval (.Call (.Attribute o "add" apos) [e] [] pos) env) Q E s := by
 refine q_meth1 F.plainAttrs_set F.slot_set_add F.type_set_add (q_mono h fun ov s_1 h_1 => ?_) hbase hfew hline htr
 obtain ⟨a, rfl, ⟨P0, n0, hS⟩, hc⟩ := h_1
 refine ⟨hS.typeIs, hS.noDict, ⟨callWith_builtin rfl (evalArgs_plain (spliced_cons (wpAny_mono hc.run (fun v s_2 h_2 => spliced_nil ?_) fun _ _ e => e)))⟩⟩
 obtain ⟨s0, g, L, m, news, f, ob, P, n, x, t, rfl, S, hm, U, ho, hn, q⟩ := h_2
 have hb : scanBound = 4096 := rfl
 refine call_set_add (strKind_is prog w x t) rfl (ho.setOf (S.get hm) (by omega)) (by omega) fun h' hs hS' => ?_
 obtain ⟨o', ho', hso⟩ := hS'.objOf
 exact q o' _ hso (S.setAt _ (U o') hs ho')
end
noncomputable abbrev idxR (kv : Str × Value) (p : Str × Nat) : Prop := kv.1 = p.1 ∧ ∃ t, kv.2 = .int (p.2 : Nat) t
noncomputable def svsOf (es : List En) : List Value := es.reverse.map fun e => Value.str e.nm e.t
noncomputable def ivsOf (es : List En) : List Value := es.reverse.map fun e => Value.ref e.b
noncomputable def nmsOf (es : List En) : List Str := es.reverse.map En.nm
theorem svsOf_cons (e : En) (es : List En) : svsOf (e :: es) = svsOf es ++ [Value.str e.nm e.t] := by unfold svsOf; simp
theorem ivsOf_cons (e : En) (es : List En) : ivsOf (e :: es) = ivsOf es ++ [Value.ref e.b] := by unfold ivsOf; simp
theorem nmsOf_cons (e : En) (es : List En) : nmsOf (e :: es) = nmsOf es ++ [e.nm] := by unfold nmsOf; simp
theorem svsOf_len (es : List En) : (svsOf es).length = es.length := by unfold svsOf; simp
theorem ivsOf_len (es : List En) : (ivsOf es).length = es.length := by unfold ivsOf; simp
theorem nmsOf_len (es : List En) : (nmsOf es).length = es.length := by unfold nmsOf; simp
theorem nmsOf_mem {es : List En} {y : Str} : y ∈ nmsOf es ↔ y ∈ es.map En.nm := by unfold nmsOf; simp
theorem idx_keys {kvs : SV} {l : List (Str × Nat)} (h : All2 idxR kvs l) : kvs.map (·.1) = l.map (·.1) := by
 induction h with
 | nil => rfl
 | cons h _ ih => rw [List.map_cons, List.map_cons, h.1, ih]
theorem zipIdx_fst (l : List Str) : (l.zipIdx).map (·.1) = l := by simp
theorem idx_val {kvs : SV} {l : List Str} (h : All2 idxR kvs l.zipIdx) {x : Str} (hx : x ∈ l) : ∃ j t, valueAt kvs x = some (.int ((j : Nat) : Int) t) ∧ j < l.length := by
 have hk : x ∈ kvs.map (·.1) := by rw [idx_keys h, zipIdx_fst]; exact hx
 obtain ⟨kv, hkv, e⟩ := List.mem_map.mp hk
 unfold valueAt
 cases hf : kvs.find? (fun kv => decide (kv.1 = x)) with
 | none => have := List.find?_eq_none.mp hf kv hkv; simp [e] at this
 | some kv' =>
  have h1 := List.mem_of_find?_eq_some hf
  obtain ⟨p, hp, h2, t, h3⟩ := h.mem h1
  refine ⟨p.2, t, by simp [h3], ?_⟩
  have := List.snd_lt_of_mem_zipIdx hp
  omega
theorem idx_off {kvs : SV} {l : List Str} (h : All2 idxR kvs l.zipIdx) {x : Str} (hx : x ∉ l) : ∀ kv ∈ kvs, kv.1 ≠ x := by
 intro kv hkv e
 apply hx
 rw [← zipIdx_fst l, ← idx_keys h]
 exact e ▸ List.mem_map_of_mem hkv
theorem idx_stored {kvs : SV} {l : List Str} (h : All2 idxR kvs l.zipIdx) {x : Str} (hx : x ∉ l) (t : Tok) : All2 idxR (stored kvs x (.int (l.length : Nat) t)) ((l ++ [x]).zipIdx) := by
 have : stored kvs x (.int (l.length : Nat) t) = kvs ++ [(x, .int (l.length : Nat) t)] := by
  unfold stored
  rw [if_neg]
  simp only [List.any_eq_true, not_exists, not_and]
  intro kv hkv
  simpa using idx_off h hx kv hkv
 rw [this, List.zipIdx_append]
 refine h.snoc ⟨rfl, t, ?_⟩
 simp
theorem all2_append_inv {α β : Type} {R : α → β → Prop} {as : List α} {bs : List β} {b : β} (h : All2 R as (bs ++ [b])) : ∃ as' a, as = as' ++ [a] ∧ All2 R as' bs ∧ R a b := by
 induction bs generalizing as with
 | nil => cases h with | cons h h2 => cases h2; exact ⟨[], _, rfl, .nil, h⟩
 | cons c bs ih => cases h with
  | cons h r =>
   obtain ⟨as', a, rfl, h1, h2⟩ := ih r
   exact ⟨_ :: as', a, rfl, .cons h h1, h2⟩
theorem idx_without {kvs : SV} {l : List Str} {x : Str} (h : All2 idxR kvs ((l ++ [x]).zipIdx)) (hx : x ∉ l) : All2 idxR (without kvs x) l.zipIdx := by
 rw [List.zipIdx_append] at h
 obtain ⟨as, a, rfl, h1, h2⟩ := all2_append_inv h
 have e : a.1 = x := by have := h2.1; simpa using this
 have : without (as ++ [a]) x = as := by
  unfold without
  rw [List.filter_append]
  simp only [List.filter_cons, e, ne_eq, not_true_eq_false, decide_false, Bool.false_eq_true, if_false, List.filter_nil, List.append_nil]
  refine List.filter_eq_self.mpr fun kv hkv => ?_
  simpa using idx_off h1 hx kv hkv
 rw [this]; exact h1
noncomputable def CycSt (prog : Program) (w : World) (sk ik se ds : Addr) (P : Str → Bool) (cnt : Nat) (es : List En) (own : LD) : Prop :=
 ∃ n1 n2 so od kvs, own = (sk, W.listOf (svsOf es).toArray n1) :: (ik, W.listOf (ivsOf es).toArray n2) :: (se, so) :: (ds, od) :: enLed es ∧ IsS prog w so P cnt ∧ IsD prog w od kvs ∧ All2 idxR kvs (nmsOf es).zipIdx
theorem q_cwT0 {M : Model} {A : Around} {E : VP} {s : Shared} {env : Env} {pos : Pos} {T : String} {Q : VP} (h : WP M A (call (.type T) []) Q E s) : WP M A (callWith pos (.type T) [] (backTo pos (starEach [] env)) []) Q E s := ⟨callWith_type0 h.run⟩
theorem perm4 {α : Type} {a b c d : α} {r : List α} : (a :: b :: c :: d :: r).Perm (d :: c :: b :: a :: r) :=
 List.Perm.append_right r (List.reverse_perm [a, b, c, d]).symm
theorem q_noE {α : Type} {M : Model} {A : Around} {E : VP} {s : Shared} {t : Sem α} {Q : α → Shared → Prop} (h : WP M A t Q NE s) : WP M A t Q E s := ⟨wpAny_mono h.run (fun _ _ q => q) fun _ _ e => e.elim⟩
theorem cycle_spec {w : World} {A : Around} {env : Env} {g base : Heap} {outer : List Env} {nm : List Str} {G : SV} {s0 s : Shared} {m : SM} {rest frs : LD}
  {E : VP} {x dx d : Addr} {q : SD} {od : Obj} {ns : List Nd} {F : NP} {sc : Str → List Str} {Q : VP} :
  (hK w.params).In g → ∀ (C : Fm w A env g base outer nm G) (S : Stt s0 g env.locals m (([] ++ rest) ++ frs) s) (Fs : Frs outer frs) (hd : A.depth + 20 < recursionLimit)
  (hI : IsD PySem.Challenge.rw_rt0104_01.row.prog w od (kvsOf ns)) (lo : (d == sysModules) = false) (h1 : q.v1 = .ref d) (hx : (x, sortObj dx) ∈ rest) (hdx : (dx, dictOf (SD.es q) 4) ∈ rest) (hdd : (d, od) ∈ rest) (hndl : ∀ p ∈ ndsLed (reNp ns F), p ∈ rest)
  (hsc : ∀ p ∈ ns, sc p.nm = p.ss ∧ NdOk 100 p ∧ ∀ z ∈ p.ss, z ∈ ns.map Nd.nm) (hns : ns.length ≤ 100)
  (k : ∀ v s' frs' nw, SameUp frs frs' → Frs outer frs' → Stt s0 g env.locals m (nw ++ rest ++ frs') s' →
   ((v = .none ∧ ∃ fin, Topo sc fin ∧ fin.Nodup ∧ ∀ y ∈ ns.map Nd.nm, y ∈ fin) ∨ ∃ l vs n, v = .ref l ∧ (l, W.listOf vs.toArray n) ∈ nw ∧ vs ≠ [] ∧ vs.length ≤ 1000 ∧ ∃ y ∈ ns.map Nd.nm, Path sc y y) → Q v s'),
  WP (model PySem.Challenge.rw_rt0104_01.row.prog w) A (call (.ref 127) [.ref x]) Q E s := by
 k_fill
 intro X C S Fs hd hI lo h1 hx hdx hdd hndl hsc hns k
 have e1 : getL "_node2info" (SD.es q) = some (some (.ref d)) := by rw [← h1]; rfl
 have hsc' : ∀ p ∈ ns, sc p.nm = p.ss := fun p hp => (hsc p hp).1
 have hnd : (ns.map Nd.nm).Nodup := by
  refine byG fun GG hGG => ?_
  obtain ⟨es, ep, _, _, _, _, nd⟩ := hI
  refine hGG ?_
  clear hGG GG
  unfold kvsOf at nd
  rwa [List.map_map] at nd
 have X' : (hK w.params).In s.heap := C.X.keeps S.fr.keep
 refine C.callX (sub := []) (rest := rest) S Fs (cl := []) (nm' := ["self", "n2i", "stack", "itstack", "seen", "node2stacki", "node"]) (vs := [.ref x]) (vals' := [some (.ref x), none, none, none, none, none, none]) (G' := [("set", .type "set"), ("iter", .builtin "iter"), ("len", .builtin "len"), ("StopIteration", .type "StopIteration")]) (X' _ _ (by k_is)) rfl (codeRec_of X' (by k_is)) (by lia) (BindsTo.of_eq rfl) (Nat.le_of_ble_eq_true rfl) rfl (by decide +kernel) (by decide +kernel) rfl rfl rfl ?_
 intro g' L' env' s_1 oL hL hr hg hg' C' hoL Fs' S_1
 subst hL
 generalize hfr0 : (env.locals, oL) :: frs = frs0 at *
 refine q_noE ?_
 refine q_abs fun PR hR => ?_
 replace S_1 : Stt s g' env'.locals (lcs ["self", "n2i", "stack", "itstack", "seen", "node2stacki", "node"] [some (.ref x), none, none, none, none, none, none]) frs0 s_1 := S_1
 refine q_cons <| q_assign <| q_attr <| q_name C' S_1 (by walk_at "lk") <| q_getD C' S_1 (instAtH (S_1.base (hr _ hx)) (S_1.base (hr _ hdx))) (attr := none) (by k_is) (by k_is) (by k_is) (by k_is) e1 rfl fun s_2 S_2 _ => q_store C' S_2 (by walk_at "up") fun s3 S_3 => ?_
 refine q_cons <| q_assign <| q_list <| q_i0 ⟨_, _, _, _, S_3, Nat.le_of_ble_eq_true rfl, fun sk s4 S4 => q_store C' S4 (by walk_at "up") fun s5 S5 => ?_⟩
 refine q_cons <| q_assign <| q_list <| q_i0 ⟨_, _, _, _, S5, Nat.le_of_ble_eq_true rfl, fun ik s6 S6 => q_store C' S6 (by walk_at "up") fun s7 S7 => ?_⟩
 refine q_cons <| q_assign <| q_call <| q_glob C' S7 (by walk_at "mem") <| q_cwT0 <| q_setnew S7 fun se led s8 S8 => q_store C' S8 (by walk_at "up") fun s9 S9 => ?_
 refine q_cons <| q_assign <| q_dnew C' S9 fun ds s10 lo' S10 => q_store C' S10 (by walk_at "up") fun s11 S11 => ?_
 replace S11 := S11.perm perm4
 refine q_cons <| q_forK C' (by walk_at "mem") <| q_name C' S11 (by walk_at "lk") ⟨s, d, od, kvsOf ns, fun i m r => Ex6 fun fin P cnt own frs' u => An6 (r = own ++ frs') (CycSt PySem.Challenge.rw_rt0104_01.row.prog w sk ik se ds P cnt [] own) (Inv sc ns fin P cnt []) (∀ y ∈ (ns.map Nd.nm).take i, y ∈ fin) (SameUp frs0 frs') (m = lcs ["self", "n2i", "stack", "itstack", "seen", "node2stacki", "node"] [some (.ref x), some (.ref d), some (.ref sk), some (.ref ik), some (.ref se), some (.ref ds), u]), _, _, rfl, lo, hI, S11, .inl (hr _ hdd), ?_, ?_, ?_⟩
 ·refine ⟨[], fun _ => false, 0, _, frs0, none, ?_, ⟨0, 0, setObj0 led, dictOf [] 0, [], rfl, isS_new led, isD_new s.heap, .nil⟩, ⟨.nil, by simp, fun y => by simp, fun e he => (by cases he), ?_, rfl⟩, by simp, SameUp.refl _, rfl⟩
  ·rfl
  ·unfold unseen
   rw [Nat.zero_add]
   exact Nat.le_trans (List.length_filter_le _ _) (by simp)
 ·rintro i kk y t m1 r_1 It it s12 hkv ⟨fin, P, cnt, own, frs', u, rfl, hcs, inv, htk, SU, rfl⟩ S12
  rw [(show Up "node" (some (.str kk t)) ["self", "n2i", "stack", "itstack", "seen", "node2stacki", "node"] _ [some (.ref x), some (.ref d), some (.ref sk), some (.ref ik), some (.ref se), some (.ref ds), some (.str kk t)] by walk_at "up").eq C'.nd] at S12
  refine q_abs fun PL hL => ?_
  have hkk : (ns.map Nd.nm)[i]? = some kk := by
   unfold kvsOf at hkv
   rw [List.getElem?_map] at hkv ⊢
   cases hp : ns[i]? with
   | none => rw [hp] at hkv; cases hkv
   | some p => rw [hp] at hkv; simp at hkv ⊢; exact hkv.1
  have hkm := List.mem_of_getElem? hkk
  have htk1 : ∀ {fin : List Str}, (∀ y ∈ (ns.map Nd.nm).take i, y ∈ fin) → kk ∈ fin → ∀ y ∈ (ns.map Nd.nm).take (i + 1), y ∈ fin := fun h1 h2 y hy => by
   rw [List.take_add_one, hkk] at hy
   rcases List.mem_append.mp hy with hy | hy
   ·exact h1 y hy
   ·simp at hy; rw [hy]; exact h2
  have hcs' := hcs
  refine byG fun GG hGG => ?_
  obtain ⟨n1, n2, so, od2, kvs, rfl, hS, hD, hidx⟩ := hcs
  refine hGG ?_
  clear hGG GG
  have hcl : cnt ≤ 100 := by have := inv.few; lia
  refine q_cons <| q_if <| q_tcmp <| q_name C' S12 (by walk_at "lk") <| q_name C' S12 (by walk_at "lk") <| q_sin S12 (a := se) (o := so) (.tail _ (.tail _ (.tail _ (.head _)))) hS (by with_reducible exact Nat.le_trans (by assumption) (by decide)) fun s13 S13 => q_tbool ?_
  by_cases hPk : P kk = true
  ·rw [hPk, if_pos rfl]
   exact q_cons <| q_continue (hL _ _ ⟨_, _, S13, fin, P, cnt, _, frs', _, rfl, hcs', inv, htk1 htk (by
    rcases (inv.seen kk).mp hPk with h | h
    ·exact h
    ·cases h), SU, rfl⟩)
  ·replace hPk : P kk = false := by simpa using hPk
   rw [hPk, if_neg Bool.false_ne_true]
   refine q_nil ?_
   refine q_cons (q_while (I := fun n s' => Ex8 fun fin P cnt es own frs' v t => An9 (CycSt PySem.Challenge.rw_rt0104_01.row.prog w sk ik se ds P cnt es own) (Inv sc ns fin P cnt es) (Chain fin v es) (v ∈ ns.map Nd.nm) (P kk = true ∨ v = kk) (∀ y ∈ (ns.map Nd.nm).take i, y ∈ fin) (unseen (ns.map Nd.nm) P * 101 + wt es ≤ n) (SameUp frs0 frs') (Stt s g' env'.locals (lcs ["self", "n2i", "stack", "itstack", "seen", "node2stacki", "node"] [some (.ref x), some (.ref d), some (.ref sk), some (.ref ik), some (.ref se), some (.ref ds), some (.str v t)]) ((It, it) :: (own ++ frs')) s')) (n := _)
    ⟨fin, P, cnt, [], _, frs', kk, t, hcs', inv, trivial, hkm, .inr rfl, htk, Nat.le_refl _, SU, S13⟩ ?_)
   clear S13 S12 hidx hD hS hcs' hcl SU inv htk hPk
   clear kvs od2 so n1 n2 cnt P fin frs'
   rintro n s14 ⟨fin, P, cnt, es, own, frs', v, t, hcs, inv, hch, hvm, hkv', htk, hwt, SU, S14⟩
   refine q_tval (q_cbool (q_tbool ?_))
   refine if_p rfl ?_
   refine q_abs fun PW hW => ?_
   have hcl : cnt ≤ 100 := by have := inv.few; lia
   have hel : es.length ≤ 100 := by have := inv.len; lia
   refine q_cons (q_cut (fun f s' => match f with
    | .next => Ex8 fun fin P cnt es own frs' v t => An8 (CycSt PySem.Challenge.rw_rt0104_01.row.prog w sk ik se ds P cnt es own) (Inv sc ns fin P cnt es) (Inner fin es) (P kk = true) (∀ y ∈ (ns.map Nd.nm).take i, y ∈ fin) (unseen (ns.map Nd.nm) P * 101 + wt es ≤ n) (SameUp frs0 frs') (Stt s g' env'.locals (lcs ["self", "n2i", "stack", "itstack", "seen", "node2stacki", "node"] [some (.ref x), some (.ref d), some (.ref sk), some (.ref ik), some (.ref se), some (.ref ds), some (.str v t)]) ((It, it) :: (own ++ frs')) s')
    | .ret v => PR (.ret v) s'
    | _ => False) ?_ ?_)
   ·refine q_abs fun PC hC => ?_
    have hcs' := hcs
    refine byG fun GG hGG => ?_
    obtain ⟨n1, n2, so, od2, kvs, rfl, hS, hD, hidx⟩ := hcs
    refine hGG ?_
    clear hGG GG
    have hkl : kvs.length = es.length := by rw [hidx.length, List.length_zipIdx, nmsOf_len]
    refine q_if <| q_tcmp <| q_name C' S14 (by walk_at "lk") <| q_name C' S14 (by walk_at "lk") <| q_sin S14 (a := se) (o := so) (.tail _ (.tail _ (.tail _ (.head _)))) hS (by with_reducible exact Nat.le_trans (by assumption) (by decide)) fun s15 S15 => q_tbool ?_
    by_cases hPv : P v = true
    ·rw [hPv, if_pos rfl]
     refine q_cons <| q_if <| q_tcmp <| q_name C' S15 (by walk_at "lk") <| q_name C' S15 (by walk_at "lk") <| q_din S15 (d := ds) (o := od2) (.tail _ (.tail _ (.tail _ (.tail _ (.head _))))) hD lo' fun s16 S16 _ => q_tbool ?_
     by_cases hv : v ∈ nmsOf es
     ·obtain ⟨j, tj, hj, hjl⟩ := idx_val hidx hv
      rw [hj]
      rw [nmsOf_len] at hjl
      refine (if_pos rfl).mpr ?_
      refine q_cons <| q_ret <| q_binop <| q_sub <| q_name C' S16 (by walk_at "lk") <| q_sliceE <| q_ep <| q_sub <| q_name C' S16 (by walk_at "lk") <| q_name C' S16 (by walk_at "lk") <| q_dsub S16 (.tail _ (.tail _ (.tail _ (.tail _ (.head _))))) hD hj fun s17 S17 _ => q_ep0 ⟨_, _, _, _, S17, fun sl s18 S18 _ =>
       q_sliceT S18 (S18.get (.tail _ (.tail _ (.head _)))) (S18.get (.head _)) (.int _ _) .none (by simp [svsOf_len]; with_reducible exact Nat.le_trans (by assumption) (by decide)) fun a1 s19 S19 => ?_⟩
      rw [sp_from (svsOf es) j (by rw [svsOf_len]; with_reducible exact Nat.le_of_lt (by assumption))] at S19
      refine q_list <| q_ic <| q_name C' S19 (by walk_at "lk") <| q_i0 ⟨_, _, _, _, S19, Nat.le_of_ble_eq_true rfl, fun a2 s20 S20 => q_ladd S20 (S20.get (.tail _ (.head _))) (S20.get (.head _)) (by simp [svsOf_len]; lia) fun l s21 S21 => ?_⟩
      exact hC _ _ <| hR _ _ ⟨_, (l, _) :: (a2, _) :: (a1, _) :: (sl, _) :: (It, it) :: (sk, W.listOf (svsOf es).toArray n1) :: (ik, W.listOf (ivsOf es).toArray n2) :: (se, so) :: (ds, od2) :: enLed es, frs', S21, hfr0 ▸ SU, fun frs2 SU2 Fs2 S22 =>
       k _ _ frs2 _ SU2 Fs2 S22 (.inr ⟨l, _, 0, rfl, .head _, by simp, by simp [svsOf_len]; lia, v, hvm, Chain.path hsc' inv.inn hch v (nmsOf_mem.mp hv)⟩)⟩
     ·have hno : valueAt kvs v = none := by
       unfold valueAt
       rw [Option.map_eq_none_iff, List.find?_eq_none]
       intro kv hkv
       simpa using idx_off hidx hv kv hkv
      rw [hno]
      refine (if_neg Bool.false_ne_true).mpr ?_
      refine q_nil <| q_nil <| hC _ _ ⟨fin, P, cnt, es, _, frs', v, t, hcs', inv, hch.inner ?_, ?_, htk, hwt, SU, S16⟩
      ·rcases (inv.seen v).mp hPv with h | h
       ·exact h
       ·exact absurd (nmsOf_mem.mpr h) hv
      ·rcases hkv' with h | h
       ·exact h
       ·rw [← h]; exact hPv
    ·replace hPv : P v = false := by simpa using hPv
     rw [hPv]
     refine (if_neg Bool.false_ne_true).mpr ?_
     refine byG fun GG hGG => ?_
     obtain ⟨p, hp, rfl⟩ := List.mem_map.mp hvm
     obtain ⟨hm1, hm2, hm3⟩ := nd_mem (F := F) hp
     refine hGG ?_
     clear hGG GG
     have hvn : p.nm ∉ nmsOf es := fun h => by
      have := (inv.seen p.nm).mpr (.inr (nmsOf_mem.mp h))
      rw [hPv] at this; cases this
     refine q_cons <| q_expr C' <| q_saddU <| q_name C' S15 (by walk_at "lk") ⟨se, rfl, ⟨_, _, hS.setOf (S15.get (.tail _ (.tail _ (.tail _ (.head _))))) (by have : scanBound = 4096 := rfl; with_reducible exact Nat.lt_of_le_of_lt (by assumption) (by decide))⟩, q_name C' S15 (by walk_at "lk") ⟨_, _, _, _, _, fun o' => (It, it) :: (sk, W.listOf (svsOf es).toArray n1) :: (ik, W.listOf (ivsOf es).toArray n2) :: (se, o') :: (ds, od2) :: (enLed es ++ frs'), so, P, cnt, p.nm, t, rfl, S15,
      .tail _ (.tail _ (.tail _ (.head _))), fun o' => .tail (.tail (.tail .head)), hS, by with_reducible exact Nat.le_trans (by assumption) (by decide), fun so' s16 hS' S16 => ?_⟩⟩
     rw [hPv, if_neg Bool.false_ne_true] at hS'
     refine q_cons <| q_expr C' <| q_append <| q_name C' S16 (by walk_at "lk") ⟨ik, _, n2, rfl, S16.get (.tail _ (.tail _ (.head _))), q_attr <| q_call <| q_glob C' S16 (by walk_at "mem") <| q_cwB <| q_ic <| q_attr <| q_sub <| q_name C' S16 (by walk_at "lk") <| q_name C' S16 (by walk_at "lk") <|
      q_dsubH S16 (Heap.dictOf_iff.mpr ⟨od, S16.base (hr _ hdd), hI⟩) (valueAt_nd hnd hp) fun s17 S17 _ => q_getS C' S17 (p := 43) (i := 2) (instAtH (S17.base (hr _ (hndl _ hm1))) (S17.base (hr _ (hndl _ hm2)))) (by k_is) (by k_is) (by k_is) (by k_is) (by k_is) (by k_is) rfl rfl fun s18 S18 _ => q_i0 <|
      q_iterL S18 (its := p.sv.toArray) (isL (S18.base (hr _ (hndl _ hm3)))) fun I s19 S19 => q_nextOf S19 (l := p.l) (i := 0) (S19.get (.head _)) fun b s20 S20 =>
      ⟨_, _, _, _, ivsOf es, n2, _, S20, by rw [ivsOf_len]; with_reducible exact Nat.le_trans (by assumption) (by decide), S20.get (.tail _ (.tail _ (.tail _ (.tail _ (.head _))))), .tail (.tail (.tail (.tail .head))), fun s21 S21 => ?_⟩⟩
     refine q_cons <| q_asub <| q_call <| q_glob C' S21 (by walk_at "mem") <| q_cwB <| q_ic <| q_name C' S21 (by walk_at "lk") <| q_i0 <| q_len S21 (vs := svsOf es) (S21.get (.tail _ (.tail _ (.tail _ (.head _))))) (by rw [svsOf_len]; with_reducible exact Nat.lt_of_le_of_lt (by assumption) (by decide)) fun t22 s22 S22 _ =>
      q_name C' S22 (by walk_at "lk") <| q_name C' S22 (by walk_at "lk") <| q_dsetU S22 (fun o' => (b, mwObj I) :: (I, itObj p.l 0) :: (It, it) :: (sk, W.listOf (svsOf es).toArray n1) :: (ik, W.listOf (ivsOf es ++ [Value.ref b]).toArray (n2 + 1)) :: (se, so') :: (ds, o') :: (enLed es ++ frs')) (fun o' => .tail (.tail (.tail (.tail (.tail (.tail .head))))))
       (.tail _ (.tail _ (.tail _ (.tail _ (.tail _ (.tail _ (.head _))))))) hD (by lia) fun od3 s23 hD_3 S23 => ?_
     rw [svsOf_len, ← nmsOf_len es] at hD_3
     refine q_cons <| q_expr C' <| q_append <| q_name C' S23 (by walk_at "lk") ⟨sk, _, n1, rfl, S23.get (.tail _ (.tail _ (.tail _ (.head _)))), q_name C' S23 (by walk_at "lk") ⟨_, _, _, _, svsOf es, n1, _, S23, by rw [svsOf_len]; with_reducible exact Nat.le_trans (by assumption) (by decide), S23.get (.tail _ (.tail _ (.tail _ (.head _)))), .tail (.tail (.tail .head)), fun s24 S24 => ?_⟩⟩
     have hpl := (hsc p hp).2.1.2
     have hun := unseen_lt (names := ns.map Nd.nm) (P := P) (x := p.nm) hvm hPv
     refine q_nil <| hC _ _ ⟨fin, _, cnt + 1, ⟨p, 0, b, I, t⟩ :: es, (sk, W.listOf (svsOf es ++ [Value.str p.nm t]).toArray (n1 + 1)) :: (ik, W.listOf (ivsOf es ++ [Value.ref b]).toArray (n2 + 1)) :: (se, so') :: (ds, od3) :: (b, mwObj I) :: (I, itObj p.l 0) :: enLed es, frs', p.nm, t,
      ⟨n1 + 1, n2 + 1, so', od3, _, by rw [svsOf_cons, ivsOf_cons]; rfl, hS', hD_3, by rw [nmsOf_cons]; exact idx_stored hidx hvn t22⟩, inv.push (e := ⟨p, 0, b, I, t⟩) hp hPv, ⟨by simp, hch⟩, ?_, htk, ?_, SU, S24.perm (swapQ (T := [_, _, _, _, _]) (N := [_, _]))⟩
     ·rcases hkv' with h | h
      ·simp [h]
      ·simp [h]
     ·unfold wt
      rw [List.map_cons, List.sum_cons]
      unfold wt at hwt
      dsimp only
      lia
   ·intro f s15 hf
    cases f with
    | cont => exact hf.elim
    | brk => exact hf.elim
    | ret v => exact hW _ _ <| hL _ _ hf
    | next =>
     clear hcs inv hch hvm hkv' htk hwt SU S14 hcl hel
     clear fin P cnt es own frs' v t
     refine byG fun GG hGG => ?_
     obtain ⟨fin, P, cnt, es, own, frs', v, t, a1, a2, a3, a4, a5, a6, a7, a8⟩ := hf
     refine hGG ?_
     clear hGG GG
     refine q_cons (q_while (I := fun n' s' => Ex8 fun fin P cnt es own frs' v t => An9 (CycSt PySem.Challenge.rw_rt0104_01.row.prog w sk ik se ds P cnt es own) (Inv sc ns fin P cnt es) (Inner fin es) (P kk = true) (∀ y ∈ (ns.map Nd.nm).take i, y ∈ fin) (unseen (ns.map Nd.nm) P * 101 + wt es ≤ n) (SameUp frs0 frs') (es.length = n') (Stt s g' env'.locals (lcs ["self", "n2i", "stack", "itstack", "seen", "node2stacki", "node"] [some (.ref x), some (.ref d), some (.ref sk), some (.ref ik), some (.ref se), some (.ref ds), some (.str v t)]) ((It, it) :: (own ++ frs')) s')) (n := es.length)
      ⟨fin, P, cnt, es, own, frs', v, t, a1, a2, a3, a4, a5, a6, a7, rfl, a8⟩ ?_)
     clear a1 a2 a3 a4 a5 a6 a7 a8
     clear fin P cnt es own frs' v t
     rintro n' s16 ⟨fin, P, cnt, es, own, frs', v, t, hcs, inv, hin, hPk, htk, hwt, SU, hen, S16⟩
     have hcs' := hcs
     refine byG fun GG hGG => ?_
     obtain ⟨n1, n2, so, od2, kvs, rfl, hS, hD, hidx⟩ := hcs
     refine hGG ?_
     clear hGG GG
     have hcl : cnt ≤ 100 := by have := inv.few; lia
     have hel : es.length ≤ 100 := by have := inv.len; lia
     have hkl : kvs.length = es.length := by rw [hidx.length, List.length_zipIdx, nmsOf_len]
     refine q_tval <| q_name C' S16 (by walk_at "lk") <| q_truthy S16 (vs := svsOf es) (S16.get (.tail _ (.head _))) (by rw [svsOf_len]; with_reducible exact Nat.lt_of_le_of_lt (by assumption) (by decide)) fun s17 S17 _ => ?_
     cases es with
     | nil =>
      refine (if_neg (by simp [svsOf])).mpr ?_
      exact q_cons <| q_break <| hW _ _ <| q_nil <| hL _ _ ⟨_, _, S17, fin, P, cnt, _, frs', _, rfl, hcs', inv, htk1 htk (by
       rcases (inv.seen kk).mp hPk with h | h
       ·exact h
       ·cases h), SU, rfl⟩
     | cons e es =>
      refine (if_pos (by simp [svsOf])).mpr ?_
      refine q_abs fun PV hV => ?_
      have hep := inv.inn e (.head _)
      refine byG fun GG hGG => ?_
      obtain ⟨hsp, hok, hcl'⟩ := hsc e.p hep
      obtain ⟨_, _, hm3⟩ := nd_mem (F := F) hep
      refine hGG ?_
      clear hGG GG
      have hsl := S17.base (hr _ (hndl _ hm3))
      have hix : (ivsOf es ++ [Value.ref e.b])[((-1 : Int) + ((ivsOf es ++ [Value.ref e.b]).length : Int)).toNat]? = some (.ref e.b) := by
       have : ((-1 : Int) + ((ivsOf es ++ [Value.ref e.b]).length : Int)).toNat = (ivsOf es).length := by simp; lia
       rw [this]; simp
      rw [svsOf_cons, ivsOf_cons] at S17
      rw [List.length_cons] at hel hen hkl
      refine q_cons <| q_tryC <| q_cons <| q_assign <| q_call <| q_sub <| q_name C' S17 (by walk_at "lk") <| q_unop <| q_int S17 fun t18 s18 S18 => q_neg S18 fun t19 s19 S19 =>
       q_itemNeg (S19.get (.tail _ (.tail _ (.head _)))) (by lia) (by simp; lia) (by lia) hix <| q_cwMW (S19.get (.tail _ (.tail _ (.tail _ (.tail _ (.tail _ (.head _))))))) ?_
      cases hsv : e.p.sv[e.i]? with
      | some xv =>
       obtain ⟨v', hv', tv, rfl⟩ := hok.1.get' hsv
       have hlt : e.i < e.p.ss.length := (List.getElem?_eq_some_iff.mp hv').1
       refine q_nextItem S19 (S19.get (.tail _ (.tail _ (.tail _ (.tail _ (.tail _ (.head _))))))) (S19.get (.tail _ (.tail _ (.tail _ (.tail _ (.tail _ (.tail _ (.head _)))))))) (S19.base (hr _ (hndl _ hm3))) hsv (.tail (.tail (.tail (.tail (.tail (.tail .head)))))) fun s20 S20 => q_store C' S20 (by walk_at "up") fun s21 S21 => ?_
       refine q_cons <| q_break <| hV _ _ <| q_nil <| hW _ _ ⟨unseen (ns.map Nd.nm) P * 101 + wt ({ e with i := e.i + 1 } :: es), ?_, fin, P, cnt, { e with i := e.i + 1 } :: es, (sk, W.listOf (svsOf es ++ [Value.str e.nm e.t]).toArray n1) :: (ik, W.listOf (ivsOf es ++ [Value.ref e.b]).toArray n2) :: (se, so) :: (ds, od2) :: (e.b, mwObj e.I) :: (e.I, itObj e.p.l (e.i + 1)) :: enLed es, frs', v', tv,
        ⟨n1, n2, so, od2, kvs, by rw [svsOf_cons, ivsOf_cons]; rfl, hS, hD, by rw [nmsOf_cons] at hidx ⊢; exact hidx⟩, inv.next _, hin.next hv', hcl' _ (List.mem_of_getElem? hv'), .inl hPk, htk, Nat.le_refl _, SU, S21⟩
       unfold wt at hwt ⊢
       rw [List.map_cons, List.sum_cons] at hwt ⊢
       dsimp only at hwt ⊢
       lia
      | none =>
       have hnone : e.p.ss[e.i]? = none := by
        rw [List.getElem?_eq_none_iff] at hsv ⊢
        rw [← hok.1.length]; exact hsv
       obtain ⟨inv', hin'⟩ := inv.pop hsc' hin hnone
       have hnn : e.nm ∉ nmsOf es := fun h => by
        have := inv.nd
        rw [List.map_cons] at this
        exact (List.nodup_cons.mp (List.nodup_append.mp this).2.1).1 (nmsOf_mem.mp h)
       rw [nmsOf_cons] at hidx
       obtain ⟨j, tj, hj, _⟩ := idx_val hidx (x := e.nm) (by simp)
       refine q_nextEnd C'.hh S19 (S19.get (.tail _ (.tail _ (.tail _ (.tail _ (.tail _ (.head _))))))) (S19.get (.tail _ (.tail _ (.tail _ (.tail _ (.tail _ (.tail _ (.head _)))))))) (S19.base (hr _ (hndl _ hm3))) hsv (.tail (.tail (.tail (.tail (.tail (.tail .head)))))) fun s20 h20 tk ex ob vs a0 S20 b1 b2 b3 b4 b5 b6 b7 => ?_
       refine catch_here (news := (It, it) :: (sk, W.listOf (svsOf es ++ [Value.str e.nm e.t]).toArray n1) :: (ik, W.listOf (ivsOf es ++ [Value.ref e.b]).toArray n2) :: (se, so) :: (ds, od2) :: (e.b, mwObj e.I) :: (e.I, itDone e.i) :: enLed es) (frs := frs') C' S20 (Fs'.up SU) b1 b2 b3 b4 b5 b6 b7 (by walk_at "mem")
        (by rw [isSubtype_type]; kernel_rfl) (by rw [isSubtype_type]; kernel_rfl) (by rw [isSubtype_type]; kernel_rfl) fun s21 frs2 SU2 Fs2 S21 => ?_
       refine q_cons <| q_delSub <| q_nameA C' S21 (by walk_at "lk") <| q_pop <| q_nameA C' S21 (by walk_at "lk") ⟨_, _, _, _, _, sk, svsOf es, .str e.nm e.t, n1, _, rfl, S21, by simp [svsOf_len]; lia, S21.get (.tail _ (.head _)), .tail .head, fun s22 S22 =>
        q_ddelU S22 (fun o' => (It, it) :: (sk, W.listOf (svsOf es).toArray (n1 + 1)) :: (ik, W.listOf (ivsOf es ++ [Value.ref e.b]).toArray n2) :: (se, so) :: (ds, o') :: (e.b, mwObj e.I) :: (e.I, itDone e.i) :: (enLed es ++ frs2)) (fun o' => .tail (.tail (.tail (.tail .head)))) (.tail _ (.tail _ (.tail _ (.tail _ (.head _))))) hD (by lia) (by rw [hj]; rfl) fun od3 s23 hD_3 S23 => ?_⟩
       refine q_cons <| q_exprA C' <| q_pop <| q_nameA C' S23 (by walk_at "lk") ⟨_, _, _, _, _, ik, ivsOf es, .ref e.b, n2, _, rfl, S23, by simp [ivsOf_len]; lia, S23.get (.tail _ (.tail _ (.head _))), .tail (.tail .head), fun s24 S24 => ?_⟩
       refine q_nil <| q_nil <| hV _ _ ⟨es.length, by lia, e.nm :: fin, P, cnt, es, (sk, W.listOf (svsOf es).toArray (n1 + 1)) :: (ik, W.listOf (ivsOf es).toArray (n2 + 1)) :: (se, so) :: (ds, od3) :: enLed es, frs2, v, t,
        ⟨n1 + 1, n2 + 1, so, od3, _, rfl, hS, hD_3, idx_without hidx hnn⟩, inv', hin', hPk, fun y hy => .tail _ (htk y hy), ?_, SU.trans SU2, rfl, S24.sub ?_⟩
       ·unfold wt at hwt ⊢
        rw [List.map_cons, List.sum_cons] at hwt
        lia
       ·exact .cons_cons _ (.cons_cons _ (.cons_cons _ (.cons_cons _ (.cons_cons _ (.cons _ (.cons _ (.refl _)))))))
 ·rintro m1 r_1 s12 ⟨fin, P, cnt, own, frs', u, rfl, hcs, inv, htk, SU, rfl⟩ S12
  have hl : (kvsOf ns).length = (ns.map Nd.nm).length := by unfold kvsOf; simp
  rw [hl, List.take_length] at htk
  refine q_cons <| q_ret <| q_cnone <| hR _ _ ⟨_, own, frs', S12, hfr0 ▸ SU, fun frs2 SU2 Fs2 S13 => k _ _ frs2 own SU2 Fs2 S13 (.inl ⟨rfl, fin, inv.topo, by simpa using inv.nd, htk⟩)⟩
abbrev bmVE : List Value := [.type "ValueError", .type "Exception", .type "BaseException", .type "object"]
section
variable {prog : Program} {w : World} {A A' : Around} {M : Model} {env : Env} {g base : Heap} {outer : List Env} {nm : List Str} {G : SV}
 {E : VP} {s0 s : Shared} {L : Addr} {m : SM} {vals : OV} {news news' r frs : LD}
theorem own_in (C : Fm w A env g base outer nm G) {x : Str} {Cl : Addr} (ex : nsIn (hK w.params) mainGlobals x = some (some (.ref Cl))) (q : excIn (hK w.params) Cl bmVE "ValueError.__new__" = true) {h : Heap} (hk : ∀ b o, g.get? b = some o → h.get? b = some o) :
  ∃ mg, OwnCls x Cl bmVE "ValueError.__new__" mg h := by
 refine byG fun GG hGG => ?_
 obtain ⟨p, loose, mean, mg, mb, T⟩ := C.T
 refine hGG ?_
 clear hGG GG
 exact ⟨mg, (own_of_in C.X (topRead_of T) ex q).keeps hk⟩
inductive PRaise (env : Env) (g : Heap) (Cl : Addr) (E : VP) (vs : List Value) (s_1 : Shared) : Prop
 | mk (s0 : Shared) (m : SM) (news : LD) (h1 : Stt s0 g env.locals m news s_1) (h2 : vs.length ≤ 1000) (h3 : ∀ h' e, Heap.MadeExcOf s_1.heap h' e (.ref Cl) vs → E (.ref e) { s_1 with heap := h' }) : PRaise env g Cl E vs s_1
theorem q_raiseOwn (C : Fm w A env g base outer nm G) (S : Stt s0 g env.locals m news s) {x : Str} {Cl : Addr} {np cpos pos : Pos} {e_0 : Expr} {rest : List Expr} {Q : FP} (hx : (x, .ref Cl) ∈ G)
  (ex : nsIn (hK w.params) mainGlobals x = some (some (.ref Cl))) (q : excIn (hK w.params) Cl bmVE "ValueError.__new__" = true)
  (h : WP (model prog w) A (spliced (backTo cpos (starEach (e_0 :: rest) env))) (PRaise env g Cl E) E s)
  (he : starEach (e_0 :: rest) env = (false, eval e_0 env) :: starEach rest env := by exact rfl) (hplain : (backTo cpos (starEach rest env)).any (·.1) = false := by exact rfl) :
  WP (model prog w) A (exec (.Raise (some (.Call (.Name x np) (e_0 :: rest) [] cpos)) none pos) env) Q E s := by
 refine byG fun GG hGG => ?_
 obtain ⟨mg, O⟩ := own_in C ex q (h := s.heap) S.fr.keep
 obtain ⟨mg1, O1⟩ := own_in C ex q (h := g) (fun _ _ e => e)
 obtain ⟨tl, N, nm', q', bs, hdct, sn, sub, ab, col, dd, k0, k1, k2, k3, k5, mN, hC, hN, hni, T⟩ := O1.obj
 refine hGG ?_
 clear hGG GG
 refine ⟨wpAny_Raise_call_subT (C := Cl) (nm := nm') (q := q') (N := N) (bs := bs) (bm := tl) (hdct := hdct) (sn := sn) (sub := sub) (ab := ab) (col := col) (dd := dd) (k0 := k0) (k1 := k1) (k2 := k2) (k3 := k3) (k5 := k5)
  PySem.F.excBase_ValueError (mN := mN) (T.hasType PySem.F.excBase_ValueError.hasBase) C.hh (by rw [he]; show (false || (backTo cpos (starEach rest env)).any (·.1)) = false; rw [hplain]; rfl) hni ((q_glob C S hx ⟨⟨rfl, ?_⟩, True.intro⟩ : WP (model prog w) A (eval (.Name x np) env) (fun f s_1 => (f = .ref Cl ∧ _) ∧ True) E s).run |> fun z => wpAny_mono z (fun _ _ y => y.1) fun _ _ y => y)⟩
 have h' := h.run
 rw [he] at h' ⊢
 refine evalArgs_plain (wpAny_mono h' (fun vs s_2 h_2 => ?_) fun _ _ y => y)
 refine byG fun GG hGG => ?_
 obtain ⟨s0', m', news', S_2, hl, k⟩ := h_2
 refine hGG ?_
 clear hGG GG
 exact ⟨rfl, Nat.le_trans hl (by decide), S_2.fr.keep _ _ hC, hN.keeps S_2.fr.keep, T.keeps S_2.fr.keep, k⟩
theorem catch_next {e : Addr} {x : Str} {Cl : Addr} {b0 : Stmt} {suite : List Stmt} {np pos : Pos} {Q : FP}
  (C : Fm w A env g base outer nm G) (S : Stt s0 g env.locals m (news ++ frs) s) (Fs : Frs outer frs) (Fl : Fly g env.locals e (.ref Cl) .none (news ++ frs) s.heap) (hx : (x, .ref Cl) ∈ G)
  (ex : nsIn (hK w.params) mainGlobals x = some (some (.ref Cl))) (q : excIn (hK w.params) Cl bmVE "ValueError.__new__" = true)
  (k : ∀ s' frs', SameUp frs frs' → Frs outer frs' → Stt s0 g env.locals m (news ++ frs') s' → WP (model prog w) (A.mark (some (.ref e))) (execs (b0 :: suite) env) Q NE s') :
  Catches prog w A env [.ExceptHandler (some (.Name x np)) none (b0 :: suite) pos] Q E (.ref e) s := by
 refine note_next C S Fs Fl fun h' frs' SU Fs' S_1 Fl1 => ?_
 refine fly_lands S_1 Fl1 fun h'' S_2 Fl2 => ?_
 refine wpAny_handleBy_cons (codeAny_handlers_test (wpAny_mono (q_globA (E := NE) C S_2 hx (Q := fun c s_1 => c = .ref Cl ∧ s_1 = { s with heap := h'' }) ⟨rfl, rfl⟩).run (fun c s_1 hq => ?_) fun _ _ e => e.elim)) (by intro q; cases q)
 refine byG fun GG hGG => ?_
 obtain ⟨rfl, rfl⟩ := hq
 obtain ⟨mg, O⟩ := own_in C ex q (h := h'') S_2.fr.keep
 obtain ⟨bm, N, nm, qn, bs, hdct, sn, sub, ab, col, dd, k0, k1, k2, k3, k5, mN, hC, hN, hni, TL⟩ := O.obj
 obtain ⟨ob', _, _, _, _, _, q1, q2, _⟩ := id Fl2
 refine hGG ?_
 clear hGG GG
 refine wpAny_excMatches_sub_self hC q1 q2 (TL.hasType (by decide)) (codeAny_handlers_suite ?_)
 exact fly_lands (s := { s with heap := h'' }) S_2 Fl2 fun h_3 S_3 _ => wpAny_mono (k _ frs' SU Fs' S_3).run (fun _ _ q => q) fun _ _ e => e.elim
end
theorem q_jstr1 {M : Model} {A : Around} {E : VP} {s : Shared} {env : Env} {v : Expr} {pos : Pos} {Q : VP} (h : WP M A (eval v env) Q E s) : WP M A (eval (.JoinedStr [v] pos) env) Q E s := ⟨JoinedStr_one h.run⟩
theorem q_tnone {M : Model} {A : Around} {E : VP} {s : Shared} {Q : Bool → Shared → Prop} (h : Q false s) : WP M A (truthy .none) Q E s := ⟨wpAny_pure h⟩
theorem q_cwK0 {w : World} {A : Around} {env : Env} {g base : Heap} {outer : List Env} {nm : List Str} {G : SV} {M : Model} {E : VP} {s0 s : Shared} {m : SM} {news : LD}
  (C : Fm w A env g base outer nm G) (S : Stt s0 g env.locals m news s) {env' : Env} {pos : Pos} {f : Value} {first : List Value} {Q : VP} (hk : keepIn (hK w.params) f = true)
  (h : WP M A (call f (first ++ [])) Q E s) : WP M A (callWith pos f first (backTo pos (starEach [] env')) []) Q E s := ⟨callWith_K0 (C.X.keeps S.fr.keep) hk h.run⟩
theorem q_intA {M : Model} {A : Around} {E : VP} {s0 s : Shared} {g : Heap} {L : Addr} {m : SM} {news : LD} {env : Env} (S : Stt s0 g L m news s) {i : Int} {k pos} {Q : VP} (h : ∀ t s', Stt s0 g L m news s' → Q (.int i t) s') : WP M A (eval (.Constant (.int i) k pos) env) Q E s := ⟨wpAny_Constant_int (h _ _ (S.tok _))⟩
noncomputable def readyOf (ns : List Nd) (F : NP) : List Str := (ns.filter fun p => (F p.nm).1 == 0).map Nd.nm
theorem readyOf_take {ns : List Nd} {F : NP} {i : Nat} {p : Nd} (h : ns[i]? = some p) : readyOf (ns.take (i + 1)) F = readyOf (ns.take i) F ++ (if (F p.nm).1 == 0 then [p.nm] else []) := by
 unfold readyOf
 rw [List.take_add_one, h]
 simp only [Option.toList_some, List.filter_append, List.map_append]
 congr 1
 by_cases h0 : ((F p.nm).1 == 0) = true
 ·simp [h0]
 ·simp [h0]
theorem prepare_spec {w : World} {A : Around} {env : Env} {g base : Heap} {outer : List Env} {nm : List Str} {G : SV} {s0 s : Shared} {m : SM} {rest frs : LD}
  {E : VP} {x dx d : Addr} {q : SD} {od : Obj} {ns : List Nd} {F : NP} {sc : Str → List Str} {Q : VP} :
  (hK w.params).In g → ∀ (C : Fm w A env g base outer nm G) (S : Stt s0 g env.locals m ((sLed x dx d q od (reNp ns F) ++ rest) ++ frs) s) (Fs : Frs outer frs) (hd : A.depth + 30 < recursionLimit)
  (hI : IsD PySem.Challenge.rw_rt0104_01.row.prog w od (kvsOf ns)) (lo : (d == sysModules) = false) (h1 : q.v1 = .ref d) (h2 : q.v2 = .none)
  (hsc : ∀ p ∈ ns, sc p.nm = p.ss ∧ NdOk 100 p ∧ ∀ z ∈ p.ss, z ∈ ns.map Nd.nm) (hns : ns.length ≤ 100)
  (k : ∀ rl rv rn s' frs', SameUp frs frs' → Frs outer frs' → Stt s0 g env.locals m ((((rl, W.listOf rv.toArray rn) :: sLed x dx d { q with v2 := .ref rl } od (reNp ns F)) ++ rest) ++ frs') s' → All2 Vs rv (readyOf ns F) →
   (∃ fin, Topo sc fin ∧ fin.Nodup ∧ ∀ y ∈ ns.map Nd.nm, y ∈ fin) → Q .none s')
  (kE : ∀ e s' frs' nw, SameUp frs frs' → Frs outer frs' → Stt s0 g env.locals m ((nw ++ rest) ++ frs') s' → Fly g env.locals e (.ref 55) .none ((nw ++ rest) ++ frs') s'.heap → (∃ y ∈ ns.map Nd.nm, Path sc y y) → E (.ref e) s'),
  WP (model PySem.Challenge.rw_rt0104_01.row.prog w) A (call (.ref 92) [.ref x]) Q E s := by
 k_fill
 intro X C S Fs hd hI lo h1 h2 hsc hns k kE
 obtain ⟨a1, a2, a3, a4, b1, b2, b3, b4, v1, v2, v3, v4⟩ := q
 dsimp only at h1 h2
 subst h1 h2
 have hnd : (ns.map Nd.nm).Nodup := by
  obtain ⟨es, ep, _, _, _, _, nd⟩ := hI
  unfold kvsOf at nd
  rwa [List.map_map] at nd
 have X' : (hK w.params).In s.heap := C.X.keeps S.fr.keep
 refine C.callX (sub := sLed x dx d ⟨a1, a2, a3, a4, b1, b2, b3, b4, .ref d, .none, v3, v4⟩ od (reNp ns F)) (rest := rest) S Fs (cl := []) (nm' := ["self", "cycle"]) (vs := [.ref x]) (vals' := [some (.ref x), none]) (G' := [("CycleError", .ref 55)]) (X' _ _ (by k_is)) rfl (codeRec_of X' (by k_is)) (by lia) (BindsTo.of_eq rfl) (Nat.le_of_ble_eq_true rfl) rfl (by decide +kernel) (by decide +kernel) rfl rfl rfl ?_
 intro g' L' env' s_1 oL hL hr hg hg' C' hoL Fs' S_1
 subst hL
 obtain ⟨frs0, hfr0⟩ : ∃ frs0, frs0 = (env.locals, oL) :: frs := ⟨_, rfl⟩
 rw [← hfr0] at S_1 Fs'
 refine q_cons <| q_if <| q_tcmp <| q_attr <| q_name C' S_1 (by walk_at "lk") <| q_getD C' S_1 (instAt S_1 (.head _) (.tail _ (.head _))) (attr := none) (by k_is) (by k_is) (by k_is) (by k_is) rfl rfl fun s_2 S_2 _ => q_cnone <| q_isnotnone <| q_tbool ?_
 rw [show (!(Value.none == Value.none)) = false by rfl, if_neg Bool.false_ne_true]
 refine q_nil ?_
 refine q_cons <| q_aattr <| q_comp (cl := []) (closureFor_eq rfl rfl) <| q_values <| q_attr <| q_name C' S_2 (by walk_at "lk") <| q_getD C' S_2 (instAt S_2 (.head _) (.tail _ (.head _))) (attr := none) (by k_is) (by k_is) (by k_is) (by k_is) rfl rfl fun s3 S_3 _ =>
  ⟨_, _, _, _, _, d, kvsOf ns, rfl, lo, dictAt S_3 (.tail _ (.tail _ (.head _))) hI, S_3, fun v s4 S4 => ⟨_, _, _, _, fun i ys r => r = (v, viewObj d) :: (sLed x dx d ⟨a1, a2, a3, a4, b1, b2, b3, b4, .ref d, .none, v3, v4⟩ od (reNp ns F) ++ frs0) ∧ All2 Vs ys (readyOf (ns.take i) F), _,
   src_vals (o := od) C'.hh hI (S4.get (.head _)) S4 (.inr ?_) ?_ ?_ ?_, fun D ys r s5 hJ hl S5 => ?_⟩⟩
 ·rintro i ys r ⟨rfl, _⟩
  exact .tail _ (.tail _ (.tail _ (.head _)))
 ·unfold kvsOf; rw [List.length_map]; exact Nat.le_trans hns (by decide)
 ·exact ⟨rfl, .nil⟩
 ·rintro i kk v' hkv ys r_1 I it Ca oC mC D s5 ⟨rfl, hys⟩ hyl hoC hm S5
  obtain ⟨p, hpi, rfl⟩ : ∃ p, ns[i]? = some p ∧ v' = .ref p.a := by
   unfold kvsOf at hkv
   rw [List.getElem?_map] at hkv
   cases hp : ns[i]? with
   | none => rw [hp] at hkv; cases hkv
   | some p => rw [hp] at hkv; simp at hkv; exact ⟨p, rfl, hkv.2.symm⟩
  obtain ⟨hm1, hm2, _⟩ := nd_mem (F := F) (List.mem_of_getElem? hpi)
  have II : ∀ {s' m'}, Stt s g' env'.locals m' ((I, it) :: (Ca, oC) :: (D, lst ys) :: (v, viewObj d) :: (sLed x dx d ⟨a1, a2, a3, a4, b1, b2, b3, b4, .ref d, .none, v3, v4⟩ od (reNp ns F) ++ frs0)) s' → InstAt s'.heap p.a (ndObj p (F p.nm)) 40 (some (dictOf [] 0)) := fun S =>
   instAt S (.tail _ (.tail _ (.tail _ (.tail _ (List.mem_append_left _ (.tail _ (.tail _ (.tail _ hm1)))))))) (.tail _ (.tail _ (.tail _ (.tail _ (List.mem_append_left _ (.tail _ (.tail _ (.tail _ hm2))))))))
  refine q_tests1 <| q_tcmp <| q_attr <| q_nameO S5 hoC hm (.tail _ (.head _)) <| q_getS C' S5 (p := 42) (i := 1) (II S5) (by k_is) (by k_is) (by k_is) (by k_is) (by k_is) (by k_is) rfl rfl fun s6 S6 _ => q_intA S6 fun t7 s7 S7 => q_eqi <| q_tbool ?_
  by_cases h0 : ((F p.nm).1 == 0) = true
  ·refine (if_pos h0).mpr ?_
   refine q_attr <| q_nameO S7 hoC hm (.tail _ (.head _)) <| q_getS C' S7 (p := 41) (i := 0) (II S7) (by k_is) (by k_is) (by k_is) (by k_is) (by k_is) (by k_is) rfl rfl fun s8 S8 _ => ⟨_, S8, rfl, ?_⟩
   rw [readyOf_take hpi, if_pos h0]
   exact hys.snoc ⟨_, rfl⟩
  ·refine (if_neg h0).mpr ⟨_, S7, rfl, ?_⟩
   rw [readyOf_take hpi, if_neg h0, List.append_nil]
   exact hys
 ·obtain ⟨rfl, hys⟩ := hJ
  rw [show (kvsOf ns).length = ns.length by unfold kvsOf; simp, List.take_length] at hys
  replace S5 : Stt s g' env'.locals (lcs ["self", "cycle"] [some (.ref x), none]) ((D, W.listOf ys.toArray ys.length) :: (v, viewObj d) :: (sLed x dx d ⟨a1, a2, a3, a4, b1, b2, b3, b4, .ref d, .none, v3, v4⟩ od (reNp ns F) ++ frs0)) s5 := S5
  refine q_name C' S5 (by walk_at "lk") <| q_setD C' S5 (instAt S5 (.tail _ (.tail _ (.head _))) (.tail _ (.tail _ (.tail _ (.head _))))) rfl (by k_is) (by k_is) (by k_is) (by k_is) rfl rfl (.tail (.tail (.tail .head))) (Nat.le_of_ble_eq_true rfl) fun s6 S6 => ?_
  obtain ⟨rest', hrest'⟩ : ∃ rest', rest' = (D, W.listOf ys.toArray ys.length) :: (v, viewObj d) :: sLed x dx d ⟨a1, a2, a3, a4, b1, b2, b3, b4, .ref d, .ref D, v3, v4⟩ od (reNp ns F) := ⟨_, rfl⟩
  have S6' : Stt s g' env'.locals (lcs ["self", "cycle"] [some (.ref x), none]) (([] ++ rest') ++ frs0) s6 := by rw [hrest']; exact S6
  refine q_cons <| q_assign <| q_mcall <| q_name C' S6 (by walk_at "lk") <| q_getM C' S6 (f := 127) (instAt S6 (.tail _ (.tail _ (.head _))) (.tail _ (.tail _ (.tail _ (.head _))))) (by k_is) (by k_is) (by k_is) rfl <| q_cwK0 C' S6 (by k_is) <|
   cycle_spec (q := ⟨a1, a2, a3, a4, b1, b2, b3, b4, .ref d, .ref D, v3, v4⟩) (F := F) C'.X C' S6' Fs' (by have : (A.deeper env').depth = A.depth + 1 := rfl; with_reducible exact n35 (by assumption) (by assumption) (by decide)) hI lo rfl (by rw [hrest']; exact .tail _ (.tail _ (.head _))) (by rw [hrest']; exact .tail _ (.tail _ (.tail _ (.head _)))) (by rw [hrest']; exact .tail _ (.tail _ (.tail _ (.tail _ (.head _)))))
    (fun p hp => by rw [hrest']; exact .tail _ (.tail _ (.tail _ (.tail _ (.tail _ hp))))) hsc hns fun v' s7 frs1 nw SU1 Fs1 S7 hres => q_store C' S7 (by walk_at "up") fun s8 S8 => ?_
  rw [hfr0] at SU1
  refine q_cons <| q_if <| q_tval <| q_name C' S8 (by walk_at "lk") ?_
  rcases hres with ⟨rfl, hfin⟩ | ⟨l, vs, n, rfl, hl, hvs, hvl, hcyc⟩
  ·refine q_tnone ?_
   refine (if_neg Bool.false_ne_true).mpr ?_
   refine q_nil <| q_nil ⟨_, (D, W.listOf ys.toArray ys.length) :: sLed x dx d ⟨a1, a2, a3, a4, b1, b2, b3, b4, .ref d, .ref D, v3, v4⟩ od (reNp ns F), frs1, S8.sub ?_, SU1, fun frs2 SU2 Fs2 S9 => k D ys _ _ frs2 SU2 Fs2 S9 hys hfin⟩
   rw [hrest']
   refine List.Sublist.append_right ?_ frs1
   refine List.Sublist.trans ?_ (List.sublist_append_right nw _)
   exact .cons_cons _ (.cons _ (.refl _))
  ·refine q_truthy S8 (vs := vs) (S8.get (List.mem_append_left _ (List.mem_append_left _ hl))) (by with_reducible exact Nat.lt_of_le_of_lt (by assumption) (by decide)) fun s9 S9 _ => ?_
   refine (if_pos (by cases vs with | nil => exact absurd rfl hvs | cons _ _ => rfl)).mpr ?_
   refine q_cons <| q_raiseOwn C' S9 (by walk_at "mem") (by k_is) (by k_exc) <| q_ic <| q_jstr1 <| q_str S9 fun t10 s10 S10 => q_ic <| q_name C' S10 (by walk_at "lk") <| q_i0 ⟨_, _, _, S10, Nat.le_of_ble_eq_true rfl, fun h' e hM => ?_⟩
   obtain ⟨tt, he, _⟩ := hM.there
   refine leave_made C' S10 Fs1 hM.keeps hM.new he rfl rfl rfl fun h'' frs2 SU2 Fs2 S11 Fl => ?_
   exact ⟨_, _, frs2, S11, SU1.trans SU2, fun frs3 SU3 Fs3 S12 => kE e _ frs3 _ SU3 Fs3 S12 (fly_back Fl (SU1.trans SU2) SU3 hr hg) hcyc⟩
section
variable {prog : Program} {w : World} {A : Around} {env : Env} {g base : Heap} {outer : List Env} {nm : List Str} {G : SV}
 {E : VP} {s0 s : Shared} {m : SM} {sub rest frs : LD}
theorem q_defX (C : Fm w A env g base outer nm G) (S : Stt s0 g env.locals m (sub ++ rest ++ frs) s) (Fs : Frs outer frs)
  {f : Addr} {oc : Value} {od : Option Addr} {osl : Array (Option Value)} {name qual : Str} {params : Arguments} {body : List Stmt} {scope : Scope} {dV kV doc pm cdv ct : Value} {an : Option Addr}
  {args : List Value} {Q : VP} (nm' : List Str) (vs : List Value) (vals' : OV) (G' : SV) (binds cb : SV) (cs : Nat → List (Str × Addr))
  (ho : (hK w.params).lookup f = some ⟨oc, od, .func (fnOf name qual params body scope dV kV doc pm an cdv ct), osl⟩) (hcd : codeIn (hK w.params) cdv qual = true) (hroom : A.depth < recursionLimit)
  (hbind : BindsTo s (fnOf name qual params body scope dV kV doc pm an cdv ct) ⟨args, []⟩ binds) (hlen : vs.length ≤ nm'.length) (hvals : vals' = vs.map some ++ List.replicate (nm'.length - vs.length) none)
  (hloc : (binds.filter fun p => scope.names.lookup p.1 == some .local) = nm'.zip vs) (hcel : (binds.filter fun p => !(scope.names.lookup p.1 == some .local)) = cb)
  (hck : ckNames scope nm' G' = true) (hcs : ∀ n, cellsFrom n scope.names [] = cs n) (hcsn : ((cs 0).map (·.1)).Nodup) (hcsk : ((cs 0).all fun p => scope.names.lookup p.1 == some .cell) = true)
  (hkind : ∀ n, ∀ x ∈ binds, scope.names.lookup x.1 = some .local ∨ (scope.names.lookup x.1 = some .cell ∧ ((cs n).lookup x.1).isSome = true))
  (hco : scope.isCoroutine = false) (hgen : scope.isGenerator = false) (hkf : scope.kind = .function)
  (h : ∀ g' n env' s_1 cells oL, (∀ p ∈ rest, g'.get? p.1 = some p.2) → (∀ b o, g.get? b = some o → g'.get? b = some o) → (∀ b o, g'.get? b = some o → s.heap.get? b = some o) →
   Fm w (A.deeper env') env' g' base (env :: outer) nm' G' → Cm env' (cs n) → CellsAre (fun y => cb.reverse.lookup y) (cs n) cells → s.heap.get? env.locals = some oL → Frs (env :: outer) ((env.locals, oL) :: frs) →
   Stt s g' env'.locals (lcs nm' vals') ((cells ++ sub) ++ (env.locals, oL) :: frs) s_1 →
   WP (model prog w) (A.deeper env') (execs body env')
    (FPost outer s g' env'.locals oL frs s0 g env.locals m rest Q) NE s_1) :
  WP (model prog w) A (PySem.call (.ref f) args) Q E s := by
 have X : (hK w.params).In s.heap := C.X.keeps S.fr.keep
 obtain ⟨p, loose, mean, mg, mb, T⟩ := C.T
 obtain ⟨oL, es, ep, hL, hLd, hLk, hLf⟩ := S.fr.ns
 have nd := S.nd
 simp only [List.map_append, List.nodup_append] at nd
 obtain ⟨as, has⟩ : ∃ as, as = sub.map (·.1) ++ env.locals :: frs.map (·.1) := ⟨_, rfl⟩
 have gA : ∀ b o, g.get? b = some o → b ∉ as := fun b o e hm => by
  rw [has] at hm
  rcases List.mem_append.mp hm with hm | hm
  ·obtain ⟨p, hp, rfl⟩ := List.mem_map.mp hm
   rw [(S.led p (List.mem_append_left _ (List.mem_append_left _ hp))).2.2] at e; cases e
  ·exact base_off S e hm
 have rA : ∀ p ∈ rest, p.1 ∉ as := fun p hp hm => by
  rw [has] at hm
  rcases List.mem_append.mp hm with hm | hm
  ·exact nd.1.2.2 p.1 hm p.1 (List.mem_map_of_mem hp) rfl
  ·rcases List.mem_cons.mp hm with q | hm
   ·exact (S.led p (List.mem_append_left _ (List.mem_append_right _ hp))).2.1 q
   ·exact nd.2.2 p.1 (List.mem_append_right _ (List.mem_map_of_mem hp)) p.1 hm rfl
 have hgk : ∀ b o, g.get? b = some o → (hideAll s.heap as).get? b = some o := fun b o e => hideAll_get _ (S.fr.keep b o e) (gA b o e)
 have st : g.StaysIn (hideAll s.heap as) := hgk
 have hrk : ∀ p ∈ rest, (hideAll s.heap as).get? p.1 = some p.2 := fun p hp => hideAll_get _ (S.led p (List.mem_append_left _ (List.mem_append_right _ hp))).1 (rA p hp)
 have Fs' : Frs (env :: outer) ((env.locals, oL) :: frs) := ⟨by rw [C.hk]; decide, C.hf, ⟨es, ep, hLd⟩, Fs⟩
 have inA : ∀ p ∈ sub ++ (env.locals, oL) :: frs, s.heap.get? p.1 = some p.2 ∧ p.1 ∈ as := fun p hp => by
  rw [has]
  rcases List.mem_append.mp hp with hp | hp
  ·exact ⟨S.get (List.mem_append_left _ (List.mem_append_left _ hp)), List.mem_append_left _ (List.mem_map_of_mem hp)⟩
  ·rcases List.mem_cons.mp hp with rfl | hp
   ·exact ⟨hL, List.mem_append_right _ (.head _)⟩
   ·exact ⟨S.get (List.mem_append_right _ hp), List.mem_append_right _ (.tail _ (List.mem_map_of_mem hp))⟩
 have ndA : ((sub ++ (env.locals, oL) :: frs).map (·.1)).Nodup := by
  simp only [List.map_append, List.map_cons, List.nodup_append, List.nodup_cons]
  refine ⟨nd.1.1, ⟨fun hm => ?_, nd.2.1⟩, fun a ha b hb e => ?_⟩
  ·obtain ⟨p, hp, q⟩ := List.mem_map.mp hm
   exact (S.led p (List.mem_append_right _ hp)).2.1 q
  ·rcases List.mem_cons.mp hb with q | hb
   ·obtain ⟨p, hp, q'⟩ := List.mem_map.mp ha
    exact (S.led p (List.mem_append_left _ (List.mem_append_left _ hp))).2.1 (by rw [q', e, q])
   ·exact nd.2.2 a (List.mem_append_left _ ha) b hb e
 simp only [ckNames, Bool.and_eq_true, List.all_eq_true, decide_eq_true_eq] at hck
 obtain ⟨⟨hk1, hk2⟩, hk3⟩ := hck
 have hp1 : ∀ x ∈ nm', scope.names.lookup x = some .local ∧ (x == ("__debug__" : Str)) = false := fun x hx => by
  have := hk1 x hx
  exact ⟨eq_of_beq this.1, by simpa using this.2⟩
 have hcn : ∀ n, (cs n).map (·.1) = (cs 0).map (·.1) := fun n => by rw [← hcs, ← hcs]; exact cellsFrom_names scope.names n 0 [] [] rfl
 refine ⟨wpAny_call (codeAny_call_function hroom (X _ _ ho) rfl hco hgen rfl (codeRec_of X hcd) (hbind _ _ _ _ ?_))⟩
 refine wpAny_newFunctionEnv_cells hkf (by rw [hcs]; exact hkind _) fun env' he s' x => ?_
 rw [hcs] at he
 have hcells : env'.cells = cs (s.heap.objs.size + 1) := by rw [he]; rfl
 have hlocs : env'.locals = s.heap.objs.size := by rw [he]; rfl
 have hkO : env'.kindOf = fun n => scope.names.lookup n := by rw [he]; rfl
 refine ⟨(T.nolimit.keeps S.fr.keep).keeps x.toInCall.keep, codeAny_func ?_⟩
 obtain ⟨h_1, tk, rfl, _⟩ := x.done
 have hk_1 := x.toInCall.keep
 have hns := x.toInCall.ns
 have hcl := x.cell
 have hab := x.above
 rw [hcells] at hcl hab
 rw [hlocs] at hns hab
 obtain ⟨cells, NC, Y⟩ := Cl.news (h₀ := s.heap) (L := s.heap.objs.size) (Nat.le_refl _) fun n c hm => ⟨hcl n c (lookup_of_mem_nodup ((hcn _).symm ▸ hcsn) hm), hab n c hm⟩
 have eL : bindL env'.kindOf binds (fun _ => none) = lcs nm' vals' := by
  rw [hkO, bindL_eq, hloc, hvals, ← binds_lcs hlen hk3]; funext y; simp
 have eC : bindC env'.kindOf binds (fun _ => none) = fun y => cb.reverse.lookup y := by
  rw [hkO, bindC_eq, hcel]; funext y; simp
 rw [eC] at Y
 rw [eL] at hns
 have Yk : ∀ {cs : List (Str × Addr)} {cells : LD}, CellsAre (fun y => cb.reverse.lookup y) cs cells → cells.map (·.1) = cs.map (·.2) := by
  intro cs cells Y; induction Y with
  | nil => rfl
  | cons _ _ ih => simp [ih]
 have ap : ((cs (s.heap.objs.size + 1)).map (·.2)).Nodup := by
  have := x.apart
  rw [hcells] at this
  exact List.pairwise_map.mpr this
 have hcx : ∀ p ∈ cs (s.heap.objs.size + 1), env'.kindOf p.1 = some .cell := fun p hp => by
  rw [hkO]
  obtain ⟨q, hq, e⟩ := List.mem_map.mp ((hcn (s.heap.objs.size + 1)) ▸ List.mem_map_of_mem hp : p.1 ∈ (cs 0).map (·.1))
  have := List.all_eq_true.mp hcsk q hq
  rw [← e]; exact eq_of_beq this
 have hfm : Fm w (A.deeper env') env' (hideAll s.heap as) base (env :: outer) nm' G' := by
  subst he
  refine ⟨C.X.keeps st, ⟨p, loose, mean, mg, mb, T.keeps st⟩, trivial, Around.frames_deeper C.hA, rfl, hkf, C.hh, rfl, rfl, hk3, hp1, fun q hq => ?_⟩
  have := hk2 q hq
  exact ⟨eq_of_beq this.1.1, by simpa using this.1.2, gts w q (List.contains_iff_mem.mp this.2)⟩
 have hcm : Cm env' (cs (s.heap.objs.size + 1)) := ⟨hcells, by rw [he]; exact hkf, hcx⟩
 refine wpAny_mono (h (hideAll s.heap as) (s.heap.objs.size + 1) env' _ cells oL hrk hgk (fun b o e => of_hideAll _ e) hfm hcm Y hL Fs' ?_).run (fun fl s_2 hl => ?_) fun _ _ e => e.elim
 ·refine ⟨⟨_, _, rfl⟩, ?_, fun p hp => ?_, ?_⟩
  ·rw [hlocs]
   exact ⟨hns, fun b o e => hk_1 b o (of_hideAll _ e), Nat.le_of_eq (hideAll_size _ _)⟩
  ·rw [hlocs]
   rw [List.append_assoc] at hp
   rcases List.mem_append.mp hp with hp | hp
   ·refine ⟨(NC p hp).1, (NC p hp).2.1, ?_⟩
    cases q : (hideAll s.heap as).get? p.1 with
    | none => rfl
    | some o => have := of_hideAll _ q; rw [(NC p hp).2.2] at this; cases this
   ·have hp' := inA p hp
    exact ⟨hk_1 _ _ hp'.1, Nat.ne_of_lt (Heap.lt_size hp'.1), hideAll_none _ hp'.2⟩
  ·rw [List.append_assoc, List.map_append, List.nodup_append]
   refine ⟨(Yk Y) ▸ ap, ndA, fun a ha b hb e => ?_⟩
   obtain ⟨p, hp, rfl⟩ := List.mem_map.mp ha
   obtain ⟨q, hq, rfl⟩ := List.mem_map.mp hb
   have := (inA q hq).1
   rw [← e, (NC p hp).2.2] at this; cases this
 ·obtain ⟨m', news', frs'', S_2, SU, k⟩ := hl
  obtain ⟨frs', SU', S_3, _⟩ := backX S hL hrk hgk S_2 SU
  have := k frs' SU' (Fs.up SU') S_3
  cases fl <;> exact this
end
section
variable {prog : Program} {w : World} {A : Around} {env : Env} {g base : Heap} {outer : List Env} {nm : List Str} {G : SV}
 {M : Model} {E : VP} {s0 s : Shared} {L : Addr} {m : SM} {news : LD}
theorem star_S (S : Stt s0 g L m news s) {a : Addr} {o : Obj} {vs : List Value} {Q : List Value → Shared → Prop} (ha : (a, o) ∈ news) (hq : IsSeq o vs) (hz : vs.length ≤ 1000) (h : ∀ s', Stt s0 g L m news s' → (∀ b o, s.heap.get? b = some o → s'.heap.get? b = some o) → Q vs s') : StarOf (model prog w) A E (.ref a) Q s := by
 obtain ⟨hc, n, hd⟩ := hq
 have D := S.get ha
 obtain ⟨T, hT, hcT⟩ : ∃ T, (T = "list" ∨ T = "tuple") ∧ o.cls = .type T := hc.elim (fun h => ⟨_, .inl rfl, h⟩) fun h => ⟨_, .inr rfl, h⟩
 have hT' : s.TypeIs (.ref a) T := ⟨o, D, hcT⟩
 have z : wpAny (model prog w) A (collect (.ref a)) Q E s := by
  refine wpAny_collect_seq a hT D hcT hd (fun h' hk => ?_) (by simp only [List.size_toArray]; exact Nat.le_trans hz (by decide))
  exact h _ (S.keeps s.toks hk) hk
 unfold StarOf notIterableAtAll
 rcases hT with rfl | rfl
 ·exact wpAny_bind (wpAny_specialOf hT' PySem.F.slot_list_iter.lookup (wpAny_pure ⟨rfl, z⟩))
 ·exact wpAny_bind (wpAny_specialOf hT' PySem.F.slot_tuple_iter.lookup (wpAny_pure ⟨rfl, z⟩))
theorem q_is {pos p : Pos} {e : Expr} {rest : List Expr} {Q : List Value → Shared → Prop}
  (h : WP M A (eval e env) (fun v s_1 => StarOf M A E v (fun here s_2 => WP M A (spliced (backTo pos (starEach rest env))) (fun vs s3 => Q (here ++ vs) s3) E s_2) s_1) E s)
  (he : starEach (.Starred e p :: rest) env = (true, eval e env) :: starEach rest env := by exact rfl) : WP M A (spliced (backTo pos (starEach (.Starred e p :: rest) env))) Q E s :=
 ⟨items_star (wpAny_mono h.run (fun v s_1 h_1 => by
  unfold StarOf at h_1 ⊢
  exact wpAny_mono h_1 (fun b s_2 h_2 => ⟨h_2.1, wpAny_mono h_2.2 (fun vs s3 h_3 => h_3.run) fun _ _ e => e⟩) fun _ _ e => e) fun _ _ e => e) he⟩
inductive PExtV (Q : VP) (l : Addr) (v : Value) (s_2 : Shared) : Prop
 | mk (s0 : Shared) (g : Heap) (L : Addr) (m : SM) (news : LD) (b : _) (its' : List Value) (n' : _) (its2 : List Value) (n2 : _) (news' : Nat → LD) (h1 : v = .ref b) (h2 : Stt s0 g L m news s_2) (h3 : its'.length ≤ 500) (h4 : its2.length ≤ 500) (h5 : s_2.heap.get? l = some (W.listOf its'.toArray n')) (h6 : s_2.heap.get? b = some (W.listOf its2.toArray n2)) (h7 : (∀ n'', Ch l (W.listOf its'.toArray n') (W.listOf (its' ++ its2).toArray n'') news (news' n''))) (h8 : ∀ n'' s', Stt s0 g L m (news' n'') s' → Q .none s') : PExtV Q l v s_2
inductive PExt (prog : Program) (w : World) (A : Around) (env : Env) (e : Expr) (Q : VP) (E : VP) (ov : Value) (s_1 : Shared) : Prop
 | mk (l : _) (its : _) (n : _) (h1 : ov = .ref l) (h2 : s_1.heap.get? l = some (W.listOf its n)) (h3 : WP (model prog w) A (eval e env) (PExtV Q l) E s_1) : PExt prog w A env e Q E ov s_1
theorem q_extend {o e : Expr} {apos pos : Pos} {Q : VP}
  (h : WP (model prog w) A (eval o env) (PExt prog w A env e Q E) E s)
  (hbase : attributeBase o "extend" env (eval o env) = eval o env := by exact rfl)
  (hfew : ((backTo pos (starEach [e] env)).all (fun x => !x.1) && (backToKw pos (keywordEach [] env)).all (fun x => x.1.isSome)
   && decide (([e] : List Expr).length + ([] : List Keyword).length + (if ([] : List Keyword).isEmpty then 0 else 1) < 30)) = true := by exact rfl)
  (hline : (apos.endLine == pos.line) = true := by exact rfl) (htr : backTo pos (starEach [e] env) = [(false, eval e env)] := by exact rfl) :
  WP (model prog w) A (eval (.Call (.Attribute o "extend" apos) [e] [] pos) env) Q E s := by
 refine q_meth1 F.plainAttrs_list F.slot_list_extend F.type_list_extend (q_mono h fun ov s_1 h_1 => ?_) hbase hfew hline htr
 obtain ⟨l, its, n, rfl, hl, hc⟩ := h_1
 refine ⟨(isL hl).typeIs, fun a ea => by cases ea; exact ⟨_, hl, rfl⟩, ⟨P.extend_list (wpAny_mono hc.run (fun v s_2 h_2 => ?_) fun _ _ e => e)⟩⟩
 obtain ⟨s0, g, L, m, news, b, its', n', its2, n2, news', rfl, S, hz, hz2, hl2, hb, U, q⟩ := h_2
 refine ⟨b, its'.toArray, its2.toArray, n', n2, ?_, ?_, ?_, rfl, hl2, hb, q (if its2.isEmpty then n' else n' + 1) _ (S.upd s_2.toks (U _) ?_)⟩
 ·simp only [List.size_toArray]; exact Nat.le_trans hz (by decide)
 ·simp only [List.size_toArray]; exact Nat.le_trans (Nat.add_le_add hz hz2) (by decide)
 ·simp [Builtin.List.listTooLong, sizeLine]; lia
 ·show Obj.mapSeq _ _ = _
  simp [Obj.mapSeq]
end
end
noncomputable def namesG (G : AG) : List Str := G.map (·.1)
noncomputable def scG (G : AG) (y : Str) : List Str := ((G.find? fun p => decide (p.1 = y)).map (·.2.2)).getD []
noncomputable def inCnt (G : AG) (y : Str) : Int := (G.map fun r => ((r.2.2.count y : Nat) : Int)).sum
theorem hasG_iff {G : AG} {y : Str} : hasG G y = true ↔ y ∈ namesG G := by
 unfold hasG namesG
 rw [List.any_eq_true, List.mem_map]
 constructor
 ·rintro ⟨p, hp, e⟩; exact ⟨p, hp, by simpa using e⟩
 ·rintro ⟨p, hp, e⟩; exact ⟨p, hp, by simpa using e⟩
theorem scG_mem {G : AG} (nd : (namesG G).Nodup) {p : Str × Int × List Str} (hp : p ∈ G) : scG G p.1 = p.2.2 := by
 induction G with
 | nil => cases hp
 | cons q G ih =>
  unfold namesG at nd
  simp only [List.map_cons, List.nodup_cons] at nd
  unfold scG
  rw [List.find?_cons]
  rcases List.mem_cons.mp hp with rfl | hp
  ·simp
  ·have : q.1 ≠ p.1 := fun e => nd.1 (by rw [e]; exact List.mem_map_of_mem hp)
   simp only [this, decide_false]
   exact ih nd.2 hp
theorem scG_sub {G : AG} {y z : Str} (h : z ∈ scG G y) : ∃ p ∈ G, p.1 = y ∧ z ∈ p.2.2 := by
 unfold scG at h
 cases hf : G.find? fun p => decide (p.1 = y) with
 | none => rw [hf] at h; cases h
 | some p =>
  rw [hf] at h
  exact ⟨p, List.mem_of_find?_eq_some hf, by simpa using List.find?_some hf, h⟩
theorem names_ensure {G : AG} {y z : Str} : z ∈ namesG (ensure G y) ↔ z ∈ namesG G ∨ z = y := by
 unfold ensure
 by_cases h : hasG G y = true
 ·rw [if_pos h]
  constructor
  ·exact .inl
  ·rintro (h' | rfl)
   ·exact h'
   ·exact hasG_iff.mp h
 ·rw [if_neg h]; simp [namesG]
theorem sc_ensure (G : AG) (y u : Str) : scG (ensure G y) u = scG G u := by
 unfold ensure
 by_cases h : hasG G y = true
 ·rw [if_pos h]
 ·rw [if_neg h]
  unfold scG
  rw [List.find?_append]
  cases hf : G.find? fun p => decide (p.1 = u) with
  | some p => rfl
  | none => by_cases e : y = u <;> simp [e]
theorem in_ensure (G : AG) (y u : Str) : inCnt (ensure G y) u = inCnt G u := by
 unfold ensure
 by_cases h : hasG G y = true
 ·rw [if_pos h]
 ·rw [if_neg h]; unfold inCnt; simp
theorem nd_ensure {G : AG} {y : Str} (h : (namesG G).Nodup) : (namesG (ensure G y)).Nodup := by
 unfold ensure
 by_cases hy : hasG G y = true
 ·rw [if_pos hy]; exact h
 ·rw [if_neg hy]
  unfold namesG at h ⊢
  rw [List.map_append, List.nodup_append]
  refine ⟨h, by simp, fun a ha b hb e => hy (hasG_iff.mpr ?_)⟩
  simp at hb
  unfold namesG
  rw [← hb, ← e]; exact ha
theorem names_np (G : AG) (y : Str) (k : Int) : namesG (addNp G y k) = namesG G := by
 unfold namesG addNp
 rw [List.map_map]
 refine List.map_congr_left fun p _ => ?_
 show (if p.1 = y then _ else p).1 = _
 split <;> rfl
theorem sc_np (G : AG) (y u : Str) (k : Int) : scG (addNp G y k) u = scG G u := by
 unfold scG addNp
 rw [List.find?_map]
 have : ((fun p : Str × Int × List Str => decide (p.1 = u)) ∘ fun p => if p.1 = y then (p.1, p.2.1 + k, p.2.2) else p) = fun p => decide (p.1 = u) := by
  funext p
  show decide ((if p.1 = y then (p.1, p.2.1 + k, p.2.2) else p).1 = u) = _
  split <;> rfl
 rw [this]
 cases G.find? fun p => decide (p.1 = u) with
 | none => rfl
 | some p => simp; split <;> rfl
theorem in_np (G : AG) (y u : Str) (k : Int) : inCnt (addNp G y k) u = inCnt G u := by
 unfold inCnt addNp
 rw [List.map_map]
 congr 1
 refine List.map_congr_left fun p _ => ?_
 show (((if p.1 = y then (p.1, p.2.1 + k, p.2.2) else p).2.2.count u : Nat) : Int) = _
 split <;> rfl
theorem names_succ (G : AG) (p y : Str) : namesG (addSucc G p y) = namesG G := by
 unfold namesG addSucc
 rw [List.map_map]
 refine List.map_congr_left fun r _ => ?_
 show (if r.1 = p then _ else r).1 = _
 split <;> rfl
theorem sc_succ (G : AG) (p y u : Str) (hp : p ∈ namesG G) : scG (addSucc G p y) u = if u = p then scG G u ++ [y] else scG G u := by
 unfold scG addSucc
 rw [List.find?_map]
 have : ((fun r : Str × Int × List Str => decide (r.1 = u)) ∘ fun r => if r.1 = p then (r.1, r.2.1, r.2.2 ++ [y]) else r) = fun r => decide (r.1 = u) := by
  funext r
  show decide ((if r.1 = p then (r.1, r.2.1, r.2.2 ++ [y]) else r).1 = u) = _
  split <;> rfl
 rw [this]
 cases hf : G.find? fun r => decide (r.1 = u) with
 | none =>
  by_cases e : u = p
  ·subst e
   obtain ⟨r, hr, e⟩ := List.mem_map.mp hp
   have := List.find?_eq_none.mp hf r hr
   simp [e] at this
  ·simp [e]
 | some r =>
  have hr : r.1 = u := by simpa using List.find?_some hf
  simp only [Option.map_some, Option.getD_some, hr]
  by_cases e : u = p
  ·rw [if_pos e, if_pos e]
  ·rw [if_neg e, if_neg e]
theorem in_succ : ∀ {G : AG}, (namesG G).Nodup → ∀ {p : Str}, p ∈ namesG G → ∀ (y z : Str), inCnt (addSucc G p y) z = inCnt G z + if z = y then 1 else 0
 | q :: G, nd, p, hp, y, z => by
  unfold namesG at nd hp
  simp only [List.map_cons, List.nodup_cons] at nd
  have off : ∀ G : AG, p ∉ namesG G → addSucc G p y = G := fun G h => by
   unfold addSucc
   refine (List.map_congr_left fun r hr => ?_).trans (List.map_id G)
   have : r.1 ≠ p := fun e => h (by unfold namesG; rw [← e]; exact List.mem_map_of_mem hr)
   simp [this]
  by_cases e : q.1 = p
  ·have h1 := off G (by rw [← e]; exact nd.1)
   have h2 : addSucc (q :: G) p y = (q.1, q.2.1, q.2.2 ++ [y]) :: G := by
    unfold addSucc at h1 ⊢
    rw [List.map_cons, h1, if_pos e]
   rw [h2]
   unfold inCnt
   simp only [List.map_cons, List.sum_cons, List.count_append]
   by_cases hz : z = y
   ·subst hz; simp; lia
   ·have : List.count z [y] = 0 := List.count_eq_zero.mpr (by simp [hz])
    simp [hz, this]
  ·have hp' : p ∈ namesG G := by
    rcases List.mem_cons.mp hp with h | h
    ·exact absurd h.symm e
    ·exact h
   have ih := in_succ (G := G) nd.2 hp' y z
   have h2 : addSucc (q :: G) p y = q :: addSucc G p y := by
    unfold addSucc
    rw [List.map_cons, if_neg e]
   rw [h2]
   unfold inCnt at ih ⊢
   simp only [List.map_cons, List.sum_cons]
   rw [ih]; lia
structure BalD (G : AG) (y : Str) (k : Int) : Prop where
 nd : (namesG G).Nodup
 cl : ∀ p ∈ G, ∀ z ∈ p.2.2, z ∈ namesG G
 bal : ∀ p ∈ G, p.2.1 = inCnt G p.1 + if p.1 = y then k else 0
noncomputable def GoodG (G : AG) : Prop := ∀ y, BalD G y 0
theorem in_zero {G : AG} (cl : ∀ p ∈ G, ∀ z ∈ p.2.2, z ∈ namesG G) {y : Str} (h : y ∉ namesG G) : inCnt G y = 0 := by
 unfold inCnt
 have : ∀ l : AG, (∀ p ∈ l, p ∈ G) → (l.map fun r => ((r.2.2.count y : Nat) : Int)).sum = 0 := by
  intro l
  induction l with
  | nil => intro _; rfl
  | cons p l ih =>
   intro hl
   rw [List.map_cons, List.sum_cons, ih fun q hq => hl q (.tail _ hq), List.count_eq_zero.mpr fun hy => h (cl p (hl p (.head _)) y hy)]
   rfl
 exact this G fun p hp => hp
theorem BalD.ensure {G : AG} {y : Str} {k : Int} (B : BalD G y k) {z : Str} (hz : z ≠ y ∨ z ∈ namesG G ∨ k = 0) : BalD (ensure G z) y k := by
 refine ⟨nd_ensure B.nd, ?_, ?_⟩
 ·intro p hp v hv
  rw [names_ensure]
  unfold Mine.ensure at hp
  split at hp
  ·exact .inl (B.cl p hp v hv)
  ·rcases List.mem_append.mp hp with hp | hp
   ·exact .inl (B.cl p hp v hv)
   ·simp at hp; subst hp; cases hv
 ·intro p hp
  rw [in_ensure]
  unfold Mine.ensure at hp
  split at hp
  ·exact B.bal p hp
  ·rename_i hno
   rcases List.mem_append.mp hp with hp | hp
   ·exact B.bal p hp
   ·simp at hp; subst hp
    have hzn : z ∉ namesG G := fun h => hno (hasG_iff.mpr h)
    rw [in_zero B.cl hzn]
    rcases hz with h | h | h
    ·simp [h]
    ·exact absurd h hzn
    ·simp [h]
theorem BalD.succ {G : AG} {y : Str} {k : Int} (B : BalD G y k) {p : Str} (hp : p ∈ namesG G) (hy : y ∈ namesG G) : BalD (addSucc G p y) y (k - 1) := by
 refine ⟨by rw [names_succ]; exact B.nd, ?_, ?_⟩
 ·intro r hr v hv
  rw [names_succ]
  unfold addSucc at hr
  obtain ⟨q, hq, rfl⟩ := List.mem_map.mp hr
  split at hv
  ·rcases List.mem_append.mp hv with h | h
   ·exact B.cl q hq v h
   ·simp at h; rw [h]; exact hy
  ·exact B.cl q hq v hv
 ·intro r hr
  rw [in_succ B.nd hp]
  unfold addSucc at hr
  obtain ⟨q, hq, rfl⟩ := List.mem_map.mp hr
  have := B.bal q hq
  have e1 : (if q.1 = p then (q.1, q.2.1, q.2.2 ++ [y]) else q).2.1 = q.2.1 := by split <;> rfl
  have e2 : (if q.1 = p then (q.1, q.2.1, q.2.2 ++ [y]) else q).1 = q.1 := by split <;> rfl
  rw [e1, e2, this]
  by_cases h : q.1 = y
  ·simp [h]; lia
  ·simp [h]
theorem BalD.zero {G : AG} {y : Str} (B : BalD G y 0) : GoodG G := fun z => ⟨B.nd, B.cl, fun p hp => by have := B.bal p hp; simp at this ⊢; exact this⟩
theorem addG_fold : ∀ (ps : List Str) {G : AG} {y : Str} {k : Int}, BalD G y k → y ∈ namesG G →
  BalD (ps.foldl (fun G p => addSucc (ensure G p) p y) G) y (k - ps.length) ∧ (∀ z, z ∈ namesG (ps.foldl (fun G p => addSucc (ensure G p) p y) G) ↔ z ∈ namesG G ∨ z ∈ ps) ∧
  ∀ u z, z ∈ scG (ps.foldl (fun G p => addSucc (ensure G p) p y) G) u ↔ z ∈ scG G u ∨ (u ∈ ps ∧ z = y)
 | [], G, y, k, B, hy => ⟨by simpa using B, by simp, by simp⟩
 | p :: ps, G, y, k, B, hy => by
  have hp : p ∈ namesG (ensure G p) := names_ensure.mpr (.inr rfl)
  have hy' : y ∈ namesG (ensure G p) := names_ensure.mpr (.inl hy)
  have B1 : BalD (ensure G p) y k := B.ensure (by by_cases e : p = y; exact .inr (.inl (e ▸ hy)); exact .inl e)
  have B2 := B1.succ hp hy'
  obtain ⟨B3, h1, h2⟩ := addG_fold ps B2 (by rw [names_succ]; exact hy')
  rw [List.foldl_cons]
  refine ⟨by rw [show k - ((p :: ps).length : Int) = k - 1 - ps.length by simp; lia]; exact B3, fun z => ?_, fun u z => ?_⟩
  ·rw [h1, names_succ, names_ensure]
   simp only [List.mem_cons]
   constructor
   ·rintro ((h | h) | h)
    ·exact .inl h
    ·exact .inr (.inl h)
    ·exact .inr (.inr h)
   ·rintro (h | h | h)
    ·exact .inl (.inl h)
    ·exact .inl (.inr h)
    ·exact .inr h
  ·rw [h2, sc_succ _ _ _ _ hp, sc_ensure]
   by_cases e : u = p
   ·subst e
    simp only [if_true, List.mem_append, List.mem_cons, List.not_mem_nil, or_false, true_or, true_and]
    constructor
    ·rintro ((h | h) | ⟨_, h⟩)
     ·exact .inl h
     ·exact .inr h
     ·exact .inr h
    ·rintro (h | h)
     ·exact .inl (.inl h)
     ·exact .inl (.inr h)
   ·simp only [e, if_false, List.mem_cons, false_or]
theorem addG_good {G : AG} (h : GoodG G) (y : Str) (ps : List Str) : GoodG (addG G y ps) ∧ (∀ z, z ∈ namesG (addG G y ps) ↔ z ∈ namesG G ∨ z = y ∨ z ∈ ps) ∧ ∀ u z, z ∈ scG (addG G y ps) u ↔ z ∈ scG G u ∨ (u ∈ ps ∧ z = y) := by
 have B0 : BalD (ensure G y) y 0 := (h y).ensure (.inr (.inr rfl))
 have hy : y ∈ namesG (ensure G y) := names_ensure.mpr (.inr rfl)
 have B1 : BalD (addNp (ensure G y) y ps.length) y ps.length := by
  refine ⟨by rw [names_np]; exact B0.nd, ?_, ?_⟩
  ·intro p hp v hv
   rw [names_np]
   unfold addNp at hp
   obtain ⟨q, hq, rfl⟩ := List.mem_map.mp hp
   split at hv <;> exact B0.cl q hq v hv
  ·intro p hp
   rw [in_np]
   unfold addNp at hp
   obtain ⟨q, hq, rfl⟩ := List.mem_map.mp hp
   have := B0.bal q hq
   by_cases e : q.1 = y
   ·simp [e] at this ⊢; exact this
   ·simp [e] at this ⊢; exact this
 obtain ⟨B2, h1, h2⟩ := addG_fold ps B1 (by rw [names_np]; exact hy)
 refine ⟨?_, fun z => ?_, fun u z => ?_⟩
 ·have : ((ps.length : Nat) : Int) - ps.length = 0 := by lia
  rw [this] at B2
  exact B2.zero
 ·unfold addG
  rw [h1, names_np, names_ensure]
  exact or_assoc
 ·unfold addG
  rw [h2, sc_np, sc_ensure]
theorem good_nil : GoodG [] := fun y => ⟨List.nodup_nil, by simp, by simp⟩
noncomputable def Dn (V : List Str) (sc : Str → List Str) (done : List Str) (z : Str) : Int := ((V.filter fun u => decide (u ∉ done)).map fun u => (((sc u).count z : Nat) : Int)).sum
theorem sum_nonneg : ∀ {l : List Str} {f : Str → Nat}, 0 ≤ (l.map fun u => ((f u : Nat) : Int)).sum
 | [], _ => by simp
 | a :: l, f => by simp only [List.map_cons, List.sum_cons]; have := @sum_nonneg l f; lia
theorem sum_zero : ∀ {l : List Str} {f : Str → Nat}, (l.map fun u => ((f u : Nat) : Int)).sum = 0 ↔ ∀ u ∈ l, f u = 0
 | [], _ => by simp
 | a :: l, f => by
  have h := @sum_nonneg l f
  have ih := @sum_zero l f
  simp only [List.map_cons, List.sum_cons, List.forall_mem_cons, ← ih]
  lia
theorem Dn_nonneg (V : List Str) (sc : Str → List Str) (done : List Str) (z : Str) : 0 ≤ Dn V sc done z := sum_nonneg
theorem Dn_zero {V : List Str} {sc : Str → List Str} {done : List Str} {z : Str} : Dn V sc done z = 0 ↔ ∀ u ∈ V, u ∉ done → z ∉ sc u := by
 unfold Dn
 rw [sum_zero]
 simp only [List.mem_filter, decide_eq_true_eq, List.count_eq_zero]
 constructor
 ·intro h u hu hn; exact h u ⟨hu, hn⟩
 ·intro h u hu; exact h u hu.1 hu.2
theorem Dn_snoc {sc : Str → List Str} {done : List Str} {y z : Str} (hy : y ∉ done) : ∀ {V : List Str}, V.Nodup → y ∈ V → Dn V sc done z = Dn V sc (done ++ [y]) z + (((sc y).count z : Nat) : Int)
 | a :: V, nd, h => by
  have n := List.nodup_cons.mp nd
  unfold Dn
  have off : ∀ V : List Str, y ∉ V → (V.filter fun u => decide (u ∉ done ++ [y])) = V.filter fun u => decide (u ∉ done) := fun V hV => by
   refine List.filter_congr fun u hu => ?_
   have : u ≠ y := fun e => hV (e ▸ hu)
   simp [this]
  by_cases e : a = y
  ·subst e
   have h1 : decide (a ∉ done) = true := by simpa using hy
   have h2 : decide (a ∉ done ++ [a]) = false := by simp
   rw [List.filter_cons, List.filter_cons, h1, h2, off V n.1]
   simp only [if_true, Bool.false_eq_true, if_false, List.map_cons, List.sum_cons]
   lia
  ·have hy' : y ∈ V := by
    rcases List.mem_cons.mp h with h | h
    ·exact absurd h.symm e
    ·exact h
   have ih := Dn_snoc (z := z) (sc := sc) hy n.2 hy'
   unfold Dn at ih
   have h2 : decide (a ∉ done ++ [y]) = decide (a ∉ done) := by simp [e]
   rw [List.filter_cons, List.filter_cons, h2]
   by_cases h1 : a ∈ done
   ·simp only [h1, not_true_eq_false, decide_false, Bool.false_eq_true, if_false]; exact ih
   ·simp only [h1, not_false_eq_true, decide_true, if_true, List.map_cons, List.sum_cons]; lia
theorem fold_dec {O : Str → Prop} {D : Str → Int} (hD : ∀ v, 0 ≤ D v) : ∀ (t : List Str) (st : SP), (∀ v ∈ t, O v) → (∀ v, O v → st.1 v = D v + ((t.count v : Nat) : Int)) → st.2.Nodup → (∀ v, v ∈ st.2 ↔ O v ∧ st.1 v = 0) →
  (∀ v, O v → (t.foldl decP st).1 v = D v) ∧ (t.foldl decP st).2.Nodup ∧ (∀ v, v ∈ (t.foldl decP st).2 ↔ O v ∧ (t.foldl decP st).1 v = 0) ∧ ∀ v, ¬ O v → (t.foldl decP st).1 v = st.1 v
 | [], st, _, h2, h3, h4 => ⟨fun v hv => by simpa using h2 v hv, h3, h4, fun _ _ => rfl⟩
 | z :: t, st, h1, h2, h3, h4 => by
  have hz := h1 z (.head _)
  have hzv := h2 z hz
  rw [List.count_cons_self] at hzv
  have hDz := hD z
  have hnz : z ∉ st.2 := fun h => by
   have := ((h4 z).mp h).2
   lia
  rw [List.foldl_cons]
  have e1 : ∀ v, (decP st z).1 v = if v = z then st.1 z - 1 else st.1 v := fun v => rfl
  have e2 : (decP st z).2 = if st.1 z - 1 = 0 then st.2 ++ [z] else st.2 := rfl
  obtain ⟨r1, r2, r3, r4⟩ := fold_dec (O := O) hD t (decP st z) (fun v hv => h1 v (.tail _ hv)) (fun v hv => by
   rw [e1]
   by_cases e : v = z
   ·subst e; rw [if_pos rfl, hzv]; lia
   ·rw [if_neg e, h2 v hv]
    have : (z == v) = false := beq_eq_false_iff_ne.mpr fun q => e q.symm
    rw [List.count_cons, this]; simp) (by
   rw [e2]
   split
   ·rw [List.nodup_append]; exact ⟨h3, by simp, fun a ha b hb q => hnz (by simp at hb; rw [← hb, ← q]; exact ha)⟩
   ·exact h3) (fun v => by
   rw [e1, e2]
   by_cases e : v = z
   ·subst e
    rw [if_pos rfl]
    split
    ·rename_i h0; simp [hz, h0]
    ·rename_i h0
     constructor
     ·intro h; exact absurd h hnz
     ·intro h; exact absurd h.2 h0
   ·rw [if_neg e, ← h4]
    split
    ·simp [e]
    ·rfl)
  refine ⟨r1, r2, r3, fun v hv => ?_⟩
  rw [r4 v hv, e1, if_neg fun e => hv (by rw [e]; exact hz)]
structure KInv (V : List Str) (sc : Str → List Str) (np : Str → Int) (rs told : List Str) : Prop where
 nd : (told ++ rs).Nodup
 sub : ∀ v ∈ told ++ rs, v ∈ V
 cnt : ∀ v ∈ V, v ∉ told → np v = Dn V sc told v
 rdy : ∀ v, v ∈ rs ↔ v ∈ V ∧ v ∉ told ∧ np v = 0
 ord : ∀ pre v post, told = pre ++ v :: post → ∀ u ∈ V, v ∈ sc u → u ∈ pre
theorem KInv.closed {V : List Str} {sc : Str → List Str} {np : Str → Int} {rs told : List Str} (K : KInv V sc np rs told) {u v : Str} (hv : v ∈ told) (hu : u ∈ V) (h : v ∈ sc u) : u ∈ told := by
 obtain ⟨pre, post, e⟩ := List.append_of_mem hv
 rw [e]; exact List.mem_append_left _ (K.ord pre v post e u hu h)
noncomputable def markP (np : Str → Int) (rs : List Str) : Str → Int := fun y => if y ∈ rs then -1 else np y
structure BInv (V : List Str) (sc : Str → List Str) (rs told b c : List Str) (st : SP) : Prop where
 spl : rs = b ++ c
 one : ∀ y ∈ c, st.1 y = -1
 cnt : ∀ v, (v ∈ V ∧ v ∉ told ∧ v ∉ rs) → st.1 v = Dn V sc (told ++ b) v
 nd : st.2.Nodup
 rdy : ∀ v, v ∈ st.2 ↔ (v ∈ V ∧ v ∉ told ∧ v ∉ rs) ∧ st.1 v = 0
theorem KInv.start {V : List Str} {sc : Str → List Str} {np : Str → Int} {rs told : List Str} (K : KInv V sc np rs told) : BInv V sc rs told [] rs (markP np rs, []) := by
 refine ⟨rfl, fun y hy => by simp [markP, hy], fun v hv => ?_, .nil, fun v => ?_⟩
 ·rw [List.append_nil]; simp only [markP, hv.2.2, if_false]; exact K.cnt v hv.1 hv.2.1
 ·simp only [List.not_mem_nil, false_iff, not_and]
  intro hv h0
  simp only [markP, hv.2.2, if_false] at h0
  exact hv.2.2 ((K.rdy v).mpr ⟨hv.1, hv.2.1, h0⟩)
theorem KInv.batch {V : List Str} {sc : Str → List Str} {np : Str → Int} {rs told : List Str} (K : KInv V sc np rs told) (hV : V.Nodup) (hcl : ∀ u ∈ V, ∀ z ∈ sc u, z ∈ V) : ∀ (c b : List Str) (st : SP), BInv V sc rs told b c st →
  BInv V sc rs told (b ++ c) [] (c.foldl (doneP sc) st) ∧ ∀ i y, c[i]? = some y → ((c.take i).foldl (doneP sc) st).1 y = -1
 | [], b, st, B => ⟨by rw [List.append_nil]; exact B, by simp⟩
 | y :: c, b, st, B => by
  have hyr : y ∈ rs := by rw [B.spl]; simp
  have hyV := K.sub y (List.mem_append_right _ hyr)
  have nd := List.nodup_append.mp K.nd
  have hyt : y ∉ told := fun h => nd.2.2 y h y hyr rfl
  have ndr : (b ++ y :: c).Nodup := B.spl ▸ nd.2.1
  have hyb : y ∉ b := fun h => (List.nodup_append.mp ndr).2.2 y h y (.head _) rfl
  have hytb : y ∉ told ++ b := fun h => (List.mem_append.mp h).elim hyt hyb
  have hsO : ∀ z ∈ sc y, z ∈ V ∧ z ∉ told ∧ z ∉ rs := fun z hz => by
   refine ⟨hcl y hyV z hz, fun h => hyt (K.closed h hyV hz), fun h => ?_⟩
   obtain ⟨h1, h2, h3⟩ := (K.rdy z).mp h
   rw [K.cnt z h1 h2] at h3
   exact Dn_zero.mp h3 y hyV hyt hz
  obtain ⟨r1, r2, r3, r4⟩ := fold_dec (O := fun v => v ∈ V ∧ v ∉ told ∧ v ∉ rs) (D := Dn V sc (told ++ (b ++ [y]))) (Dn_nonneg _ _ _) (sc y) (fun z => if z = y then -2 else st.1 z, st.2) hsO (fun v hv => by
   have : v ≠ y := fun e => hv.2.2 (e ▸ hyr)
   show (if v = y then -2 else st.1 v) = _
   rw [if_neg this, B.cnt v hv, Dn_snoc hytb hV hyV, List.append_assoc]) B.nd (fun v => by
   rw [B.rdy]
   constructor
   ·intro h
    have : v ≠ y := fun e => h.1.2.2 (e ▸ hyr)
    exact ⟨h.1, by show (if v = y then -2 else st.1 v) = 0; rw [if_neg this]; exact h.2⟩
   ·intro h
    have : v ≠ y := fun e => h.1.2.2 (e ▸ hyr)
    have h2 : (if v = y then -2 else st.1 v) = 0 := h.2
    rw [if_neg this] at h2
    exact ⟨h.1, h2⟩)
  have B' : BInv V sc rs told (b ++ [y]) c (doneP sc st y) := by
   refine ⟨by rw [B.spl]; simp, fun v hv => ?_, r1, r2, r3⟩
   have hvr : v ∈ rs := by rw [B.spl]; simp [hv]
   have hvy : v ≠ y := fun e => by
    have := (List.nodup_append.mp ndr).2.1
    exact (List.nodup_cons.mp this).1 (e ▸ hv)
   have : (doneP sc st y).1 v = (if v = y then -2 else st.1 v) := r4 v fun h => h.2.2 hvr
   rw [this, if_neg hvy]
   exact B.one v (.tail _ hv)
  obtain ⟨h1, h2⟩ := K.batch hV hcl c (b ++ [y]) _ B'
  refine ⟨by rw [List.append_assoc] at h1; exact h1, fun i v hi => ?_⟩
  cases i with
  | zero => simp at hi; subst hi; exact B.one y (.head _)
  | succ i => exact h2 i v (by simpa using hi)
theorem KInv.next {V : List Str} {sc : Str → List Str} {np : Str → Int} {rs told : List Str} (K : KInv V sc np rs told) (hV : V.Nodup) (hcl : ∀ u ∈ V, ∀ z ∈ sc u, z ∈ V) :
  KInv V sc (rs.foldl (doneP sc) (markP np rs, [])).1 (rs.foldl (doneP sc) (markP np rs, [])).2 (told ++ rs) := by
 have B := (K.batch hV hcl rs [] _ K.start).1
 rw [List.nil_append] at B
 refine ⟨?_, ?_, fun v hv hn => ?_, fun v => ?_, fun pre v post e u hu h => ?_⟩
 ·rw [List.nodup_append]
  refine ⟨K.nd, B.nd, fun a ha b hb q => ?_⟩
  subst q
  have := ((B.rdy a).mp hb).1
  exact (List.mem_append.mp ha).elim this.2.1 this.2.2
 ·intro v hv
  rcases List.mem_append.mp hv with hv | hv
  ·exact K.sub v hv
  ·exact ((B.rdy v).mp hv).1.1
 ·exact B.cnt v ⟨hv, fun h => hn (List.mem_append_left _ h), fun h => hn (List.mem_append_right _ h)⟩
 ·rw [B.rdy]
  simp only [List.mem_append, not_or, and_assoc]
 ·have hv : v ∈ told ++ rs := by rw [e]; simp
  have hd : v ∈ told → ∃ post', told = pre ++ v :: post' := fun hvt => by
   obtain ⟨p1, p2, e1⟩ := List.append_of_mem hvt
   have nd : (pre ++ v :: post).Nodup := e ▸ K.nd
   have e3 : pre ++ v :: post = p1 ++ v :: (p2 ++ rs) := by rw [← e, e1]; simp
   have : pre = p1 := by
    have key : ∀ (a b c d : List Str), a ++ v :: b = c ++ v :: d → (a ++ v :: b).Nodup → a = c := by
     intro a
     induction a with
     | nil =>
      intro b c d h nd
      cases c with
      | nil => rfl
      | cons x c =>
       simp only [List.nil_append, List.cons_append, List.cons.injEq] at h
       obtain ⟨rfl, h⟩ := h
       exact absurd (by rw [h]; simp) (List.nodup_cons.mp nd).1
     | cons x a ih =>
      intro b c d h nd
      cases c with
      | nil =>
       simp only [List.nil_append, List.cons_append, List.cons.injEq] at h
       obtain ⟨rfl, h⟩ := h
       exact absurd (by simp) (List.nodup_cons.mp nd).1
      | cons z c =>
       simp only [List.cons_append, List.cons.injEq] at h
       rw [h.1, ih b c d h.2 (List.nodup_cons.mp nd).2]
    exact key _ _ _ _ e3 nd
   exact ⟨p2, by rw [this]; exact e1⟩
  rcases List.mem_append.mp hv with hv | hv
  ·obtain ⟨post', e'⟩ := hd hv
   exact K.ord pre v post' e' u hu h
  ·
   obtain ⟨h1, h2, h3⟩ := (K.rdy v).mp hv
   rw [K.cnt v h1 h2] at h3
   have hut : u ∈ told := Classical.byContradiction fun hn => Dn_zero.mp h3 u hu hn h
   have key : ∀ (t r pre post : List Str), t ++ r = pre ++ v :: post → v ∉ t → ∀ x ∈ t, x ∈ pre := by
    intro t
    induction t with
    | nil => intro _ _ _ _ _ x hx; cases hx
    | cons a t ih =>
     intro r pre post h hn x hx
     cases pre with
     | nil =>
      simp only [List.nil_append, List.cons_append, List.cons.injEq] at h
      exact absurd (by rw [h.1]; exact .head _) hn
     | cons z pre =>
      simp only [List.cons_append, List.cons.injEq] at h
      rcases List.mem_cons.mp hx with rfl | hx
      ·rw [h.1]; exact .head _
      ·exact .tail _ (ih r pre post h.2 (fun q => hn (.tail _ q)) x hx)
   exact key told rs pre post e h2 u hut
theorem KInv.all {V : List Str} {sc : Str → List Str} {np : Str → Int} {told : List Str} (K : KInv V sc np [] told) {fin : List Str} (T : Topo sc fin) (hf : ∀ y ∈ V, y ∈ fin) (hfn : fin.Nodup) : ∀ v ∈ V, v ∈ told := by
 have key : ∀ {fin : List Str}, Topo sc fin → ∀ pre, (pre ++ fin).Nodup → (∀ y ∈ V, y ∈ pre ++ fin) → (∀ v ∈ V, v ∈ pre → v ∈ told) → ∀ v ∈ V, v ∈ told := by
  intro fin T
  induction T with
  | nil => intro pre _ h1 h2 v hv; exact h2 v hv (by simpa using h1 v hv)
  | cons hs T ih =>
   rename_i f l
   intro pre nd h1 h2
   refine ih (pre ++ [f]) (by simpa using nd) (by simpa using h1) fun v hv hvp => ?_
   rcases List.mem_append.mp hvp with h | h
   ·exact h2 v hv h
   ·simp at h; subst h
    refine Classical.byContradiction fun hn => ?_
    have h0 : np v ≠ 0 := fun h0 => by
     have := (K.rdy v).mpr ⟨hv, hn, h0⟩
     cases this
    rw [K.cnt v hv hn] at h0
    apply h0
    refine Dn_zero.mpr fun u hu hun hvu => ?_
    rcases List.mem_append.mp (h1 u hu) with h | h
    ·exact hun (h2 u hu h)
    ·rcases List.mem_cons.mp h with rfl | h
     ·have := hs u hvu
      have n := (List.nodup_append.mp nd).2.1
      exact (List.nodup_cons.mp n).1 this
     ·have := T.closed h hvu
      have n := (List.nodup_append.mp nd).2.1
      exact (List.nodup_cons.mp n).1 this
 exact key T [] (by simpa using hfn) (by simpa using hf) (by simp)
theorem KInv.init {G : AG} (g : GoodG G) (np : Str → Int) (hnp : ∀ p ∈ G, np p.1 = p.2.1) (rs : List Str) (hrs : rs = (G.filter fun p => p.2.1 == 0).map (·.1)) : KInv (namesG G) (scG G) np rs [] := by
 have B := g ""
 have hD : ∀ v, Dn (namesG G) (scG G) [] v = inCnt G v := fun v => by
  unfold Dn inCnt namesG
  rw [List.filter_eq_self.mpr (by simp), List.map_map]
  congr 1
  refine List.map_congr_left fun p hp => ?_
  show (((scG G p.1).count v : Nat) : Int) = _
  rw [scG_mem B.nd hp]
 have hbal : ∀ p ∈ G, p.2.1 = inCnt G p.1 := fun p hp => by have := B.bal p hp; simpa using this
 refine ⟨?_, ?_, ?_, ?_, ?_⟩
 ·rw [List.nil_append, hrs]
  exact B.nd.sublist (List.filter_sublist.map _)
 ·intro v hv
  rw [List.nil_append, hrs] at hv
  obtain ⟨p, hp, rfl⟩ := List.mem_map.mp hv
  exact List.mem_map_of_mem (List.mem_filter.mp hp).1
 ·intro v hv _
  obtain ⟨p, hp, rfl⟩ := List.mem_map.mp hv
  rw [hD, hnp p hp, hbal p hp]
 ·intro v
  rw [hrs, List.mem_map]
  constructor
  ·rintro ⟨p, hp, rfl⟩
   obtain ⟨h1, h2⟩ := List.mem_filter.mp hp
   exact ⟨List.mem_map_of_mem h1, by simp, by rw [hnp p h1]; simpa using h2⟩
  ·rintro ⟨h1, _, h3⟩
   obtain ⟨p, hp, rfl⟩ := List.mem_map.mp h1
   rw [hnp p hp] at h3
   exact ⟨p, List.mem_filter.mpr ⟨hp, by simpa using h3⟩, rfl⟩
 ·intro pre v post e
  simp at e
section
variable {prog : Program} {w : World} {A : Around} {env : Env} {g base : Heap} {outer : List Env} {nm : List Str} {G : SV}
 {E : VP} {s0 s : Shared} {L : Addr} {m : SM} {news news' rest : LD}
theorem q_starts {o e : Expr} {apos pos : Pos} {Q : VP}
  (h : WP (model prog w) A (eval o env) (fun ov s_1 => ∃ x t, ov = .str x t ∧ WP (model prog w) A (eval e env) (fun v s_2 => ∃ y u, v = .str y u ∧ Q (.bool (Txt.startswith x y)) s_2) E s_1) E s)
  (hbase : attributeBase o "startswith" env (eval o env) = eval o env := by exact rfl) (hs : starEach [e] env = [(false, eval e env)] := by exact rfl) (hline : (apos.endLine == pos.line) = true := by exact rfl) :
  WP (model prog w) A (eval (.Call (.Attribute o "startswith" apos) [e] [] pos) env) Q E s :=
 ⟨Call_method1 hbase hs hline (wpAny_mono h.run (fun ov s_1 ⟨x, t, e, k⟩ => e ▸ SB.startswith k.run) fun _ _ e => e)⟩
theorem q_ends {o e : Expr} {apos pos : Pos} {Q : VP}
  (h : WP (model prog w) A (eval o env) (fun ov s_1 => ∃ x t, ov = .str x t ∧ WP (model prog w) A (eval e env) (fun v s_2 => ∃ y u, v = .str y u ∧ Q (.bool (Txt.endswith x y)) s_2) E s_1) E s)
  (hbase : attributeBase o "endswith" env (eval o env) = eval o env := by exact rfl) (hs : starEach [e] env = [(false, eval e env)] := by exact rfl) (hline : (apos.endLine == pos.line) = true := by exact rfl) :
  WP (model prog w) A (eval (.Call (.Attribute o "endswith" apos) [e] [] pos) env) Q E s :=
 ⟨Call_method1 hbase hs hline (wpAny_mono h.run (fun ov s_1 ⟨x, t, e, k⟩ => e ▸ SB.endswith k.run) fun _ _ e => e)⟩
theorem q_sadd (S : Stt s0 g env.locals m news s) {x y : Str} {t u : Tok} {Q : VP} (hsz : x.length + y.length ≤ 1000) (h : ∀ t s', Stt s0 g env.locals m news s' → Q (.str (x ++ y) t) s') : WP (model prog w) A (binaryOp .Add (.str x t) (.str y u)) Q E s :=
 ⟨PyProof.Rows.add_str (fun t' tk => h t' _ (S.tok tk)) (Nat.le_trans hsz (by decide))⟩
theorem q_siadd (S : Stt s0 g env.locals m news s) {x y : Str} {t u : Tok} {Q : VP} (hsz : x.length + y.length ≤ 1000) (h : ∀ t s', Stt s0 g env.locals m news s' → Q (.str (x ++ y) t) s') : WP (model prog w) A (inplaceOp .Add (.str x t) (.str y u)) Q E s :=
 ⟨PyProof.Rows.iadd_str (fun t' tk => h t' _ (S.tok tk)) (Nat.le_trans hsz (by decide))⟩
theorem q_truthS (S : Stt s0 g L m news s) {x : Str} {t : Tok} {Q : Bool → Shared → Prop} (hx : x.length ≤ 1000) (h : ∀ s', Stt s0 g L m news s' → Q (x.length != 0) s') : WP (model prog w) A (truthy (.str x t)) Q E s :=
 ⟨P.truthy_str (by lia) (by
  have := h _ (S.tok (s.toks + 1 + 1))
  have e : ((x.length : Int) != 0) = (x.length != 0) := by
   rw [Bool.eq_iff_iff]; simp
  rw [e]; exact this)⟩
theorem q_try {body : List Stmt} {h₀ : ExceptHandler} {hs : List ExceptHandler} {pos : Pos} {Q : FP}
  (h : WP (model prog w) A (execs body env) (fun f s_1 => match f with | .next => Q .next s_1 | f => Q f s_1) NE s) : WP (model prog w) A (exec (.Try body (h₀ :: hs) [] [] pos) env) Q E s :=
 ⟨wpAny_Try_except (wpAny_mono h.run (fun f s_1 h_1 => by cases f <;> first | exact wpAny_execs_nil h_1 | exact h_1) fun _ _ e => e.elim)⟩
end
noncomputable def slash : Str := Str.ofString "/"
noncomputable def pjoin (a b : Str) : Str := if Txt.startswith b slash || !(a.length != 0) then b else if Txt.endswith a slash then a ++ b else a ++ (slash ++ b)
theorem fspath_spec {w : World} {A : Around} {env : Env} {g base : Heap} {outer : List Env} {nm : List Str} {G : SV} {s0 s : Shared} {m : SM} {news : LD}
  {E : VP} {x : Str} {t : Tok} {Q : VP} :
  (hK w.params).In g → ∀ (C : Fm w A env g base outer nm G) (S : Stt s0 g env.locals m news s) (hd : A.depth + 10 < recursionLimit)
  (k : ∀ s', Stt s0 g env.locals m news s' → Q (.str x t) s'), WP (model PySem.Challenge.rw_rt0104_01.row.prog w) A (call (.ref 256) [.str x t]) Q E s := by
 k_fill
 intro X C S hd k
 refine q_def C (sub := []) S ["path", "kind", "hook", "given"] [.str x t] [some (.str x t), none, none, none] [("type", .type "type"), ("issubclass", .builtin "issubclass"), ("str", .type "str"), ("bytes", .type "bytes")] (by k_is) (by k_is) (by lia) (BindsTo.of_eq rfl) (Nat.le_of_ble_eq_true rfl) rfl (by decide +kernel) (by decide +kernel) rfl rfl rfl ?_
 intro g' env' s_1 hx hx' C' S_1
 refine q_cons <| q_assign <| q_call <| q_glob C' S_1 (by walk_at "mem") <| q_cwT <| q_ic <| q_name C' S_1 (by walk_at "lk") <| q_i0 <| q_typeStr <| q_store C' S_1 (by walk_at "up") fun s_2 S_2 => ?_
 refine q_cons <| q_if <| q_tval <| q_call <| q_glob C' S_2 (by walk_at "mem") <| q_cwB <| q_ic <| q_name C' S_2 (by walk_at "lk") <| q_ic <| q_tuple <| q_ic <| q_glob C' S_2 (by walk_at "mem") <| q_ic <| q_glob C' S_2 (by walk_at "mem") <| q_i0
  ⟨_, _, _, _, S_2, Nat.le_of_ble_eq_true rfl, fun tp s3 S_3 => q_i0 <| q_issub (S_3.get (.head _)) <| q_tbool <| ?_⟩
 refine if_p rfl ?_
 exact q_cons <| q_ret <| q_name C' S_3 (by walk_at "lk") ⟨_, [], S_3.sub (List.nil_sublist _), fun S4 => k _ S4⟩
theorem sep_spec {w : World} {A : Around} {env : Env} {g base : Heap} {outer : List Env} {nm : List Str} {G : SV} {s0 s : Shared} {m : SM} {news : LD}
  {E : VP} {x : Str} {t : Tok} {Q : VP} :
  (hK w.params).In g → ∀ (C : Fm w A env g base outer nm G) (S : Stt s0 g env.locals m news s) (hd : A.depth + 10 < recursionLimit)
  (k : ∀ t s', Stt s0 g env.locals m news s' → Q (.str slash t) s'), WP (model PySem.Challenge.rw_rt0104_01.row.prog w) A (call (.ref 270) [.str x t]) Q E s := by
 k_fill
 intro X C S hd k
 refine q_def C (sub := []) S ["path"] [.str x t] [some (.str x t)] [("isinstance", .builtin "isinstance"), ("bytes", .type "bytes")] (by k_is) (by k_is) (by lia) (BindsTo.of_eq rfl) (Nat.le_of_ble_eq_true rfl) rfl (by decide +kernel) (by decide +kernel) rfl rfl rfl ?_
 intro g' env' s_1 hx hx' C' S_1
 refine q_cons <| q_if <| q_tval <| q_call <| q_glob C' S_1 (by walk_at "mem") <| q_cwB <| q_ic <| q_name C' S_1 (by walk_at "lk") <| q_ic <| q_glob C' S_1 (by walk_at "mem") <| q_i0 <| q_isBytes <| q_tbool ?_
 refine if_n Bool.false_ne_true ?_
 exact q_cons <| q_ret <| q_str (S_1.tok _) fun t s_2 S_2 => ⟨_, [], S_2, fun S_3 => k _ _ S_3⟩
theorem join_spec {w : World} {A : Around} {env : Env} {g base : Heap} {outer : List Env} {nm : List Str} {G : SV} {s0 s : Shared} {m : SM} {news : LD}
  {E : VP} {x y : Str} {t u : Tok} {Q : VP} :
  (hK w.params).In g → ∀ (C : Fm w A env g base outer nm G) (S : Stt s0 g env.locals m news s) (hd : A.depth + 20 < recursionLimit) (hx : x.length ≤ 300) (hy : y.length ≤ 300)
  (k : ∀ t s', Stt s0 g env.locals m news s' → Q (.str (pjoin x y) t) s'), WP (model PySem.Challenge.rw_rt0104_01.row.prog w) A (call (.ref 277) [.str x t, .str y u]) Q E s := by
 k_fill
 intro X C S hd hxl hyl k
 refine q_ofK <| q_defGK C (sub := [(s.heap.objs.size, tupObj [.str y u])]) (z := { s with heap := s.heap.push (tupObj [.str y u]) }) (S.push _ s.toks) S.fr.keep ["a", "p", "sep", "path", "b"] [.str x t, .ref s.heap.objs.size] [some (.str x t), some (.ref s.heap.objs.size), none, none, none] [("fspath", .ref 256), ("_get_sep", .ref 270)]
  [("a", .str x t), ("p", .ref s.heap.objs.size)] [] (fun _ => []) (by k_is) (by k_is) (by lia) (fun M A E Q hq => ?_) (Nat.le_of_ble_eq_true rfl) rfl rfl rfl (by decide +kernel) (fun z => rfl) (by decide) rfl (fun z x hx => .inl (by
   rcases List.mem_cons.mp hx with rfl | hx
   ·exact rfl
   ·rw [List.mem_singleton.mp hx]; exact rfl)) rfl rfl rfl ?_
 ·exact (show wpAny M A (alloc (tupObj [.str y u]) >>= fun D => pure [(("a" : Str), Value.str x t), (("p" : Str), Value.ref D)]) Q E s from wpAny_bind (wpAny_alloc (wpAny_pure hq)))
 intro g' n env' s_1 cells hx hx' C' _ _ Y S_1
 obtain rfl : cells = [] := by cases Y; rfl
 generalize s.heap.objs.size = pt at *
 generalize ({ s with heap := s.heap.push (tupObj [.str y u]) } : Shared) = z at *
 replace S_1 : Stt z g' env'.locals (lcs ["a", "p", "sep", "path", "b"] [some (.str x t), some (.ref pt), none, none, none]) [(pt, tupObj [.str y u])] s_1 := S_1
 have hD : (A.deeper env').depth = A.depth + 1 := rfl
 have hsl : slash.length = 1 := rfl
 have hsl2 : (slash ++ y).length = 1 + y.length := by
  show (Str.append slash y).length = _
  unfold Str.append Str.length
  simp only [Array.size_append]
  rfl
 refine q_cons <| q_assign <| q_call <| q_glob C' S_1 (by walk_at "mem") <| q_cwK C' S_1 (by k_is) <| q_ic <| q_name C' S_1 (by walk_at "lk") <| q_i0 ⟨⟨_, _, _, S_1⟩, fspath_spec C'.X C' S_1 (by with_reducible exact n35 (by assumption) (by assumption) (by decide)) fun s_2 S_2 => q_store C' S_2 (by walk_at "up") fun s3 S_3 => ?_⟩
 refine q_cons <| q_assign <| q_call <| q_glob C' S_3 (by walk_at "mem") <| q_cwK C' S_3 (by k_is) <| q_ic <| q_name C' S_3 (by walk_at "lk") <| q_i0 ⟨⟨_, _, _, S_3⟩, sep_spec C'.X C' S_3 (by with_reducible exact n35 (by assumption) (by assumption) (by decide)) fun ts s4 S4 => q_store C' S4 (by walk_at "up") fun s5 S5 => ?_⟩
 refine q_cons <| q_assign <| q_name C' S5 (by walk_at "lk") <| q_store C' S5 (by walk_at "up") fun s6 S6 => ?_
 refine q_cons <| q_try <| q_cons <| q_forT C' (by walk_at "mem") <| q_name C' S6 (by walk_at "lk") ⟨_, pt, tupObj [.str y u], [.str y u], fun i m r => Ex2 fun tp u2 => And (r = [(pt, tupObj [.str y u])]) (m = lcs ["a", "p", "sep", "path", "b"] [some (.str x t), some (.ref pt), some (.str slash ts), some (.str (if i = 0 then x else pjoin x y) tp), u2]),
  _, _, rfl, rfl, ⟨_, rfl⟩, S6, .inr ?_, ⟨t, none, rfl, rfl⟩, ?_, ?_⟩
 ·rintro i m r ⟨tp, u2, rfl, _⟩; simp
 ·rintro i v m1 r_1 I it s7 hv ⟨tp, u2, rfl, rfl⟩ S7
  have hi : i = 0 := by
   have := (List.getElem?_eq_some_iff.mp hv).1
   simp at this; exact this
  subst hi
  simp only [List.getElem?_cons_zero, Option.some.injEq] at hv
  subst hv
  simp only [if_true] at S7
  rw [(show Up "b" (some (.str y u)) ["a", "p", "sep", "path", "b"] _ [some (.str x t), some (.ref pt), some (.str slash ts), some (.str x tp), some (.str y u)] by walk_at "up").eq C'.nd] at S7
  refine q_cons <| q_assign <| q_call <| q_glob C' S7 (by walk_at "mem") <| q_cwK C' S7 (by k_is) <| q_ic <| q_name C' S7 (by walk_at "lk") <| q_i0 ⟨⟨_, _, _, S7⟩, fspath_spec C'.X C' S7 (by with_reducible exact n35 (by assumption) (by assumption) (by decide)) fun s8 S8 => q_store C' S8 (by walk_at "up") fun s9 S9 => ?_⟩
  refine q_cons <| q_cut (fun f s' => f = .next ∧ ∃ tq, Stt z g' env'.locals (lcs ["a", "p", "sep", "path", "b"] [some (.str x t), some (.ref pt), some (.str slash ts), some (.str (pjoin x y) tq), some (.str y u)]) [(I, it), (pt, tupObj [.str y u])] s') ?_ ?_
  ·refine q_if <| q_tboolop <| q_or <| q_tval <| q_starts <| q_name C' S9 (by walk_at "lk") ⟨_, _, rfl, q_name C' S9 (by walk_at "lk") ⟨_, _, rfl, q_tbool ?_⟩⟩
   by_cases h1 : Txt.startswith y slash = true
   ·rw [if_pos h1, if_pos rfl]
    refine q_cons <| q_assign <| q_name C' S9 (by walk_at "lk") <| q_store C' S9 (by walk_at "up") fun s10 S10 => q_nil ⟨rfl, u, ?_⟩
    rw [show pjoin x y = y by unfold pjoin; rw [h1]; rfl]; exact S10
   ·refine if_n h1 ?_
    refine q_or <| q_tnot <| q_tval <| q_name C' S9 (by walk_at "lk") <| q_truthS S9 (by with_reducible exact Nat.le_trans (by assumption) (by decide)) fun s10 S10 => ?_
    by_cases h2 : (x.length != 0) = true
    ·rw [h2, if_neg (by decide)]
     refine q_or0 ?_
     refine if_n Bool.false_ne_true ?_
     refine q_cons <| q_if <| q_tval <| q_ends <| q_name C' S10 (by walk_at "lk") ⟨_, _, rfl, q_name C' S10 (by walk_at "lk") ⟨_, _, rfl, q_tbool ?_⟩⟩
     by_cases h3 : Txt.endswith x slash = true
     ·refine if_p h3 ?_
      refine q_cons <| q_aug <| q_load C' S10 (by walk_at "lk") <| q_name C' S10 (by walk_at "lk") <| q_siadd S10 (by lia) fun tq s11 S11 => q_store C' S11 (by walk_at "up") fun s12 S12 => q_nil (q_nil ⟨rfl, tq, ?_⟩)
      rw [show pjoin x y = x ++ y by unfold pjoin; rw [h2, h3]; simp [h1]]; exact S12
     ·refine if_n h3 ?_
      refine q_cons <| q_aug <| q_load C' S10 (by walk_at "lk") <| q_binop <| q_name C' S10 (by walk_at "lk") <| q_name C' S10 (by walk_at "lk") <| q_sadd S10 (by rw [hsl]; lia) fun tq s11 S11 => q_siadd S11 (by rw [hsl2]; lia) fun tq s12 S12 => q_store C' S12 (by walk_at "up") fun s13 S13 => q_nil (q_nil ⟨rfl, tq, ?_⟩)
      rw [show pjoin x y = x ++ (slash ++ y) by unfold pjoin; rw [h2]; simp [h1, h3]]; exact S13
    ·have h2' : (x.length != 0) = false := by simpa using h2
     rw [h2', if_pos (show (!false) = true from rfl), if_pos rfl]
     refine q_cons <| q_assign <| q_name C' S10 (by walk_at "lk") <| q_store C' S10 (by walk_at "up") fun s11 S11 => q_nil ⟨rfl, u, ?_⟩
     rw [show pjoin x y = y by unfold pjoin; rw [h2']; simp]; exact S11
  ·rintro _ s10 ⟨rfl, tq, S10⟩
   exact q_nil ⟨_, _, S10, tq, _, rfl, rfl⟩
 ·rintro m1 r_1 s7 ⟨tp, u2, rfl, rfl⟩ S7
  refine q_nil ?_
  show WP _ _ (execs _ _) _ _ _
  refine q_cons <| q_ret <| q_name C' S7 (v := .str (pjoin x y) tp) (.tail (.tail (.tail .head))) ⟨_, [], S7.sub (List.nil_sublist _), fun S8 => k _ _ S8⟩
noncomputable def namesL : List Str := ["a", "ab", "abc", "b", "ba", "c"]
noncomputable def fixedL : List Int := [0, 1, 2, 1, 4, 2]
noncomputable def preL : List Str := ["", "./", ".//"]
noncomputable def sAt (l : List Str) (k : Nat) : Str := l.getD k ""
noncomputable def drw (ns : List Int) (k : Nat) : Int := fixedL.getD k 0 + (if ns.isEmpty then 0 else ns.getD (k % ns.length) 0)
noncomputable def upT (ns : List Int) (k : Nat) : Nat := (drw ns k % ((k : Int) + 1)).toNat
noncomputable def preT (ns : List Int) (k : Nat) : Nat := (drw ns k / 6 % 3).toNat
noncomputable def linesN (ns : List Int) : Nat → List (List Int)
 | 0 => [[]]
 | i + 1 => linesN ns i ++ [wAt (linesN ns i) (upT ns i : Nat) ++ [((i + 1 : Nat) : Int)]]
noncomputable def plainN (ns : List Int) : Nat → List Str
 | 0 => [""]
 | i + 1 => plainN ns i ++ [sAt (plainN ns i) (upT ns i) ++ slash ++ sAt namesL i]
noncomputable def crookN (ns : List Int) : Nat → List Str
 | 0 => [slash]
 | i + 1 => crookN ns i ++ [pjoin (sAt (crookN ns i) (upT ns i)) (sAt preL (preT ns i) ++ sAt namesL i)]
noncomputable def cntT (ns : List Int) : Nat := 3 + (ns.sum % 4).toNat
theorem upT_le (ns : List Int) (k : Nat) : upT ns k ≤ k ∧ ((upT ns k : Nat) : Int) = drw ns k % ((k : Int) + 1) := by
 unfold upT
 have h1 := Int.emod_nonneg (drw ns k) (show (k : Int) + 1 ≠ 0 by lia)
 have h2 := Int.emod_lt_of_pos (drw ns k) (show (0 : Int) < (k : Int) + 1 by lia)
 lia
theorem preT_lt (ns : List Int) (k : Nat) : preT ns k < 3 ∧ ((preT ns k : Nat) : Int) = drw ns k / 6 % 3 := by
 unfold preT; lia
theorem linesN_length (ns : List Int) : ∀ i, (linesN ns i).length = i + 1
 | 0 => rfl
 | i + 1 => by rw [linesN, List.length_append, linesN_length]; rfl
theorem plainN_length (ns : List Int) : ∀ i, (plainN ns i).length = i + 1
 | 0 => rfl
 | i + 1 => by rw [plainN, List.length_append, plainN_length]; rfl
theorem crookN_length (ns : List Int) : ∀ i, (crookN ns i).length = i + 1
 | 0 => rfl
 | i + 1 => by rw [crookN, List.length_append, crookN_length]; rfl
theorem slen (x y : Str) : (x ++ y).length = x.length + y.length := by
 show (Str.append x y).length = _
 unfold Str.append Str.length
 simp only [Array.size_append]
theorem sAt_mem {l : List Str} {k : Nat} (h : k < l.length) : sAt l k ∈ l := by
 rw [sAt, List.getD_eq_getElem?_getD, List.getElem?_eq_getElem h]; exact List.getElem_mem h
theorem names_len (k : Nat) : (sAt namesL k).length ≤ 3 := by
 match k with
 | 0 | 1 | 2 | 3 | 4 | 5 => decide
 | k + 6 => show (0 : Nat) ≤ 3; decide
theorem pre_len (k : Nat) : (sAt preL k).length ≤ 3 := by
 match k with
 | 0 | 1 | 2 => decide
 | k + 3 => show (0 : Nat) ≤ 3; decide
theorem pjoin_len (x y : Str) : (pjoin x y).length ≤ x.length + 1 + y.length := by
 unfold pjoin
 have hs : slash.length = 1 := rfl
 split
 ·lia
 ·split
  ·rw [slen]; lia
  ·rw [slen, slen]; lia
theorem wAt_mem {l : List (List Int)} {k : Nat} (h : k < l.length) : wAt l (k : Nat) ∈ l := by
 rw [wAt, Int.toNat_natCast, List.getD_eq_getElem?_getD, List.getElem?_eq_getElem h]; exact List.getElem_mem h
theorem linesN_len (ns : List Int) : ∀ i, ∀ x ∈ linesN ns i, x.length ≤ i
 | 0, x, h => by rw [List.mem_singleton.mp h]; decide
 | i + 1, x, h => by
  rcases List.mem_append.mp h with h | h
  ·have := linesN_len ns i x h; with_reducible exact Nat.le_succ_of_le (by assumption)
  ·rw [List.mem_singleton.mp h, List.length_append]
   have := linesN_len ns i _ (wAt_mem (by rw [linesN_length]; have := (upT_le ns i).1; lia) : wAt (linesN ns i) (upT ns i : Nat) ∈ _)
   simp; with_reducible assumption
theorem plainN_len (ns : List Int) : ∀ i, ∀ x ∈ plainN ns i, x.length ≤ 4 * i
 | 0, x, h => by rw [List.mem_singleton.mp h]; decide
 | i + 1, x, h => by
  rcases List.mem_append.mp h with h | h
  ·have := plainN_len ns i x h; lia
  ·rw [List.mem_singleton.mp h, slen, slen]
   have := plainN_len ns i _ (sAt_mem (by rw [plainN_length]; have := (upT_le ns i).1; lia) : sAt (plainN ns i) (upT ns i) ∈ _)
   have := names_len i
   have hs : slash.length = 1 := rfl
   lia
theorem crookN_len (ns : List Int) : ∀ i, ∀ x ∈ crookN ns i, x.length ≤ 7 * i + 1
 | 0, x, h => by rw [List.mem_singleton.mp h]; decide
 | i + 1, x, h => by
  rcases List.mem_append.mp h with h | h
  ·have := crookN_len ns i x h; lia
  ·rw [List.mem_singleton.mp h]
   have := crookN_len ns i _ (sAt_mem (by rw [crookN_length]; have := (upT_le ns i).1; lia) : sAt (crookN ns i) (upT ns i) ∈ _)
   have := names_len i
   have := pre_len (preT ns i)
   have := pjoin_len (sAt (crookN ns i) (upT ns i)) (sAt preL (preT ns i) ++ sAt namesL i)
   rw [slen] at this
   lia
section
variable {prog : Program} {w : World} {A : Around} {env : Env} {g base : Heap} {outer : List Env} {nm : List Str} {G : SV}
 {E : VP} {s0 s : Shared} {L : Addr} {m : SM} {news news' rest : LD}
theorem q_sum (C : Fm w A env g base outer nm G) (S : Stt s0 g env.locals m news s) {l : Addr} {vs : List Value} {ns : List Int} {Q : VP} (hl : s.heap.IsList l vs.toArray) (hi : IntsAre vs ns)
  (h : ∀ t s', Stt s0 g env.locals m news s' → Q (.int ns.sum t) s') : WP (model prog w) A (call (.builtin "sum") [.ref l]) Q E s :=
 ⟨sumK C.hh S.fr S.led hl hi fun h' tk t' F N => h _ _ ⟨same_of S.same, F, N, S.nd⟩⟩
end
theorem tree_spec {w : World} {A : Around} {env : Env} {g base : Heap} {outer : List Env} {nm : List Str} {G : SV} {s0 s : Shared} {m : SM} {news : LD}
  {E : VP} {sa : Addr} {svs : List Value} {ns : List Int} {Q : VP} :
  (hK w.params).In g → ∀ (C : Fm w A env g base outer nm G) (S : Stt s0 g env.locals m news s) (hd : A.depth + 30 < recursionLimit)
  (hs : s.heap.IsList sa svs.toArray) (hsi : IntsAre svs ns) (hs63 : ns.length ≤ 63)
  (k : ∀ r av lv pv cv nw s', Stt s0 g env.locals m (nw ++ news) s' → (r, tupObj [av, lv, pv, cv]) ∈ nw → LsI (ld nw) av ((List.range (cntT ns)).map fun i => ((upT ns i : Nat) : Int)) → LsLI (ld nw) lv (linesN ns (cntT ns)) →
   LsS (ld nw) pv (plainN ns (cntT ns)) → LsS (ld nw) cv (crookN ns (cntT ns)) → Q (.ref r) s'), WP (model PySem.Challenge.rw_rt0104_01.row.prog w) A (call (.ref 289) [.ref sa]) Q E s := by
 k_fill
 intro X C S hd hs hsi hs63 k
 refine q_def C (sub := []) S ["script", "names", "fixed", "above", "lines", "plain", "crooked", "k", "drawn", "up"] [.ref sa] [some (.ref sa), none, none, none, none, none, none, none, none, none] [("range", .type "range"), ("sum", .builtin "sum"), ("len", .builtin "len"), ("join", .ref 277)] (by k_is) (by k_is) (by lia) (BindsTo.of_eq rfl) (Nat.le_of_ble_eq_true rfl) rfl (by decide +kernel) (by decide +kernel) rfl rfl rfl ?_
 intro g' env' s_1 hx hx' C' S_1
 have hsg : g'.IsList sa svs.toArray := hs.at fun o e => hx _ _ e (by simp)
 have hslen := hsi.length
 have hD : (A.deeper env').depth = A.depth + 1 := rfl
 refine q_abs fun PR hR => ?_
 refine q_cons <| q_assign <| q_tuple <| q_strs (by walk_at "lits") S_1 fun nvs s_2 hnv S_2 => ⟨_, _, _, _, S_2, by rw [hnv.length]; exact Nat.le_of_ble_eq_true rfl, fun nt s3 S_3 => q_store C' S_3 (by walk_at "up") fun s4 S4 => ?_⟩
 replace hnv : All2 Vs nvs namesL := hnv
 refine q_cons <| q_assign <| q_tuple <| q_ints (by walk_at "lits") S4 fun fvs s_2 hfv S_2 => ⟨_, _, _, _, S_2, by rw [hfv.length]; exact Nat.le_of_ble_eq_true rfl, fun ft s3 S_3 => q_store C' S_3 (by walk_at "up") fun s5 S5 => ?_⟩
 replace hfv : All2 Vi fvs fixedL := hfv
 refine q_cons <| q_assign <| q_list <| q_i0 ⟨_, _, _, _, S5, Nat.le_of_ble_eq_true rfl, fun al s6 S6 => q_store C' S6 (by walk_at "up") fun s7 S7 => ?_⟩
 refine q_cons <| q_assign <| q_list <| q_ic <| q_list <| q_i0 ⟨_, _, _, _, S7, Nat.le_of_ble_eq_true rfl, fun a0 s8 S8 => q_i0 ⟨_, _, _, _, S8, Nat.le_of_ble_eq_true rfl, fun ll s9 S9 => q_store C' S9 (by walk_at "up") fun s10 S10 => ?_⟩⟩
 refine q_cons <| q_assign <| q_list <| q_ic <| q_str S10 fun t11 s11 S11 => q_i0 ⟨_, _, _, _, S11, Nat.le_of_ble_eq_true rfl, fun pl s12 S12 => q_store C' S12 (by walk_at "up") fun s13 S13 => ?_⟩
 refine q_cons <| q_assign <| q_list <| q_ic <| q_str S13 fun t14 s14 S14 => q_i0 ⟨_, _, _, _, S14, Nat.le_of_ble_eq_true rfl, fun cl s15 S15 => q_store C' S15 (by walk_at "up") fun s16 S16 => ?_⟩
 have hm0 := Int.emod_nonneg ns.sum (show (4 : Int) ≠ 0 by decide)
 have hm4 := Int.emod_lt_of_pos ns.sum (show (0 : Int) < 4 by decide)
 have hcT : cntT ns ≤ 6 := by unfold cntT; lia
 refine q_cons <| q_forR C' (by walk_at "mem") <| q_call <| q_glob C' S16 (by walk_at "mem") <| q_cwT <| q_ic <| q_binop <| q_int S16 fun t_1 s_1 S_1 => q_binop <| q_call <| q_glob C' S_1 (by walk_at "mem") <| q_cwB <| q_ic <| q_name C' S_1 (by walk_at "lk") <| q_i0 <|
  q_sum C' S_1 (hsg.at fun o e => S_1.base e) hsi fun t_2 s_2 S_2 => q_int S_2 fun t_3 s3 S_3 => q_mod C' S_3 (by decide) fun t_4 s4 S4 => q_add S4 fun t5 s5 S5 => q_i0 <| q_range1 S5 fun rg t u v s6 S6 => ?_
 rw [show (3 : Int) + ns.sum % 4 = (cntT ns : Int) by unfold cntT; lia] at S6
 replace S6 := (S6.sub (List.sublist_cons_self _ _)).perm (news' := (cl, W.listOf [.str "/" t14].toArray 0) :: (pl, W.listOf [.str "" t11].toArray 0) :: (ll, W.listOf [.ref a0].toArray 0) :: (al, W.listOf [].toArray 0) :: ([(a0, W.listOf [].toArray 0)] ++ [(ft, tupObj fvs), (nt, tupObj nvs)])) (.cons _ (.cons _ (.cons _ (.swap _ _ _)))) |> fun S => (⟨S, S6.get (.head _)⟩ : _ ∧ _)
 obtain ⟨S7, hrg⟩ := S6
 refine ⟨s, rg, 0, cntT ns, cntT ns, _, _, _, fun i m r => Ex12 fun cvs cn pvs pn lvs ln avs an nw u1 u2 u3 => An6 (r = (cl, W.listOf cvs.toArray cn) :: (pl, W.listOf pvs.toArray pn) :: (ll, W.listOf lvs.toArray ln) :: (al, W.listOf avs.toArray an) :: (nw ++ [(ft, tupObj fvs), (nt, tupObj nvs)])) (All2 Vs cvs (crookN ns i)) (All2 Vs pvs (plainN ns i)) (All2 (LsI (ld nw)) lvs (linesN ns i)) (All2 Vi avs ((List.range i).map fun i => ((upT ns i : Nat) : Int))) (m = lcs ["script", "names", "fixed", "above", "lines", "plain", "crooked", "k", "drawn", "up"] [some (.ref sa), some (.ref nt), some (.ref ft), some (.ref al), some (.ref ll), some (.ref pl), some (.ref cl), u1, u2, u3]), _, _, rfl, S7, hrg, ⟨by lia, by lia, by lia, by with_reducible exact Nat.lt_of_le_of_lt (by assumption) (by decide)⟩, ?_, ?_, ?_⟩
 ·exact ⟨_, _, _, _, _, _, _, _, _, _, _, _, rfl, .cons ⟨_, rfl⟩ .nil, .cons ⟨_, rfl⟩ .nil, .cons ⟨a0, [], 0, rfl, .head _, .nil⟩ .nil, .nil, rfl⟩
 ·rintro i t m1 r_1 I it s7 hi hJJ S7
  refine q_abs fun PL hL => ?_
  refine byG fun GG hGG => ?_
  obtain ⟨cvs, cn, pvs, pn, lvs, ln, avs, an, nw, u1, u2, u3, rfl, hc, hp, hl, ha, rfl⟩ := hJJ
  refine hGG ?_
  clear hGG GG
  rw [show (0 : Int) + (i : Int) = (i : Int) by lia] at S7
  rw [(show Up "k" (some (.int (i : Int) t)) ["script", "names", "fixed", "above", "lines", "plain", "crooked", "k", "drawn", "up"] _ [some (.ref sa), some (.ref nt), some (.ref ft), some (.ref al), some (.ref ll), some (.ref pl), some (.ref cl), some (.int (i : Int) t), u2, u3] by walk_at "up").eq C'.nd] at S7
  have hi6 : i < 6 := by lia
  have hcl := hc.length
  have hpl := hp.length
  have hll := hl.length
  have hal := ha.length
  rw [crookN_length] at hcl
  rw [plainN_length] at hpl
  rw [linesN_length] at hll
  simp only [List.length_map, List.length_range] at hal
  obtain ⟨hu1, hu2⟩ := upT_le ns i
  obtain ⟨hp1, hp2⟩ := preT_lt ns i
  have ftm : ∀ {p1 p2 p3 p4 p5 : Addr × Obj}, (ft, tupObj fvs) ∈ p1 :: p2 :: p3 :: p4 :: p5 :: (nw ++ [(ft, tupObj fvs), (nt, tupObj nvs)]) := .tail _ (.tail _ (.tail _ (.tail _ (.tail _ (List.mem_append_right _ (.head _))))))
  have ntm : ∀ {p1 p2 p3 p4 p5 : Addr × Obj}, (nt, tupObj nvs) ∈ p1 :: p2 :: p3 :: p4 :: p5 :: (nw ++ [(ft, tupObj fvs), (nt, tupObj nvs)]) := .tail _ (.tail _ (.tail _ (.tail _ (.tail _ (List.mem_append_right _ (.tail _ (.head _)))))))
  have hflen := hfv.length
  have hnlen := hnv.length
  obtain ⟨_, hfx, tf, rfl⟩ := hfv.get (i := i) (b := fixedL.getD i 0) (by
   rw [List.getD_eq_getElem?_getD, List.getElem?_eq_getElem (by show _ < 6; with_reducible assumption)]; rfl)
  obtain ⟨_, hnx, tn, rfl⟩ := hnv.get (i := i) (b := sAt namesL i) (by
   rw [sAt, List.getD_eq_getElem?_getD, List.getElem?_eq_getElem (by show _ < 6; with_reducible assumption)]; rfl)
  generalize hXX : (if ns.isEmpty then 0 else ns.getD (i % ns.length) 0) = Xv
  have hdrw : fixedL.getD i 0 + Xv = drw ns i := by rw [← hXX]; rfl
  refine q_cons <| q_assign <| q_binop <| q_sub <| q_name C' S7 (by walk_at "lk") <| q_name C' S7 (by walk_at "lk") <| q_tupItem (S7.get ftm) (by exact Int.natCast_nonneg _) (by rw [hflen]; show (i : Int) < 6; lia) (by rw [hflen]; decide) (by rw [Int.toNat_natCast]; exact hfx) <|
   q_cut (fun v s' => ∃ tx, And (v = .int Xv tx) (Stt s g' env'.locals (lcs ["script", "names", "fixed", "above", "lines", "plain", "crooked", "k", "drawn", "up"] [some (.ref sa), some (.ref nt), some (.ref ft), some (.ref al), some (.ref ll), some (.ref pl), some (.ref cl), some (.int (i : Int) t), u2, u3]) ((I, it) :: (cl, W.listOf cvs.toArray cn) :: (pl, W.listOf pvs.toArray pn) :: (ll, W.listOf lvs.toArray ln) :: (al, W.listOf avs.toArray an) :: (nw ++ [(ft, tupObj fvs), (nt, tupObj nvs)])) s')) ?_ ?_
  ·refine q_ifexp <| q_tval <| q_name C' S7 (by walk_at "lk") <| q_truthyL S7 (hsg.at fun o e => S7.base e) (by lia) fun s18 S18 _ => ?_
   by_cases he : ns.length = 0
   ·have e1 : svs.isEmpty = true := by rw [List.isEmpty_iff_length_eq_zero]; lia
    have e2 : ns.isEmpty = true := by rw [List.isEmpty_iff_length_eq_zero]; with_reducible assumption
    rw [e2, if_pos rfl] at hXX
    rw [e1]
    refine q_int S18 fun t19 s19 S19 => ⟨t19, by rw [hXX], S19⟩
   ·have e1 : svs.isEmpty = false := by rw [Bool.eq_false_iff]; intro h; rw [List.isEmpty_iff_length_eq_zero] at h; lia
    have e2 : ns.isEmpty = false := by rw [Bool.eq_false_iff]; intro h; rw [List.isEmpty_iff_length_eq_zero] at h; lia
    rw [e2, if_neg Bool.false_ne_true] at hXX
    rw [e1]
    have hm1 : i % ns.length < ns.length := Nat.mod_lt _ (by with_reducible exact Nat.pos_of_ne_zero (by assumption))
    obtain ⟨tv, hsv⟩ := hsi.get (i % ns.length) Xv (by
     rw [← hXX, List.getD_eq_getElem?_getD, List.getElem?_eq_getElem (by with_reducible assumption)]; rfl)
    refine q_sub <| q_name C' S18 (by walk_at "lk") <| q_binop <| q_name C' S18 (by walk_at "lk") <| q_call <| q_glob C' S18 (by walk_at "mem") <| q_cwB <| q_ic <| q_name C' S18 (by walk_at "lk") <| q_i0 <|
      q_lenL S18 (hsg.at fun o e => S18.base e) (by lia) fun t_2 s_2 S_2 _ => q_mod C' S_2 (by lia) fun t_3 s3 S_3 => ?_
    have em : (i : Int) % ((svs.length : Nat) : Int) = ((i % ns.length : Nat) : Int) := by rw [hslen]; lia
    rw [em]
    exact q_itemL (hsg.at fun o e => S_3.base e) (by exact Int.natCast_nonneg _) (by lia) (v := .int Xv tv) (by rw [Int.toNat_natCast]; exact hsv) ⟨tv, rfl, S_3⟩
  rintro _ s18 ⟨tx, rfl, S18⟩
  refine q_add S18 fun t_1 s_1 S_1 => ?_
  rw [hdrw]
  refine q_store C' S_1 (by walk_at "up") fun s_2 S_2 => ?_
  refine q_cons <| q_assign <| q_binop <| q_name C' S_2 (by walk_at "lk") <| q_binop <| q_name C' S_2 (by walk_at "lk") <| q_int S_2 fun t_3 s3 S_3 => q_add S_3 fun t_4 s4 S4 => q_mod C' S4 (by lia) fun t5 s5 S5 => ?_
  rw [← hu2]
  refine q_store C' S5 (by walk_at "up") fun s6 S6 => ?_
  refine q_cons <| q_expr C' <| q_append <| q_name C' S6 (by walk_at "lk") ⟨al, _, an, rfl, S6.get (by walk_at "mem"), q_name C' S6 (by walk_at "lk") ⟨_, _, _, _, avs, an, _, S6, by lia, S6.get (by walk_at "mem"), .tail (.tail (.tail (.tail .head))), fun s7 S7 => ?_⟩⟩
  refine byG fun GG hGG => ?_
  obtain ⟨_, hlv, la, lrv, lrn, rfl, hlm, hla⟩ := hl.at (k := ((upT ns i : Nat) : Int)) (by exact Int.natCast_nonneg _) (by rw [linesN_length]; lia)
  refine hGG ?_
  clear hGG GG
  have hlal : lrv.length ≤ 6 := by
   have := linesN_len ns i _ (wAt_mem (by rw [linesN_length]; lia) : wAt (linesN ns i) (upT ns i : Nat) ∈ _)
   have := hla.length
   lia
  refine q_cons <| q_expr C' <| q_append <| q_name C' S7 (by walk_at "lk") ⟨ll, _, ln, rfl, S7.get (by walk_at "mem"), q_binop <| q_sub <| q_name C' S7 (by walk_at "lk") <| q_name C' S7 (by walk_at "lk") <| q_item (S7.get (by walk_at "mem")) (by exact Int.natCast_nonneg _) (by lia) hlv <|
   q_list <| q_ic <| q_binop <| q_name C' S7 (by walk_at "lk") <| q_int S7 fun t8 s8 S8 => q_add S8 fun t9 s9 S9 => q_i0 ⟨_, _, _, _, S9, Nat.le_of_ble_eq_true rfl, fun x1 s10 S10 => q_ladd S10 (S10.get (.tail _ (.tail _ (.tail _ (.tail _ (.tail _ (.tail _ (List.mem_append_left _ hlm)))))))) (S10.get (.head _)) (by simp; with_reducible exact Nat.le_trans (by assumption) (by decide)) fun x2 s11 S11 =>
    ⟨_, _, _, _, lvs, ln, _, S11, by lia, S11.get (by walk_at "mem"), .tail (.tail (.tail (.tail (.tail .head)))), fun s12 S12 => ?_⟩⟩⟩
  rw [show (i : Int) + 1 = ((i + 1 : Nat) : Int) by lia] at S12
  replace S12 := (S12.sub (.cons_cons _ (.cons _ (List.Sublist.refl _)))).perm (List.perm_middle (l₁ := [_, _, _, _, _]))
  replace S12 : Stt s g' env'.locals _ ((I, it) :: (cl, W.listOf cvs.toArray cn) :: (pl, W.listOf pvs.toArray pn) :: (ll, W.listOf (lvs ++ [Value.ref x2]).toArray (ln + 1)) :: (al, W.listOf (avs ++ [Value.int (upT ns i : Nat) t5]).toArray (an + 1)) :: (((x2, W.listOf (lrv ++ [Value.int ((i + 1 : Nat) : Int) t9]).toArray 0) :: nw) ++ [(ft, tupObj fvs), (nt, tupObj nvs)])) s12 := S12
  have ntm2 : ∀ {p1 p2 p3 p4 p5 p6 : Addr × Obj}, (nt, tupObj nvs) ∈ p1 :: p2 :: p3 :: p4 :: p5 :: ((p6 :: nw) ++ [(ft, tupObj fvs), (nt, tupObj nvs)]) := .tail _ (.tail _ (.tail _ (.tail _ (.tail _ (List.mem_append_right _ (.tail _ (.head _)))))))
  have ntm3 : ∀ {p1 p2 p3 p4 p5 p6 p7 : Addr × Obj}, (nt, tupObj nvs) ∈ p7 :: p1 :: p2 :: p3 :: p4 :: p5 :: ((p6 :: nw) ++ [(ft, tupObj fvs), (nt, tupObj nvs)]) := .tail _ (.tail _ (.tail _ (.tail _ (.tail _ (.tail _ (List.mem_append_right _ (.tail _ (.head _))))))))
  obtain ⟨_, hpv, tp, rfl⟩ := hp.get (i := upT ns i) (b := sAt (plainN ns i) (upT ns i)) (by
   rw [sAt, List.getD_eq_getElem?_getD, List.getElem?_eq_getElem (by rw [plainN_length]; lia)]; rfl)
  obtain ⟨_, hcv, tc, rfl⟩ := hc.get (i := upT ns i) (b := sAt (crookN ns i) (upT ns i)) (by
   rw [sAt, List.getD_eq_getElem?_getD, List.getElem?_eq_getElem (by rw [crookN_length]; lia)]; rfl)
  have lp := plainN_len ns i _ (sAt_mem (by rw [plainN_length]; lia) : sAt (plainN ns i) (upT ns i) ∈ _)
  have lc := crookN_len ns i _ (sAt_mem (by rw [crookN_length]; lia) : sAt (crookN ns i) (upT ns i) ∈ _)
  have ln3 := names_len i
  have lp3 := pre_len (preT ns i)
  have hsl : slash.length = 1 := rfl
  have hpn : (sAt (plainN ns i) (upT ns i) ++ slash).length = (sAt (plainN ns i) (upT ns i)).length + 1 := by rw [slen, hsl]
  refine q_cons <| q_expr C' <| q_append <| q_name C' S12 (by walk_at "lk") ⟨pl, _, pn, rfl, S12.get (by walk_at "mem"), q_binop <| q_binop <| q_sub <| q_name C' S12 (by walk_at "lk") <| q_name C' S12 (by walk_at "lk") <| q_item (S12.get (by walk_at "mem")) (by exact Int.natCast_nonneg _) (by lia) (by rw [Int.toNat_natCast]; exact hpv) <|
   q_str S12 fun t13 s13 S13 => q_sadd S13 (by show _ + slash.length ≤ _; lia) fun t14 s14 S14 => q_sub <| q_name C' S14 (by walk_at "lk") <| q_name C' S14 (by walk_at "lk") <| q_tupItem (S14.get ntm2) (by exact Int.natCast_nonneg _) (by rw [hnlen]; show (i : Int) < 6; lia) (by rw [hnlen]; decide) (by rw [Int.toNat_natCast]; exact hnx) <|
   q_sadd S14 (by show (_ ++ slash).length + _ ≤ _; lia) fun t15 s15 S15 => ⟨_, _, _, _, pvs, pn, _, S15, by lia, S15.get (by walk_at "mem"), .tail (.tail .head), fun s16 S16 => ?_⟩⟩
  refine q_cons <| q_expr C' <| q_append <| q_name C' S16 (by walk_at "lk") ⟨cl, _, cn, rfl, S16.get (by walk_at "mem"), q_call <| q_glob C' S16 (by walk_at "mem") <| q_cwK C' S16 (by k_is) <| q_ic <| q_sub <| q_name C' S16 (by walk_at "lk") <| q_name C' S16 (by walk_at "lk") <| q_item (S16.get (by walk_at "mem")) (by exact Int.natCast_nonneg _) (by lia) (by rw [Int.toNat_natCast]; exact hcv) <|
   q_ic <| q_binop <| q_sub <| q_tuple <| q_strs (by walk_at "lits") S16 fun qvs s17 hqv S17 => ⟨_, _, _, _, S17, by rw [hqv.length]; exact Nat.le_of_ble_eq_true rfl, fun qt s18 S18 => ?_⟩⟩
  replace hqv : All2 Vs qvs preL := hqv
  have hqlen := hqv.length
  obtain ⟨_, hqx, tq, rfl⟩ := hqv.get (i := preT ns i) (b := sAt preL (preT ns i)) (by
   rw [sAt, List.getD_eq_getElem?_getD, List.getElem?_eq_getElem (by show _ < 3; with_reducible assumption)]; rfl)
  refine q_binop <| q_binop <| q_name C' S18 (by walk_at "lk") <| q_int S18 fun t19 s19 S19 => q_fdiv C' S19 (by decide) (by decide) fun t20 s20 S20 => q_int S20 fun t21 s21 S21 => q_mod C' S21 (by decide) fun t22 s22 S22 => ?_
  rw [← hp2]
  refine q_tupItem (S22.get (.head _)) (by exact Int.natCast_nonneg _) (by rw [hqlen]; show _ < (3 : Int); lia) (by rw [hqlen]; decide) (by rw [Int.toNat_natCast]; exact hqx) <|
   q_sub <| q_name C' S22 (by walk_at "lk") <| q_name C' S22 (by walk_at "lk") <| q_tupItem (S22.get ntm3) (by exact Int.natCast_nonneg _) (by rw [hnlen]; show (i : Int) < 6; lia) (by rw [hnlen]; decide) (by rw [Int.toNat_natCast]; exact hnx) <|
   q_sadd S22 (by lia) fun t23 s23 S23 => q_i0 ⟨⟨_, _, _, S23⟩, join_spec C'.X C' S23 (by with_reducible exact n35 (by assumption) (by assumption) (by decide)) (by lia) (by rw [slen]; lia) fun t24 s24 S24 =>
    ⟨_, _, _, _, cvs, cn, _, S24, by lia, S24.get (by walk_at "mem"), .tail (.tail .head), fun s25 S25 => ?_⟩⟩
  replace S25 := S25.sub (List.sublist_cons_self _ _)
  refine q_nil <| hL _ _ ⟨_, _, S25, _, _, _, _, _, _, _, _, _, _, _, _, rfl, ?_, ?_, ?_, ?_, rfl⟩
  ·rw [crookN]; exact hc.snoc ⟨_, rfl⟩
  ·rw [plainN]; exact hp.snoc ⟨_, rfl⟩
  ·rw [linesN]
   refine (hl.mono fun a b h => h.up fun _ _ x => .tail _ x).snoc ⟨x2, _, _, rfl, .head _, hla.snoc ⟨_, rfl⟩⟩
  ·rw [List.range_succ, List.map_append]; exact ha.snoc ⟨_, rfl⟩
 ·rintro m1 r_1 s7 ⟨cvs, cn, pvs, pn, lvs, ln, avs, an, nw, u1, u2, u3, rfl, hc, hp, hl, ha, rfl⟩ S7
  refine q_cons <| q_ret <| q_tuple <| q_ic <| q_name C' S7 (by walk_at "lk") <| q_ic <| q_name C' S7 (by walk_at "lk") <| q_ic <| q_name C' S7 (by walk_at "lk") <| q_ic <| q_name C' S7 (by walk_at "lk") <| q_i0 ⟨_, _, _, _, S7, Nat.le_of_ble_eq_true rfl, fun tp s8 S8 =>
   hR _ _ ⟨_, _, S8, fun S9 => k tp _ _ _ _ _ _ S9 (.head _) ⟨al, avs, an, rfl, by simp [ld], ha⟩ ⟨ll, lvs, ln, rfl, by simp [ld], hl.mono fun a b h => h.up fun _ _ x => by simp only [ld, List.mem_cons, List.mem_append] at x ⊢; simp [x]⟩ ⟨pl, pvs, pn, rfl, by simp [ld], hp⟩ ⟨cl, cvs, cn, rfl, by simp [ld], hc⟩⟩⟩
section
open PyProof.Rows.TI
section
variable {prog : Program} {w : World} {A : Around} {env : Env} {g base : Heap} {outer : List Env} {nm : List Str} {G : SV}
 {E : VP} {s0 s : Shared} {m : SM} {news : LD}
theorem q_mcallS {M : Model} {o : Expr} {name : Str} {apos pos : Pos} {args : List Expr} {Q : VP}
  (h : WP M A (eval o env) (AttrP M A E name (CallP M A env E pos args Q)) E s)
  (he : eval (.Call (.Attribute o name apos) args [] pos) env = (do
   let ov ← eval o env
   standAt apos.atName
   let (f, first) ← holding [ov] (do pure (← getAttr ov name true, []))
   callWith pos f first (backTo pos (starEach args env)) []) := by exact rfl) : WP M A (eval (.Call (.Attribute o name apos) args [] pos) env) Q E s := by
 refine ⟨?_⟩
 rw [he]
 exact wpAny_bind (wpAny_mono h.run (fun ov s_1 h_1 => wpAny_bind (wpAny_standAt (wpAny_bind (wpAny_holding (wpAny_bind (wpAny_mono h_1.run (fun f s_2 h_2 => wpAny_pure h_2.run) fun _ _ e => e)))))) fun _ _ e => e)
theorem q_getB (C : Fm w A env g base outer nm G) (S : Stt s0 g env.locals m news s) {x Cl f : Addr} {ox : Obj} {es : List DictEntry} {n : Nat} {name : Str} {expr : Bool} {Q : VP} (I : InstAt s.heap x ox Cl (some (dictOf es n)))
  (hg : plainGet (hK w.params) Cl name = true) (hh : hasDictIn (hK w.params) Cl = true) (ha : findIn (hK w.params) (.ref Cl) name = some (some (.ref f))) (hf : isFn (hK w.params) (.ref f) = true)
  (hgf : specialIn (hK w.params) (.ref f) "__get__" = some (some (.builtin "function.__get__"))) (ht : takesIn (hK w.params) (.ref f) = some false) (hc : copiedNames.contains name = false) (hl : getL name es = some none)
  (h : ∀ q s', Stt s0 g env.locals m ((q, methodObj (.ref f) (.ref x)) :: news) s' → Q (.ref q) s') : WP (model prog w) A (getAttr (.ref x) name expr) Q E s :=
 ⟨kbm_bound S.fr C.X S.led I hg hh ha hf hgf ht hc hl fun q h' F N hq => h q _ ⟨same_of S.same, F, N, by
  simp only [List.map_cons, List.nodup_cons]
  refine ⟨fun hm => ?_, S.nd⟩
  obtain ⟨p, hp, e⟩ := List.mem_map.mp hm
  have := hq p hp
  rw [e] at this; exact Nat.lt_irrefl _ this⟩⟩
theorem q_cwM2 (C : Fm w A env g base outer nm G) {pos : Pos} {q f : Addr} {self : Value} {e : Expr} {es : List Expr} {Q : VP} (hf : fnIn (hK w.params) f = true)
  (h : WP (model prog w) A (spliced (backTo pos (starEach (e :: es) env))) (fun vs s_1 => (∃ s0 m news, Stt s0 g env.locals m news s_1 ∧ (q, methodObj (.ref f) self) ∈ news) ∧ codeAny (model prog w) A (.call (.ref f) ⟨self :: vs, []⟩) (rets Q E) s_1) E s)
  (he : starEach (e :: es) env = (false, eval e env) :: starEach es env := by exact rfl) (hst : (backTo pos (starEach es env)).any (·.1) = true := by exact rfl) :
  WP (model prog w) A (callWith pos (.ref q) [] (backTo pos (starEach (e :: es) env)) []) Q E s := by
 refine ⟨?_⟩
 have h' := h.run
 rw [he] at h' ⊢
 refine ks_call (by show (false || (backTo pos (starEach es env)).any (·.1)) = true; rw [hst]; rfl) (keeps_M (self := self) hf) (evalArgs_plain (wpAny_mono h' (fun vs s_1 h_1 => ?_) fun _ _ e => e))
 refine byG fun GG hGG => ?_
 obtain ⟨⟨_, _, _, S_1, hq⟩, hc⟩ := h_1
 refine hGG ?_
 clear hGG GG
 exact ⟨⟨S_1.get hq, C.X.keeps S_1.fr.keep⟩, wpAny_call (method_call (S_1.get hq) hc)⟩
theorem q_cwM1 (C : Fm w A env g base outer nm G) {pos p : Pos} {q f : Addr} {self : Value} {e : Expr} {Q : VP} (hf : fnIn (hK w.params) f = true)
  (h : WP (model prog w) A (eval e env) (fun v s_1 => StarOf (model prog w) A E v (fun vs s_2 => (∃ s0 m news, Stt s0 g env.locals m news s_2 ∧ (q, methodObj (.ref f) self) ∈ news) ∧ codeAny (model prog w) A (.call (.ref f) ⟨self :: vs, []⟩) (rets Q E) s_2) s_1) E s)
  (he : starEach [.Starred e p] env = [(true, eval e env)] := by exact rfl) : WP (model prog w) A (callWith pos (.ref q) [] (backTo pos (starEach [.Starred e p] env)) []) Q E s := by
 refine ⟨?_⟩
 rw [he]
 refine ks_call rfl (keeps_M (self := self) hf) (ks_lone (wpAny_mono h.run (fun v s_1 h_1 => ?_) fun _ _ e => e))
 unfold StarOf at h_1 ⊢
 refine wpAny_mono h_1 (fun b s_2 h_2 => ⟨h_2.1, wpAny_mono h_2.2 (fun vs s3 h_3 => ?_) fun _ _ e => e⟩) fun _ _ e => e
 refine byG fun GG hGG => ?_
 obtain ⟨⟨_, _, _, S_1, hq⟩, hc⟩ := h_3
 refine hGG ?_
 clear hGG GG
 exact ⟨⟨S_1.get hq, C.X.keeps S_1.fr.keep⟩, wpAny_call (method_call (S_1.get hq) hc)⟩
end
section
variable {prog : Program} {w : World} {A : Around} {env : Env} {E : VP} {s : Shared}
inductive PSixV (Q : VP) (l : Addr) (vs : List Value) (n : Nat) (xs : List Str) (v : Value) (s_2 : Shared) : Prop
 | mk (s0 : Shared) (g : Heap) (L : Addr) (m : SM) (news : LD) (x : _) (t : _) (h1 : Stt s0 g L m news s_2) (h2 : v = .str x t) (h3 : x ∈ xs) (h4 : s_2.heap.get? l = some (W.listOf vs.toArray n)) (h5 : ∀ t' s', Stt s0 g L m news s' → Q (.int (xs.idxOf x : Nat) t') s') : PSixV Q l vs n xs v s_2
inductive PSix (prog : Program) (w : World) (A : Around) (env : Env) (e : Expr) (Q : VP) (E : VP) (ov : Value) (s_1 : Shared) : Prop
 | mk (l : _) (vs : _) (n : _) (xs : _) (h1 : ov = .ref l) (h2 : s_1.heap.get? l = some (W.listOf vs.toArray n)) (h3 : All2 Vs vs xs) (h4 : vs.length ≤ 1000) (h5 : WP (model prog w) A (eval e env) (PSixV Q l vs n xs) E s_1) : PSix prog w A env e Q E ov s_1
theorem q_sindex {o e : Expr} {apos pos : Pos} {Q : VP}
  (h : WP (model prog w) A (eval o env) (PSix prog w A env e Q E) E s)
  (hbase : attributeBase o "index" env (eval o env) = eval o env := by exact rfl)
  (hfew : ((backTo pos (starEach [e] env)).all (fun x => !x.1) && (backToKw pos (keywordEach [] env)).all (fun x => x.1.isSome)
   && decide (([e] : List Expr).length + ([] : List Keyword).length + (if ([] : List Keyword).isEmpty then 0 else 1) < 30)) = true := by exact rfl)
  (hline : (apos.endLine == pos.line) = true := by exact rfl) (htr : backTo pos (starEach [e] env) = [(false, eval e env)] := by exact rfl) :
  WP (model prog w) A (eval (.Call (.Attribute o "index" apos) [e] [] pos) env) Q E s := by
 refine q_meth1 F.plainAttrs_list F.slot_list_index F.type_list_index (q_mono h fun ov s_1 h_1 => ?_) hbase hfew hline htr
 refine byG fun GG hGG => ?_
 obtain ⟨l, vs, n, xs, rfl, hl, hv, hsz, hc⟩ := h_1
 refine hGG ?_
 clear hGG GG
 refine ⟨(isL hl).typeIs, fun a ea => by cases ea; exact ⟨_, hl, rfl⟩, ⟨P.index_list (wpAny_mono hc.run (fun v s_2 h_2 => ?_) fun _ _ e => e)⟩⟩
 refine byG fun GG hGG => ?_
 obtain ⟨s0, g, L, m, news, x, t, S, rfl, hk, hl2, q⟩ := h_2
 refine hGG ?_
 clear hGG GG
 have hlt := List.idxOf_lt_length_iff.mpr hk
 have hlen := hv.length
 have at' : ∀ i (hi : i < vs.toArray.size), ∃ t', vs.toArray[i] = .str (xs[i]'(by simpa [hlen] using hi)) t' := fun i hi => by
  obtain ⟨v, e1, t', rfl⟩ := hv.get (i := i) (b := xs[i]'(by simpa [hlen] using hi)) (by simp)
  have : vs[i]'(by simpa using hi) = .str (xs[i]'(by simpa [hlen] using hi)) t' := by
   rw [List.getElem?_eq_getElem (by simpa using hi)] at e1; exact Option.some.inj e1
  exact ⟨t', by simpa using this⟩
 refine ⟨_, _, fun y => match y with | .str a _ => a == x | _ => false, xs.idxOf x, by simpa [hlen] using hlt, hl2, fun y hy => ?_, by lia, ?_, fun i hi hik => ?_, q _ _ (S.tok _)⟩
 ·obtain ⟨b, _, t', rfl⟩ := hv.mem (by simpa using hy)
  exact eqGives_str _ _ _ _
 ·obtain ⟨t', e⟩ := at' (xs.idxOf x) (by simpa [hlen] using hlt)
  rw [e]; simp
 ·obtain ⟨t', e⟩ := at' i hi
  rw [e]
  have := List.not_of_lt_findIdx (p := fun y => y == x) (xs := xs) (i := i) (by simpa [List.idxOf] using hik)
  simpa using this
end
noncomputable def addLine (pl : Int → Str) (w r : List Int) (k : Int) (G : AG) : AG := r.dropLast.foldl (fun G j => if w.contains j then G else addG G (pl j) [pl k]) (addG G (pl k) (w.map pl))
noncomputable def graphN (pl : Int → Str) (rows ws : List (List Int)) : Nat → AG
 | 0 => []
 | i + 1 => addLine pl (wAt ws ((i + 1 : Nat) : Int)) (wAt rows ((i + 1 : Nat) : Int)) ((i + 1 : Nat) : Int) (graphN pl rows ws i)
noncomputable def plAt (plain : List Str) (j : Int) : Str := sAt plain j.toNat
theorem plAt_mem {plain : List Str} {j : Int} (h1 : 1 ≤ j) (h2 : j < plain.length) : plAt plain j ∈ plain.drop 1 := by
 unfold plAt sAt
 have : j.toNat = 1 + (j.toNat - 1) := by lia
 rw [this, List.getD_eq_getElem?_getD, ← List.getElem?_drop, List.getElem?_eq_getElem (by rw [List.length_drop]; lia)]
 exact List.getElem_mem _
theorem plAt_get {plain : List Str} {pvs : List Value} (h : All2 Vs pvs plain) {j : Int} (h1 : 0 ≤ j) (h2 : j < plain.length) : ∃ t, pvs[j.toNat]? = some (.str (plAt plain j) t) := by
 have hlt : j.toNat < plain.length := by lia
 obtain ⟨v, hv, t, rfl⟩ := h.get (i := j.toNat) (b := plAt plain j) (by unfold plAt sAt; rw [List.getD_eq_getElem?_getD, List.getElem?_eq_getElem hlt]; rfl)
 exact ⟨t, hv⟩
structure GrOk (plain : List Str) (G : AG) : Prop where
 good : GoodG G
 sub : ∀ y ∈ namesG G, y ∈ plain.drop 1
theorem GrOk.add {plain : List Str} {G : AG} (h : GrOk plain G) {y : Str} {ps : List Str} (hy : y ∈ plain.drop 1) (hp : ∀ p ∈ ps, p ∈ plain.drop 1) : GrOk plain (addG G y ps) := by
 obtain ⟨h1, h2, _⟩ := addG_good h.good y ps
 refine ⟨h1, fun z hz => ?_⟩
 rcases (h2 z).mp hz with h' | rfl | h'
 ·exact h.sub z h'
 ·exact hy
 ·exact hp z h'
theorem names_abs (ns : List Nd) : namesG (absG ns) = ns.map Nd.nm := by unfold namesG absG; rw [List.map_map]; rfl
theorem GrOk.len {plain : List Str} {ns : List Nd} (h : GrOk plain (absG ns)) : ns.length ≤ plain.length - 1 := by
 have := List.Nodup.length_le_of_subset (h.good "").nd (l₂ := plain.drop 1) fun y hy => h.sub y hy
 rw [names_abs, List.length_map, List.length_drop] at this
 exact this
theorem wAt_mem' {l : List (List Int)} {k : Int} (h0 : 0 ≤ k) (hk : k < l.length) : wAt l k ∈ l := by
 unfold wAt
 rw [List.getD_eq_getElem?_getD, List.getElem?_eq_getElem (by lia)]
 exact List.getElem_mem _
theorem run_spec {w : World} {A : Around} {env : Env} {g base : Heap} {outer : List Env} {nm : List Str} {G : SV} {s0 s : Shared} {m : SM} {rest frs : LD}
  {E : VP} {pv lv wv : Value} {plain : List Str} {rows ws : List (List Int)} {Q : VP} :
  (hK w.params).In g → ∀ (C : Fm w A env g base outer nm G) (S : Stt s0 g env.locals m (([] ++ rest) ++ frs) s) (Fs : Frs outer frs) (hd : A.depth + 60 < recursionLimit)
  (hp : LsS (fun a o => (a, o) ∈ rest ∨ g.get? a = some o) pv plain) (hl : LsLI (fun a o => (a, o) ∈ rest ∨ g.get? a = some o) lv rows) (hw : LsLI (fun a o => (a, o) ∈ rest ∨ g.get? a = some o) wv ws)
  (h1 : 1 ≤ rows.length) (hn : rows.length ≤ 7) (hlw : ws.length = rows.length) (hlp : plain.length = rows.length)
  (hr : ∀ r ∈ rows, r.length ≤ 7 ∧ ∀ j ∈ r, 1 ≤ j ∧ j < rows.length) (hrw : ∀ r ∈ ws, r.length ≤ 6 ∧ ∀ j ∈ r, 1 ≤ j ∧ j < rows.length)
  (k : ∀ v nw s' frs', SameUp frs frs' → Frs outer frs' → Stt s0 g env.locals m ((nw ++ rest) ++ frs') s' →
   ((v = .none ∧ ∃ y ∈ namesG (graphN (plAt plain) rows ws (rows.length - 1)), Path (scG (graphN (plAt plain) rows ws (rows.length - 1))) y y) ∨
    ∃ td : List Str, LsI (ld nw) v (td.map fun y => ((plain.idxOf y : Nat) : Int)) ∧ td.Nodup ∧ (∀ y, y ∈ td → y ∈ plain.drop 1) ∧ (∀ y, y ∈ td ↔ y ∈ namesG (graphN (plAt plain) rows ws (rows.length - 1))) ∧
     ∀ pre v post, td = pre ++ v :: post → ∀ u ∈ namesG (graphN (plAt plain) rows ws (rows.length - 1)), v ∈ scG (graphN (plAt plain) rows ws (rows.length - 1)) u → u ∈ pre) → Q v s'),
  WP (model PySem.Challenge.rw_rt0104_01.row.prog w) A (call (.ref 308) [pv, lv, wv]) Q E s := by
 k_fill
 intro X C S Fs hd hp hl hw h1 hn hlw hlp hr hrw k
 refine q_defX C (sub := []) (rest := rest) S Fs ["lines", "waits", "sorter", "k", "j", "told", "batch"] [lv, wv] [some lv, some wv, none, none, none, none, none] [("TopologicalSorter", .ref 137), ("range", .type "range"), ("len", .builtin "len"), ("CycleError", .ref 55)] [("plain", pv), ("lines", lv), ("waits", wv)] [("plain", pv)] (fun n => [("plain", n)])
  (by k_is) (by k_is) (by lia) (BindsTo.of_eq rfl) (Nat.le_of_ble_eq_true rfl) rfl rfl rfl (by decide +kernel) (fun n => rfl) (by decide) rfl (fun n x hx => by
   rcases List.mem_cons.mp hx with rfl | hx
   ·exact .inr ⟨rfl, rfl⟩
   ·rcases List.mem_cons.mp hx with rfl | hx
    ·exact .inl rfl
    ·rw [List.mem_singleton.mp hx]; exact .inl rfl) rfl rfl rfl ?_
 intro g' ca env' s_1 cells oL hrs hg hg' C' Cc Y hoL Fs' S_1
 obtain ⟨co, rfl, hco⟩ := Y.one
 replace hco : co.data = .cell (some pv) := hco
 have hcf := Cc.at (.head _)
 have hcl : env'.cells.lookup ("plain" : Str) = some ca := by rw [Cc.cells]; exact rfl
 obtain ⟨frs0, hfr0⟩ : ∃ frs0, frs0 = (env.locals, oL) :: frs := ⟨_, rfl⟩
 rw [← hfr0] at S_1 Fs'
 have hup : ∀ a o, ((a, o) ∈ rest ∨ g.get? a = some o) → g'.get? a = some o := fun a o h => h.elim (fun h => hrs _ h) fun h => hg _ _ h
 replace hp : LS g' pv plain := hp.up hup
 replace hl : LLI g' lv rows := hl.up hup
 replace hw : LLI g' wv ws := hw.up hup
 refine byG fun GG hGG => ?_
 obtain ⟨pa, pvs, pn, rfl, hpo, hpall⟩ := hp
 obtain ⟨la, lvs, ln, rfl, hlo, hall⟩ := hl
 obtain ⟨wa, wvs, wn, rfl, hwo, hwall⟩ := hw
 refine hGG ?_
 clear hGG GG
 have hplen := hpall.length
 have hlen := hall.length
 have hwlen := hwall.length
 have hclos : ∀ sc : Scope, closL [(("plain" : Str), ca)] sc.names [] = some [(("plain" : Str), ca)] → closureFor sc env' = pure [(("plain" : Str), ca)] := fun sc h => closureFor_eq Cc.cells h
 replace S_1 : Stt s g' env'.locals (lcs ["lines", "waits", "sorter", "k", "j", "told", "batch"] [some (.ref la), some (.ref wa), none, none, none, none, none]) ((ca, co) :: frs0) s_1 := S_1
 refine q_abs fun PR hR => ?_
 refine q_cons <| q_assign <| q_call <| q_glob C' S_1 (by walk_at "mem") <| q_cwK0 C' S_1 (by k_is) <| sorter_spec C'.X C' S_1 (by have : (A.deeper env').depth = A.depth + 1 := rfl; with_reducible exact n35 (by assumption) (by assumption) (by decide)) fun x dx d q s_2 lo hq1 hq2 hq3 hq4 S_2 => q_store C' S_2 (by walk_at "up") fun s3 S_3 => ?_
 have hga : getL "add" (SD.es q) = some none := rfl
 replace S_3 : Stt s g' env'.locals (lcs ["lines", "waits", "sorter", "k", "j", "told", "batch"] [some (.ref la), some (.ref wa), some (.ref x), none, none, none, none]) (sLed x dx d q (dictOf [] 0) [] ++ (ca, co) :: frs0) s3 := S_3
 refine q_cons <| q_forR C' (by walk_at "mem") <| q_call <| q_glob C' S_3 (by walk_at "mem") <| q_cwT <| q_ic <| q_int S_3 fun t_1 s4 S4 => q_ic <| q_call <| q_glob C' S4 (by walk_at "mem") <| q_cwB <| q_ic <| q_name C' S4 (by walk_at "lk") <| q_i0 <|
  q_len S4 (S4.base hlo) (by lia) fun t_2 s5 S5 _ => q_i0 <| q_range2 S5 fun rg t u v s6 S6 => ?_
 refine ⟨s, rg, 1, ((lvs.length : Nat) : Int), rows.length - 1, _, _, _, fun i m r => Ex4 fun od ns uk uj => An6 (r = sLed x dx d q od ns ++ (ca, co) :: frs0) (IsD PySem.Challenge.rw_rt0104_01.row.prog w od (kvsOf ns)) (absG ns = graphN (plAt plain) rows ws i) (GrOk plain (absG ns)) (∀ p ∈ ns, NdOk (12 * i) p) (m = lcs ["lines", "waits", "sorter", "k", "j", "told", "batch"] [some (.ref la), some (.ref wa), some (.ref x), uk, uj, none, none]), _, _, rfl, S6.sub (List.sublist_cons_self _ _), S6.get (.head _), ⟨by lia, by lia, by lia, by with_reducible exact n28 (by assumption) (by decide)⟩, ?_, ?_, ?_⟩
 ·exact ⟨dictOf [] 0, [], none, none, rfl, isD_new s.heap, rfl, ⟨good_nil, by simp [namesG, absG]⟩, by simp, rfl⟩
 ·rintro i t m1 r_1 I it s7 hi ⟨od, ns, uk, uj, rfl, hI, hG, hok, hnd, rfl⟩ S7
  rw [show (1 : Int) + (i : Int) = ((i + 1 : Nat) : Int) by lia] at S7
  rw [(show Up "k" (some (.int ((i + 1 : Nat) : Int) t)) ["lines", "waits", "sorter", "k", "j", "told", "batch"] _ [some (.ref la), some (.ref wa), some (.ref x), some (.int ((i + 1 : Nat) : Int) t), uj, none, none] by walk_at "up").eq C'.nd] at S7
  refine q_abs fun PL hL => ?_
  generalize hK : ((i + 1 : Nat) : Int) = K at *
  have hK0 : 1 ≤ K := by lia
  have hKl : K < rows.length := by lia
  refine byG fun GG hGG => ?_
  obtain ⟨_, hwv, wra, wrvs, wrn, rfl, hwro, hwrall⟩ := hwall.at (k := K) (by lia) (by lia)
  obtain ⟨_, hlv, lra, lrvs, lrn, rfl, hlro, hlrall⟩ := hall.at (k := K) (by lia) (by with_reducible assumption)
  refine hGG ?_
  clear hGG GG
  have hrk := hr _ (wAt_mem' (l := rows) (k := K) (by lia) (by with_reducible assumption))
  have hrwk := hrw _ (wAt_mem' (l := ws) (k := K) (by lia) (by lia))
  obtain ⟨tk, hpk⟩ := plAt_get hpall (j := K) (by lia) (by lia)
  have hwrl := hwrall.length
  have hlrl := hlrall.length
  have hnl := hok.len
  have hD1 : (A.deeper env').depth = A.depth + 1 := rfl
  have hplK : plAt plain K ∈ plain.drop 1 := plAt_mem (by with_reducible assumption) (by lia)
  replace S7 := S7.perm (news' := sLed x dx d q od ns ++ (I, it) :: (ca, co) :: frs0) List.perm_middle
  refine q_cons <| q_expr C' <| q_mcallS <| q_name C' S7 (by walk_at "lk") <| q_getB C' S7 (f := 87) (instAt S7 (.head _) (.tail _ (.head _))) (by k_is) (by k_is) (by k_is) (by k_is) (by k_is) (by k_is) (by decide +kernel) hga fun mq s8 S8 => q_cwM2 C' (f := 87) (self := .ref x) (by k_is) <|
   q_ic <| q_sub <| q_nameX S8 hco (.tail _ (List.mem_append_right _ (.tail _ (.head _)))) hcf hcl <| q_name C' S8 (by walk_at "lk") <|
   q_item (S8.base hpo) (by lia) (by lia) hpk <| q_is <| q_comp (hclos _ rfl) <| q_sub <| q_name C' S8 (by walk_at "lk") <| q_name C' S8 (by walk_at "lk") <| q_item (S8.base hwo) (by lia) (by lia) hwv
   ⟨s, g', _, _, fun z ys r => r = (mq, methodObj (.ref 87) (.ref x)) :: (sLed x dx d q od ns ++ (I, it) :: (ca, co) :: frs0) ∧ All2 Vs ys (((wAt ws K).take z).map (plAt plain)), _, src_seq C'.hh ⟨.inl rfl, _, rfl⟩ S8 (.inl hwro) (by rw [hwrl]; exact Nat.le_trans hrwk.1 (by decide)) ⟨rfl, .nil⟩ ?_, fun D ys r s9 hJ hyl S9 => ?_⟩
  ·rintro z v hv ys r_1 I2 it2 Cc2 oC mC D s8 ⟨rfl, hys⟩ hyl hoC hm S8
   obtain ⟨jj, hjj, tj, rfl⟩ := hwrall.get' hv
   have hj0 := hrwk.2 jj (List.mem_of_getElem? hjj)
   obtain ⟨tj', hpj⟩ := plAt_get hpall (j := jj) (by lia) (by lia)
   refine q_tests0 <| (if_pos rfl).mpr <| q_sub <| q_nameC S8 hco (.tail _ (.tail _ (.tail _ (.tail _ (List.mem_append_right _ (.tail _ (.head _))))))) hcf <| q_nameO S8 hoC hm (.tail _ (.head _)) <| q_item (S8.base hpo) (by lia) (by lia) hpj ⟨_, S8, rfl, ?_⟩
   rw [List.take_add_one, hjj, List.map_append]
   exact hys.snoc ⟨_, rfl⟩
  obtain ⟨rfl, hys⟩ := hJ
  rw [hwrl, List.take_length] at hys
  have hysl := hys.length
  rw [List.length_map] at hysl
  refine star_S S9 (.head _) ⟨.inl rfl, _, rfl⟩ (by lia) fun s9' S9' _ => q_i0 ⟨⟨_, _, _, S9', .tail _ (.head _)⟩, add_specK (b := 12 * i) (ps := (wAt ws K).map (plAt plain)) C'.X C' ((S9'.sub (List.sublist_cons_self _ _)).sub (List.sublist_cons_self _ _)) (by with_reducible exact n35 (by assumption) (by assumption) (by decide)) hI lo hq1 hq2 (by lia) (by lia) hnd (by rw [List.append_nil]; exact hys) (by simp; lia)
   fun od1 ns1 s10 hI1 hG1 hnd1 _ S10 => ?_⟩
  rw [hG] at hG1
  have hok1 : GrOk plain (absG ns1) := by
   rw [hG1]
   refine GrOk.add (hG ▸ hok) hplK fun p hp => ?_
   obtain ⟨j, hj, rfl⟩ := List.mem_map.mp hp
   have := hrwk.2 j hj
   exact plAt_mem (by lia) (by lia)
  rw [List.length_map] at hnd1
  refine q_cons <| q_forL C' (by walk_at "mem") <| q_sub <| q_sub <| q_name C' S10 (by walk_at "lk") <| q_name C' S10 (by walk_at "lk") <| q_item (S10.base hlo) (by lia) (by lia) hlv <| q_sliceE <| q_ep0 <| q_ep <| q_unop <| q_int S10 fun t11 s11 S11 => q_neg S11 fun t12 s12 S12 =>
   ⟨s, g', _, _, S12, fun sl s13 S13 _ => q_sliceT S13 (S13.base hlro) (S13.get (.head _)) .none (.int _ _) (by simp; lia) fun jl s14 S14 => ?_⟩
  rw [sp_butlast] at S14
  replace S14 := (S14.sub (List.Sublist.cons_cons _ (List.sublist_cons_self _ _))).perm (news' := sLed x dx d q od1 ns1 ++ (jl, W.listOf lrvs.dropLast.toArray 0) :: (I, it) :: (ca, co) :: frs0) List.perm_middle
  have hdl := all2_dropLast hlrall
  have hdll := hdl.length
  have hdl6 : (wAt rows K).dropLast.length ≤ 6 := by rw [List.length_dropLast]; with_reducible exact n26 (by assumption)
  refine ⟨s, jl, W.listOf lrvs.dropLast.toArray 0, lrvs.dropLast, fun z m r => Ex3 fun od ns uj => An6 (r = sLed x dx d q od ns ++ (jl, W.listOf lrvs.dropLast.toArray 0) :: (I, it) :: (ca, co) :: frs0) (IsD PySem.Challenge.rw_rt0104_01.row.prog w od (kvsOf ns)) (absG ns = ((wAt rows K).dropLast.take z).foldl (fun G j => if (wAt ws K).contains j then G else addG G (plAt plain j) [plAt plain K]) (addG (graphN (plAt plain) rows ws i) (plAt plain K) ((wAt ws K).map (plAt plain)))) (GrOk plain (absG ns)) (∀ p ∈ ns, NdOk (12 * i + 6 + z) p) (m = lcs ["lines", "waits", "sorter", "k", "j", "told", "batch"] [some (.ref la), some (.ref wa), some (.ref x), some (.int K t), uj, none, none]), _, _, rfl, rfl, ⟨_, rfl⟩, S14, .inr ?_, ?_, ?_, ?_⟩
  ·rintro z m r ⟨od, ns, uj, rfl, _⟩
   exact List.mem_append_right _ (.head _)
  ·exact ⟨od1, ns1, uj, rfl, hI1, hG1, hok1, fun p hp => ⟨(hnd1 p hp).1, Nat.le_trans (hnd1 p hp).2 (by lia)⟩, rfl⟩
  ·rintro z v m1 r_1 I2 it2 s15 hv ⟨od_2, ns2, uj2, rfl, hI2, hG2, hok2, hnd2, rfl⟩ S15
   obtain ⟨jj, hjj, tj, rfl⟩ := hdl.get' hv
   have hzl : z < (wAt rows K).dropLast.length := (List.getElem?_eq_some_iff.mp hjj).1
   have hj0 := hrk.2 jj (List.dropLast_subset _ (List.mem_of_getElem? hjj))
   obtain ⟨tj', hpj⟩ := plAt_get hpall (j := jj) (by lia) (by lia)
   rw [(show Up "j" (some (.int jj tj)) ["lines", "waits", "sorter", "k", "j", "told", "batch"] _ [some (.ref la), some (.ref wa), some (.ref x), some (.int K t), some (.int jj tj), none, none] by walk_at "up").eq C'.nd] at S15
   refine q_abs fun PM hM => ?_
   replace S15 := S15.perm (news' := sLed x dx d q od_2 ns2 ++ (I2, it2) :: (jl, W.listOf lrvs.dropLast.toArray 0) :: (I, it) :: (ca, co) :: frs0) List.perm_middle
   have hnl2 := hok2.len
   refine q_cons <| q_if <| q_tcmp <| q_name C' S15 (by walk_at "lk") <| q_sub <| q_name C' S15 (by walk_at "lk") <| q_name C' S15 (by walk_at "lk") <| q_item (S15.base hwo) (by lia) (by lia) hwv <| q_notin (S15.base hwro) hwrall <| q_tbool ?_
   have hstep : ((wAt rows K).dropLast.take (z + 1)).foldl (fun G j => if (wAt ws K).contains j then G else addG G (plAt plain j) [plAt plain K]) (addG (graphN (plAt plain) rows ws i) (plAt plain K) ((wAt ws K).map (plAt plain))) =
     if (wAt ws K).contains jj then absG ns2 else addG (absG ns2) (plAt plain jj) [plAt plain K] := by
    rw [List.take_add_one, hjj, List.foldl_append, ← hG2]; rfl
   by_cases hc : (wAt ws K).contains jj = true
   ·rw [hc]
    rw [if_pos hc] at hstep
    refine (if_neg Bool.false_ne_true).mpr ?_
    exact q_nil <| q_nil <| hM _ _ ⟨_, _, S15.perm List.perm_middle.symm, od_2, ns2, _, rfl, hI2, hstep.symm, hok2, fun p hp => ⟨(hnd2 p hp).1, Nat.le_trans (hnd2 p hp).2 (by lia)⟩, rfl⟩
   ·replace hc : (wAt ws K).contains jj = false := by simpa using hc
    rw [hc]
    rw [if_neg (by rw [hc]; exact Bool.false_ne_true)] at hstep
    refine (if_pos rfl).mpr ?_
    refine q_cons <| q_expr C' <| q_mcall <| q_name C' S15 (by walk_at "lk") <| q_getM C' S15 (f := 87) (instAt S15 (.head _) (.tail _ (.head _))) (by k_is) (by k_is) (by k_is) hga <| q_cwK C' S15 (by k_is) <| q_ic <| q_sub <| q_nameX S15 hco (List.mem_append_right _ (.tail _ (.tail _ (.tail _ (.head _))))) hcf hcl <| q_name C' S15 (by walk_at "lk") <|
     q_item (S15.base hpo) (by lia) (by lia) hpj <| q_ic <| q_sub <| q_nameX S15 hco (List.mem_append_right _ (.tail _ (.tail _ (.tail _ (.head _))))) hcf hcl <| q_name C' S15 (by walk_at "lk") <| q_item (S15.base hpo) (by lia) (by lia) hpk <| q_i0 ⟨⟨_, _, _, S15⟩,
     q_ofK <| add_specK (b := 12 * i + 6 + z) (pvs := [.str (plAt plain K) tk]) (ps := [plAt plain K]) C'.X C' S15 (by with_reducible exact n35 (by assumption) (by assumption) (by decide)) hI2 lo hq1 hq2 (by lia) (by lia) hnd2 (.cons ⟨_, rfl⟩ .nil) (by simp) fun od3 ns3 s16 hI3 hG3 hnd_3 _ S16 => ?_⟩
    refine q_nil <| q_nil <| hM _ _ ⟨_, _, S16.perm List.perm_middle.symm, od3, ns3, _, rfl, hI3, by rw [hstep, hG3], ?_, hnd_3, rfl⟩
    rw [hG3]
    refine hok2.add (plAt_mem (by lia) (by lia)) fun p hp => ?_
    rw [List.mem_singleton.mp hp]; exact hplK
  ·rintro m1 r_1 s15 ⟨od_2, ns2, uj2, rfl, hI2, hG2, hok2, hnd2, rfl⟩ S15
   rw [hdll, List.take_length] at hG2
   refine q_nil <| hL _ _ ⟨_, _, (S15.sub (List.Sublist.append_left (List.sublist_cons_self _ _) _)).perm List.perm_middle.symm, od_2, ns2, _, uj2, rfl, hI2, ?_, hok2, fun p hp => ⟨(hnd2 p hp).1, Nat.le_trans (hnd2 p hp).2 (by lia)⟩, rfl⟩
   rw [hG2]
   show _ = addLine _ _ _ _ _
   rw [hK]; rfl
 ·rintro m1 r_1 s7 ⟨od, ns, uk, uj, rfl, hI, hG, hok, hnd, rfl⟩ S7
  have hD1 : (A.deeper env').depth = A.depth + 1 := rfl
  refine byG fun GG hGG => ?_
  obtain ⟨a1, a2, a3, a4, b1, b2, b3, b4, v1, v2, v3, v4⟩ := q
  refine hGG ?_
  clear hGG GG
  dsimp only at hq1 hq2 hq3 hq4
  obtain ⟨t3, rfl⟩ := hq3
  obtain ⟨t4, rfl⟩ := hq4
  subst hq1 hq2
  clear hga
  have hnl := hok.len
  have hndn : (ns.map Nd.nm).Nodup := by rw [← names_abs]; exact (hok.good "").nd
  obtain ⟨F, hF, hFp⟩ := reNp_self hndn
  rw [hlp] at hnl
  obtain ⟨GG, hGG⟩ : ∃ GG, GG = graphN (plAt plain) rows ws (rows.length - 1) := ⟨_, rfl⟩
  rw [← hGG] at k hG
  have hVn : namesG GG = ns.map Nd.nm := by rw [← hG, names_abs]
  have hVnd : (namesG GG).Nodup := by rw [hVn]; exact hndn
  have hgood : GoodG GG := hG ▸ hok.good
  have hVl : (namesG GG).length ≤ 6 := by rw [hVn, List.length_map]; lia
  have hVd : ∀ y ∈ namesG GG, y ∈ plain.drop 1 := fun y hy => hok.sub y (by rw [hG]; exact hy)
  have hVp : ∀ y ∈ namesG GG, y ∈ plain := fun y hy => List.mem_of_mem_drop (hok.sub y (by rw [hG]; exact hy))
  have hcl2 : ∀ u ∈ namesG GG, ∀ z ∈ scG GG u, z ∈ namesG GG := fun u _ z hz => by
   obtain ⟨p, hp, _, hz'⟩ := scG_sub hz
   exact (hgood "").cl p hp z hz'
  have hsc : ∀ p ∈ ns, scG GG p.nm = p.ss ∧ NdOk 100 p ∧ ∀ z ∈ p.ss, z ∈ ns.map Nd.nm := fun p hp => by
   have hp' : absN p ∈ GG := by rw [← hG]; exact List.mem_map_of_mem hp
   refine ⟨scG_mem hVnd hp', ⟨(hnd p hp).1, Nat.le_trans (hnd p hp).2 (by lia)⟩, fun z hz => ?_⟩
   rw [← hVn]; exact (hgood "").cl _ hp' z hz
  have S7' : Stt s g' env'.locals (lcs ["lines", "waits", "sorter", "k", "j", "told", "batch"] [some (.ref la), some (.ref wa), some (.ref x), uk, uj, none, none]) ((sLed x dx d ⟨a1, a2, a3, a4, b1, b2, b3, b4, .ref d, .none, .int 0 t3, .int 0 t4⟩ od (reNp ns F) ++ [(ca, co)]) ++ frs0) s7 := by
   rw [hF, List.append_assoc]; exact S7
  refine q_cons <| q_tryC <| q_cons <| q_expr C' <| q_mcall <| q_name C' S7' (by walk_at "lk") <| q_getM C' S7' (f := 92) (instAt S7' (.head _) (.tail _ (.head _))) (by k_is) (by k_is) (by k_is) rfl <| q_cwK0 C' S7' (by k_is) <|
   prepare_spec (F := F) (sc := scG GG) C'.X C' S7' Fs' (by with_reducible exact n35 (by assumption) (by assumption) (by decide)) hI lo rfl rfl hsc (by lia) ?_ ?_
  ·intro rl rv rn s8 frs1 SU1 Fs1 S8 hrv ⟨fin, hT, hfn, hfV⟩
   refine q_nil <| q_cons <| q_assign <| q_list <| q_i0 ⟨_, _, _, _, S8, Nat.le_of_ble_eq_true rfl, fun tl s9 S9 => q_store C' S9 (by walk_at "up") fun s10 S10 => ?_⟩
   rw [List.append_assoc] at S10
   replace S10 := S10.perm (news' := ((rl, W.listOf rv.toArray rn) :: sLed x dx d ⟨a1, a2, a3, a4, b1, b2, b3, b4, .ref d, .ref rl, .int 0 t3, .int 0 t4⟩ od (reNp ns F)) ++ (tl, W.listOf ([] : List Value).toArray 0) :: ([(ca, co)] ++ frs1)) List.perm_middle
   have hcF : ∀ p ∈ GG, cnt F p.1 = p.2.1 := fun p hp => by
    rw [← hG] at hp
    obtain ⟨q, hq, rfl⟩ := List.mem_map.mp hp
    show (F q.nm).1 = q.np
    rw [hFp q hq]
   have hrdy : readyOf ns F = (GG.filter fun p => p.2.1 == 0).map (·.1) := by
    rw [← hG]
    unfold readyOf absG
    rw [List.filter_map, List.map_map]
    have : (ns.filter fun p => (F p.nm).1 == 0) = ns.filter ((fun p : Str × Int × List Str => p.2.1 == 0) ∘ absN) := by
     refine List.filter_congr fun p hp => ?_
     show ((F p.nm).1 == 0) = (p.np == 0)
     rw [hFp p hp]
    rw [this]; rfl
   refine q_cons (q_while (I := fun n s' => Ex12 fun F' rv rs told rn tn po t3 t4 u tvs frs' => An6 (KInv (namesG GG) (scG GG) (cnt F') rs told) (All2 Vs rv rs) (All2 Vi tvs (told.map fun y => ((plain.idxOf y : Nat) : Int))) ((namesG GG).length - told.length ≤ n) (SameUp frs0 frs') (Stt s g' env'.locals (lcs ["lines", "waits", "sorter", "k", "j", "told", "batch"] [some (.ref la), some (.ref wa), some (.ref x), uk, uj, some (.ref tl), u]) (((rl, W.listOf rv.toArray rn) :: sLed x dx d ⟨a1, a2, a3, a4, b1, b2, b3, b4, .ref d, .ref rl, .int po t3, .int po t4⟩ od (reNp ns F')) ++ (tl, W.listOf tvs.toArray tn) :: (ca, co) :: frs') s'))
    (n := (namesG GG).length) ⟨F, rv, _, [], rn, 0, 0, t3, t4, none, [], frs1, KInv.init hgood (cnt F) hcF _ hrdy, hrv, .nil, by simp, SU1, S10⟩ ?_)
   clear S10 S9 S8 hrv
   rintro n s11 ⟨F', rv, rs, told, rn, tn, po, t3, t4, u, tvs, frs1, K, hrv, htv, hms, SU1, S11⟩
   have hKl : told.length + rs.length ≤ (namesG GG).length := by
    have := List.Nodup.length_le_of_subset K.nd (l₂ := namesG GG) fun y hy => K.sub y hy
    rwa [List.length_append] at this
   have hrl := hrv.length
   have htl := htv.length
   rw [List.length_map] at htl
   have mrl : ∀ {r : LD} {o : Obj} {q : SD} {F : NP} {a : Addr × Obj}, a ∈ r → a ∈ ((rl, o) :: sLed x dx d q od (reNp ns F)) ++ r := fun h => List.mem_append_right _ h
   refine q_tval <| q_mcall <| q_name C' S11 (by walk_at "lk") <| q_getM C' S11 (f := 106) (instAt S11 (.tail _ (.head _)) (.tail _ (.tail _ (.head _)))) (by k_is) (by k_is) (by k_is) rfl <| q_cwK0 C' S11 (by k_is) <|
    active_spec C'.X C' S11 (by with_reducible exact n35 (by assumption) (by assumption) (by decide)) (S11.get (.tail _ (.head _))) (S11.get (.tail _ (.tail _ (.head _)))) (S11.get (.head _)) rfl rfl rfl (by lia) rfl fun s12 S12 => q_tbool ?_
   cases hrv0 : rv with
   | nil =>
    refine (if_neg (by simp)).mpr ?_
    subst hrv0
    obtain rfl : rs = [] := by cases hrv; rfl
    have hall : ∀ v ∈ namesG GG, v ∈ told := K.all hT (by rw [hVn]; exact hfV) hfn
    refine q_nil <| q_cons <| q_ret <| q_name C' S12 (by walk_at "lk") <| hR _ _ ⟨_, [(tl, W.listOf tvs.toArray tn)], frs1, S12.sub (List.Sublist.trans (.cons_cons _ (List.sublist_cons_self _ _)) (List.sublist_append_right _ _)), hfr0 ▸ SU1, fun frs2 SU2 Fs2 S13 =>
     k _ _ _ frs2 SU2 Fs2 S13 (.inr ⟨told, ⟨tl, tvs, tn, rfl, .head _, htv⟩, by have := K.nd; simpa using this, fun y h => hVd y (K.sub y (List.mem_append_left _ h)), fun y => ⟨fun h => K.sub y (List.mem_append_left _ h), hall y⟩, K.ord⟩)⟩
   | cons y0 rv' =>
    refine (if_pos (by simp)).mpr ?_
    refine q_abs fun PV hV => ?_
    have hrs0 : rs ≠ [] := by rintro rfl; rw [hrv0] at hrv; cases hrv
    have hrsp : 1 ≤ rs.length := by cases rs with | nil => exact absurd rfl hrs0 | cons _ _ => simp
    refine q_cons <| q_assign <| q_mcall <| q_name C' S12 (by walk_at "lk") <| q_getM C' S12 (f := 99) (instAt S12 (.tail _ (.head _)) (.tail _ (.tail _ (.head _)))) (by k_is) (by k_is) (by k_is) rfl <| q_cwK0 C' S12 (by k_is) <|
     ready_spec (F := F') C'.X C' S12 (by with_reducible exact n35 (by assumption) (by assumption) (by decide)) hI lo rfl rfl rfl hrv (by lia) (fun r hr => by rw [← hVn]; exact K.sub r (List.mem_append_right _ hr)) fun tp t13 F1 rn1 s13 hF1 S13 => q_store C' S13 (by walk_at "up") fun s14 S14 => ?_
    have hcF1 : cnt F1 = markP (cnt F') rs := funext hF1
    rw [hrl] at S14
    refine byG fun GG hGG => ?_
    obtain ⟨LL, hLL⟩ : ∃ LL : List (Addr × Obj) → LD, LL = fun r => ((tp, tupObj rv) :: (rl, W.listOf #[] rn1) :: sLed x dx d ⟨a1, a2, a3, a4, b1, b2, b3, b4, .ref d, .ref rl, .int (po + (rs.length : Nat)) t13, .int po t4⟩ od (reNp ns F1)) ++ r := ⟨_, rfl⟩
    refine hGG ?_
    clear hGG GG
    have mLL : ∀ {r : LD} {a : Addr × Obj}, a ∈ r → a ∈ LL r := fun h => by rw [hLL]; exact List.mem_append_right _ h
    have tLL : ∀ {r : LD}, (tp, tupObj rv) ∈ LL r := fun {r} => by rw [hLL]; exact .head _
    have S14' : Stt s g' env'.locals (lcs ["lines", "waits", "sorter", "k", "j", "told", "batch"] [some (.ref la), some (.ref wa), some (.ref x), uk, uj, some (.ref tl), some (.ref tp)]) (LL ((tl, W.listOf tvs.toArray tn) :: (ca, co) :: frs1)) s14 := by rw [hLL]; exact S14
    refine q_cons <| q_expr C' <| q_extend <| q_name C' S14' (by walk_at "lk") ⟨tl, _, tn, rfl, S14'.get (mLL (.head _)), q_comp (hclos _ rfl) <| q_name C' S14' (by walk_at "lk") ⟨s, g', _, _, fun z ys r => r = LL ((tl, W.listOf tvs.toArray tn) :: (ca, co) :: frs1) ∧ All2 Vi ys ((rs.take z).map fun y => ((plain.idxOf y : Nat) : Int)), _,
     src_seq (lo := tupObj rv) C'.hh ⟨.inr rfl, _, rfl⟩ S14' (.inr ?_) (by exact Nat.le_trans (show rv.length ≤ 100 by lia) (by decide)) ⟨rfl, .nil⟩ ?_, fun D ys r s15 hJ hyl S15 => ?_⟩⟩
    ·rintro z ys r ⟨rfl, _⟩; exact tLL
    ·rintro z v hv ys r_1 I2 it2 Cc2 oC mC D s15 ⟨rfl, hys⟩ hyl hoC hm S15
     obtain ⟨y, hyz, ty, rfl⟩ := hrv.get' hv
     refine q_tests0 <| (if_pos rfl).mpr <| q_sindex <| q_nameC S15 hco (.tail _ (.tail _ (.tail _ (mLL (.tail _ (.head _)))))) hcf ⟨pa, pvs, pn, plain, rfl, S15.base hpo, hpall, by lia, q_nameO S15 hoC hm (.tail _ (.head _)) ⟨s, g', _, _, _, y, ty, S15, rfl, hVp y (K.sub y (List.mem_append_right _ (List.mem_of_getElem? hyz))), S15.base hpo, fun t' s' S' => ⟨_, S', rfl, ?_⟩⟩⟩
     rw [List.take_add_one, hyz, List.map_append]
     exact hys.snoc ⟨_, rfl⟩
    obtain ⟨rfl, hys⟩ := hJ
    rw [hrl, List.take_length] at hys
    have hysl := hys.length
    rw [List.length_map] at hysl
    rw [hLL] at S15
    refine ⟨s, g', _, _, _, D, tvs, tn, ys, _, fun n'' => (D, W.listOf ys.toArray ys.length) :: (((tp, tupObj rv) :: (rl, W.listOf #[] rn1) :: sLed x dx d ⟨a1, a2, a3, a4, b1, b2, b3, b4, .ref d, .ref rl, .int (po + (rs.length : Nat)) t13, .int po t4⟩ od (reNp ns F1)) ++ (tl, W.listOf (tvs ++ ys).toArray n'') :: (ca, co) :: frs1), rfl, S15, by lia, by lia, S15.get (.tail _ (List.mem_append_right _ (.head _))), S15.get (.head _), fun n'' => .tail (Ch.append .head), fun tn' s16 S16 => ?_⟩
    replace S16 := S16.sub (List.sublist_cons_self _ _)
    refine q_cons <| q_expr C' <| q_mcallS <| q_name C' S16 (by walk_at "lk") <| q_getB C' S16 (f := 120) (instAt S16 (.tail _ (.tail _ (.head _))) (.tail _ (.tail _ (.tail _ (.head _))))) (by k_is) (by k_is) (by k_is) (by k_is) (by k_is) (by k_is) (by decide +kernel) rfl fun mq s17 S17 => q_cwM1 C' (f := 120) (self := .ref x) (by k_is) <|
     q_name C' S17 (by walk_at "lk") <| star_S S17 (o := tupObj rv) (.tail _ (.head _)) ⟨.inr rfl, _, rfl⟩ (by lia) fun s18 S18 _ => ⟨⟨_, _, _, S18, .head _⟩,
     done_specK (F := F1) (rv := []) (rs := []) (bvs := rv) (bs := rs) (sc := scG GG) C'.X C' ((S18.sub (List.sublist_cons_self _ _)).sub (List.sublist_cons_self _ _)) (by with_reducible exact n35 (by assumption) (by assumption) (by decide)) hI lo rfl rfl rfl .nil (by simp) hrv (by lia) hsc (fun r hr => by rw [← hVn]; exact K.sub r (List.mem_append_right _ hr))
      (fun i y hi => by rw [hcF1]; exact (K.batch hVnd hcl2 rs [] _ K.start).2 i y hi) fun rv2 rn2 t19 F2 s19 hF2 hrv2 S19 => ?_⟩
    rw [hcF1] at hF2 hrv2
    have K_2 := K.next hVnd hcl2
    refine q_nil <| hV _ _ ⟨n - 1, by with_reducible exact n14 (by assumption) (by assumption) (by assumption), F2, rv2, _, told ++ rs, rn2, tn', po + (rs.length : Nat), t13, t19, _, tvs ++ ys, frs1, by rw [hF2]; exact K_2, hrv2, ?_, ?_, SU1, S19⟩
    ·rw [List.map_append]; exact htv.append hys
    ·rw [List.length_append]; with_reducible exact n1 (by assumption) (by assumption)
  ·intro e s8 frs1 nw SU1 Fs1 S8 Fl hcyc
   exact catch_next C' S8 Fs1 Fl (by walk_at "mem") (by k_is) (by k_exc) fun s9 frs2 SU2 Fs2 S9 => q_cons <| q_ret <| q_cnone <| hR _ _ ⟨_, nw ++ [(ca, co)], frs2, S9, hfr0 ▸ (SU1.trans SU2), fun frs3 SU3 Fs3 S10 => k .none _ _ frs3 SU3 Fs3 S10 (.inl ⟨rfl, by rw [hVn]; exact hcyc⟩)⟩
theorem slot_bool_hash : Slot "bool" "__hash__" "int.__hash__" :=
 .of (owner := "int") (n := "__hash__") (by rw [typeLookup_type, builtinLookup_eq_fast]; kernel_rfl) (by decide +kernel) (by decide +kernel) (by decide +kernel)
  (by first | exact .inl (by decide +kernel) | exact .inr (by decide +kernel)) (by rw [isSubtype_type]; kernel_rfl)
theorem slot_seti_next : Slot "set_iterator" "__next__" "set_iterator.__next__" :=
 .of (owner := "set_iterator") (n := "__next__") (by rw [typeLookup_type, builtinLookup_eq_fast]; kernel_rfl) (by decide +kernel) (by decide +kernel) (by decide +kernel)
  (by first | exact .inl (by decide +kernel) | exact .inr (by decide +kernel)) (by rw [isSubtype_type]; kernel_rfl)
theorem entry_set_iter : entryFor table "set.__iter__" = some Builtin.«frozenset.__iter__» :=
 entryFor_alias (id' := "frozenset.__iter__") (by kernel_rfl) (by first | rfl | decide +kernel) (by decide +kernel) (by kernel_rfl)
theorem entry_seti_next : entryFor table "set_iterator.__next__" = some Builtin.«set_iterator.__next__» := entryFor_of_tree (by kernel_rfl)
theorem args_seti_next (a : Value) : argsOk "set_iterator.__next__" ⟨[a], []⟩ := by unfold argsOk; kernel_rfl
section
variable {prog : Program} {w : World} {A : Around} {E : VP} {s : Shared}
theorem pyHash_true {Q : Int → Shared → Prop} (h : Q 1 { s with toks := s.toks + 1 }) : wpAny (model prog w) A (pyHash (.bool true)) Q E s := by
 have hT : s.TypeIs (.bool true) "bool" := PySem.typeIs_bool _ _
 unfold pyHash
 have hv : [Value.bool true].any Value.onHeap = false := rfl
 refine wpAny_bind ?_
 rw [cRoomFor, if_neg (by rw [hv]; exact Bool.false_ne_true)]; refine wpAny_pure ?_
 refine wpAny_bind (wpAny_specialOf hT slot_bool_hash.lookup ?_)
 show wpAny _ _ (if (some (Value.builtin "int.__hash__") == some Value.none) = true then _ else _) Q E s
 rw [if_neg (by rw [beq_builtin_none]; exact Bool.false_ne_true)]
 refine wpAny_bind (wpAny_specialOf hT slot_bool_hash.lookup ?_)
 show wpAny _ _ (callSpecialIfBoundUnlessNone? (.bool true) "__hash__" _ >>= _) Q E s
 refine wpAny_bind (wpAny_callSpecialIfBoundUnlessNone?_slot hT slot_bool_hash
  (wpAny_call_entry slot_bool_hash hT entry_int_hash
   (show wpAny _ _ (do ret (← mkInt (rawHash 1))) _ _ s from wpAny_ret_mkInt ?_) (args_int_hash _)))
 show wpAny _ _ (if (decide (-(2 : Int) ^ 63 ≤ rawHash 1) && decide (rawHash 1 < 2 ^ 63)) = true then _ else _) Q E _
 rw [if_pos (by decide)]
 exact wpAny_pure h
theorem eqBool_true {Q : Bool → Shared → Prop} (h : Q true s) : wpAny (model prog w) A (eqBool (.bool true) (.bool true)) Q E s := by
 unfold eqBool
 refine wpAny_holding ?_
 rw [if_pos (by rfl)]
 exact wpAny_bind (wpAny_rule (wpAny_pure h))
end
noncomputable def isT : Value → Bool
 | .bool b => b
 | _ => false
theorem isT_shape {v : Value} (h : isT v = true) : v = .bool true := by
 cases v <;> simp_all [isT]
noncomputable def trueKind (prog : Program) (w : World) : KeyKind prog w Unit where
 is := fun _ v => isT v
 hash := fun _ => 1
 inj := fun _ _ _ _ _ => rfl
 byValue := fun _ v h => by rw [isT_shape h]; rfl
 pyHash := fun {A E s k v Q} hv h => by rw [isT_shape hv]; exact pyHash_true h
 eqBool := fun {A E s a b u v Q} hu hv h => by
  rw [isT_shape hu, isT_shape hv]
  exact eqBool_true (by simpa using h)
 «strs» := fun k x t v h => by cases (isT_shape h)
theorem isTrue_kind (prog : Program) (w : World) : (trueKind prog w).is () (.bool true) = true := rfl
noncomputable abbrev tabT (led : Bool) : SetTable := { mask := 7, place := #[1], dummies := #[], finger := 0, led := led, moves := 0, plain := true }
noncomputable abbrev setObjT (led : Bool) : Obj := { cls := .type "set", dict := none, data := .set #[(1, .bool true)] 1 (tabT led) }
theorem layNew_true (led : Bool) (x : Value) : layNew (.fresh 0 0 led) #[] 1 x = (#[(1, x)], tabT led, false, false) := by cases led <;> rfl
section
variable {prog : Program} {w : World} {A : Around} {E : VP} {s0 s : Shared} {g : Heap} {L : Addr} {m : SM} {news news' : LD}
theorem el_true : ElemsOf (trueKind prog w) [((1 : Int), Value.bool true)] := fun e he => by
 rw [List.mem_singleton.mp he]; exact ⟨⟨(), rfl, rfl⟩, rfl⟩
theorem add_true0 {a : Addr} {led : Bool} {Q : Bool → Shared → Prop} (ho : s.heap.get? a = some (setObj0 led)) (h : Q true { s with heap := s.heap.update a (Obj.putSet #[(1, .bool true)] (tabT led)) }) :
  wpAny (model prog w) A (setAddHashed a (.bool true) 1) Q E s := by
 unfold setAddHashed setAddHashedIn
 refine wpAny_holding (wpAny_bind (wpAny_setState_of ho rfl rfl ?_))
 dsimp only
 rw [byScan_of (knd := trueKind prog w) rfl (by decide) (fun e he => by cases he)]
 simp only [↓reduceIte]
 unfold setAddByScan
 refine wpAny_bind ?_
 refine wpAny_bind (wpAny_rule ?_)
 refine wpAny_bind (wpAny_setScan_of (knd := trueKind prog w) (k := ()) (isTrue_kind prog w) ho rfl rfl (fun e he => by cases he) ?_)
 simp only [List.findIdx?_nil]
 rw [layNew_true]
 dsimp only
 refine wpAny_bind (wpAny_pure ?_)
 simp only [↓reduceIte]
 refine wpAny_bind (wpAny_pure ?_)
 simp only [↓reduceIte]
 refine wpAny_bind (wpAny_storeSet_of ho rfl ?_ (by decide))
 rw [show (!false && (tabT led).tooFull) = false by cases led <;> rfl]
 simp only [Bool.false_eq_true, ↓reduceIte]
 exact wpAny_pure (wpAny_pure h)
theorem add_true1 {a : Addr} {led : Bool} {Q : Bool → Shared → Prop} (ho : s.heap.get? a = some (setObjT led)) (h : Q false s) : wpAny (model prog w) A (setAddHashed a (.bool true) 1) Q E s := by
 unfold setAddHashed setAddHashedIn
 refine wpAny_holding (wpAny_bind (wpAny_setState_of ho rfl rfl ?_))
 dsimp only
 rw [byScan_of (knd := trueKind prog w) rfl (by decide) el_true]
 simp only [↓reduceIte]
 unfold setAddByScan
 refine wpAny_bind ?_
 refine wpAny_bind (wpAny_rule ?_)
 refine wpAny_bind (wpAny_setScan_of (knd := trueKind prog w) (k := ()) (isTrue_kind prog w) ho rfl rfl el_true ?_)
 show wpAny _ _ _ _ _ _
 exact wpAny_pure (wpAny_pure h)
theorem call_add_true {a : Addr} {o : Obj} {Q : VP} (hT : s.TypeIs (.ref a) "set")
  (h : wpAny (model prog w) A.in1 (setAddHashed a (.bool true) 1) (fun _ s' => Q .none s') E { s with toks := s.toks + 1 }) : wpAny (model prog w) A (call (.builtin "set.add") [.ref a, .bool true]) Q E s := by
 refine wpAny_call_entry F.slot_set_add hT F.entry_set_add ?_ (F.args_set_add_2 _ _)
 unfold Builtin.«set.add» Builtin.Frozenset.oneOther
 simp only [List.isEmpty_nil, bind_assoc]
 unfold Builtin.Frozenset.addrOf setAdd
 refine wpAny_bind (wpAny_pure ?_)
 try dsimp only
 refine wpAny_bind (wpAny_pure ?_)
 try dsimp only
 refine wpAny_bind ?_
 refine wpAny_holding ?_
 refine wpAny_bind (pyHash_true ?_)
 refine wpAny_mono h (fun _ s' hq => ?_) fun _ _ e => e
 show wpAny _ _ (ret Value.none) _ _ _
 exact wpAny_pure ⟨_, rfl, hq⟩
end
theorem compTurn_set (elt target iter : Expr) (scope : Scope) (pos : Pos) (it acc : Value) (env : Env) :
  compTurn (.SetComp elt [⟨target, iter, [], 0⟩] scope pos) 0 it acc env = (do
   standAt iter.pos
   match ← pyNext it with
   | none => pure (.done .next)
   | some v =>
    letOwnedTupleGo target it v
    assign target env v
    (do let v ← eval elt env; standAt elt.pos; let _ ← call (.builtin "set.add") [acc, v])
    again (.compLoop (.SetComp elt [⟨target, iter, [], 0⟩] scope pos) 0 it acc env)) := by rfl
section
variable {prog : Program} {w : World} {A : Around} {E : VP} {R : Result → Shared → Prop} {s : Shared}
noncomputable def TurnS (M : Model) (A : Around) (env : Env) (target elt : Expr) (acc : Value) (P : Shared → Prop) (R : Result → Shared → Prop) (E : VP) (r : Option Value) (s_1 : Shared) : Prop := match r with
 | none => R (.ok .next) s_1
 | some v => wpAny M A (assign target env v) (fun _ s_2 => wpAny M A (eval elt env) (fun x s4 => wpAny M A (call (.builtin "set.add") [acc, x]) (fun _ => P) E s4) E s_2) E s_1
theorem codeAny_compLoop_set {elt target iter : Expr} {scope : Scope} {pos : Pos} {it acc : Value} {env : Env} (I : Nat → Shared → Prop)
  (turn : ∀ n s, I n s → ∀ (P : Shared → Prop) (E : VP), (∀ m s', m < n → I m s' → P s') → wpAny (model prog w) A (pyNext it) (TurnS (model prog w) A env target elt acc P R E) E s)
  (n : Nat) (h : I n s) (ht : ∀ v, letOwnedTupleGo target it v = pure () := by intro _; rfl) :
  codeAny (model prog w) A (.compLoop (.SetComp elt [⟨target, iter, [], 0⟩] scope pos) 0 it acc env) R s := by
 refine codeAny_loop rfl I (fun n s hI => ?_) n h
 show wpAny _ A ((compTurn (.SetComp elt [⟨target, iter, [], 0⟩] scope pos) 0 it acc env).onRaise (fun x => do noteFrame x env; theTreesLotGoes x)) _ _ s
 refine wpAny_noted ?_
 rw [compTurn_set]
 refine wpAny_bind (wpAny_standAt (wpAny_bind (wpAny_mono (turn n s hI (fun s' => ∃ m, m < n ∧ I m s') _ fun m s' a b => ⟨m, a, b⟩) (fun r s_1 h_1 => ?_) fun _ _ h' => h')))
 cases r with
 | none => exact wpAny_pure h_1
 | some v =>
  refine wpAny_bind (wpAny_of_eq (ht v) ?_)
  refine wpAny_bind (wpAny_mono h_1 (fun _ s_2 h_2 => ?_) fun _ _ h' => h')
  exact wpAny_bind (wpAny_bind (wpAny_mono h_2 (fun x s4 h_4 => wpAny_bind (wpAny_standAt (wpAny_bind (wpAny_mono h_4 (fun _ s5 h_5 => wpAny_pure (wpAny_pure ⟨rfl, h_5⟩)) fun _ _ h' => h')))) fun _ _ h' => h'))
theorem codeAny_compStart_set {elt target iter rest scope pos it acc env}
  (h0 : codeAny (model prog w) A (.compLoop (.SetComp elt (⟨target, iter, [], 0⟩ :: rest) scope pos) 0 it acc env) R s)
  (h : wpAny (model prog w) A (pyIter it) (fun it' s' => codeAny (model prog w) A (.compLoop (.SetComp elt (⟨target, iter, [], 0⟩ :: rest) scope pos) 0 it' acc env) R s')
   (notedBy (model prog w) A env fun x s' => R (.error x) s') s) :
  codeAny (model prog w) A (.compStart (.SetComp elt (⟨target, iter, [], 0⟩ :: rest) scope pos) 0 it acc env) R s := by
 refine codeAny_of_tree ?_
 show wpAny _ _ ((compStart (.SetComp elt (⟨target, iter, [], 0⟩ :: rest) scope pos) 0 it acc env).onRaise (fun x => do noteFrame x env; standAt theWindowsPlace)) _ _ s
 refine wpAny_notedAt ?_
 unfold compStart
 show wpAny _ _ (ask >>= _) _ _ s
 refine wpAny_bind (wpAny_askSetting (wpAny_ite ?_))
 split
 ·first
   | exact wpAny_bind (wpAny_pure (wpAny_pure (And.intro rfl h0)))
   | exact wpAny_pure (And.intro rfl h0)
 ·first
   | exact wpAny_bind (wpAny_rule (wpAny_bind (wpAny_standAt (wpAny_bind (wpAny_mono h (fun it' s' h' => wpAny_pure (And.intro rfl h')) fun _ _ x => x)))))
   | (refine wpAny_bind (wpAny_rule ?_); show wpAny _ _ (standAt iter.pos >>= _) _ _ s; exact wpAny_bind (wpAny_standAt (wpAny_bind (wpAny_mono h (fun it' s' h' => wpAny_pure (And.intro rfl h')) fun _ _ x => x))))
end
theorem newSet_led {prog : Program} {w : World} {A : Around} {E : VP} {s : Shared} {Q : VP}
  (h : Q (.ref s.heap.objs.size) { s with heap := s.heap.push (setObj0 (!w.params.followText "set-order")) }) : wpAny (model prog w) A (newSet (.type "set")) Q E s := by
 unfold newSet setsByText
 refine wpAny_bind (wpAny_bind (wpAny_askSetting (wpAny_pure ?_)))
 dsimp only
 simp only [newObj]
 exact wpAny_bind (wpAny_alloc (wpAny_pure h))
noncomputable def setT (led : Bool) (i : Nat) : Obj := if i = 0 then setObj0 led else setObjT led
theorem setT_cls (led : Bool) (i : Nat) : (setT led i).cls = .type "set" := by unfold setT; split <;> rfl
section
variable {prog : Program} {w : World} {A : Around} {s0 s : Shared} {g : Heap} {L : Addr} {m : SM} {rest news : LD} {E : VP} {led : Bool}
theorem add_true (S : Stt s0 g L m news s) {a : Addr} {i : Nat} {Q : VP} {news' : LD} (ho : (a, setT led i) ∈ news) (U : Ch a (setT led i) (setT led (i + 1)) news news')
  (h : ∀ s', Stt s0 g L m news' s' → Q .none s') : wpAny (model prog w) A (call (.builtin "set.add") [.ref a, .bool true]) Q E s := by
 have hg := S.get ho
 refine call_add_true (o := setT led i) ⟨_, hg, setT_cls led i⟩ ?_
 unfold setT at hg U
 rw [if_neg (Nat.succ_ne_zero i)] at U
 by_cases hi : i = 0
 ·rw [if_pos hi] at hg U
  refine add_true0 (s := { s with toks := s.toks + 1 }) hg (h _ (S.upd (s.toks + 1) U ?_))
  rfl
 ·rw [if_neg hi] at hg U
  have e : news' = news := by
   obtain ⟨p, q, rfl, rfl⟩ := U.split; rfl
  exact add_true1 (s := { s with toks := s.toks + 1 }) hg (h _ (e ▸ S.tok _))
noncomputable def TTurn (prog : Program) (w : World) (A : Around) (s0 : Shared) (g : Heap) (L : Addr) (m : SM) (env : Env) (x : Str) (scope : Scope) (cl : List (Str × Addr)) (elt : Expr)
  (i : Nat) (v : Value) (Ji : List Value → List (Addr × Obj) → Prop) (J : Nat → List Value → List (Addr × Obj) → Prop) : Prop :=
 ∀ r_1 I it C oC mC D oD s_1, Ji [] r_1 → NsO oC mC → mC x = some v → Stt s0 g L m ((I, it) :: (C, oC) :: (D, oD) :: r_1) s_1 →
  WP (model prog w) A (eval elt (compEnvC scope cl C env)) (fun y s3 => y = .bool true ∧ ∃ r_2, Stt s0 g L m ((I, it) :: (C, oC) :: (D, oD) :: r_2) s3 ∧ J (i + 1) [] r_2) NE s_1
theorem comp_blockT {env : Env} {x : Str} {scope : Scope} {cl : List (Str × Addr)} {elt iter : Expr} {px pos : Pos} {J : Nat → List Value → List (Addr × Obj) → Prop} {n : Nat} {iv : Value}
  {RR : Value → Addr → Result → Shared → Prop}
  (K : CSrc prog w A s0 g L m (TTurn prog w A s0 g L m env x scope cl elt) J n iv s)
  (hcell : ∀ y ∈ scope.names, y.2 ≠ .cell) (hkind : scope.kind = .function) (hx : scope.names.lookup x = some .local)
  (done : ∀ D C oC mC r s', J n [] r → NsO oC mC → Stt s0 g L m ((C, oC) :: (D, setT (!w.params.followText "set-order") n) :: r) s' → RR (.ref D) C (.ok .next) s') :
  wpAny (model prog w) A (newSet (.type "set")) (fun acc s3 => wpAny (model prog w) A (newFunctionEnv scope env.globals cl [] env.qual none .none (some env)) (fun cenv s4 =>
   codeAny (model prog w) A (.compStart (.SetComp elt [⟨.Name x px, iter, [], 0⟩] scope pos) 0 iv acc { cenv with scope := relabel scope env }) (RR acc cenv.locals) s4) E s3) E s := by
 refine byG fun GG hGG => ?_
 obtain ⟨I, it0, fp, P, St, rest, rfl, W, hsz, hlive, S, hst, hfp, hkeep, h0, turn⟩ := K.src
 obtain ⟨led, hled⟩ : ∃ led, led = !w.params.followText "set-order" := ⟨_, rfl⟩
 refine hGG ?_
 clear hGG GG
 rw [← hled] at done
 refine newSet_led (wpAny_newFunctionEnv hcell (by intro y hy; simp at hy) (fun h_1 hns1 hsb1 => ?_) hkind)
 rw [← hled] at hns1 hsb1 ⊢
 dsimp only at hns1 hsb1 ⊢
 have SD := S.push (setT led 0) s.toks (by rfl)
 generalize hH2 : s.heap.push (setObj0 led) = H2 at hns1 hsb1 ⊢
 have hH2' : s.heap.push (setT led 0) = H2 := hH2
 rw [hH2'] at SD
 obtain ⟨oC, eC, hoC⟩ := nsO hns1
 have hfresh : H2.get? H2.objs.size = none := Heap.get?_none_of_le (Nat.le_refl _)
 have old2 : ∀ b o, H2.get? b = some o → h_1.get? b = some o := fun b o e => hsb1.extBut b o (fun q => by rw [q, hfresh] at e; cases e) (Heap.get?_push_of_some _ e)
 have SC := SD.enter (s.toks + ([] : SV).length) old2 hfresh eC
 have S_1 : Stt s0 g L m ((I, it0) :: (H2.objs.size, oC) :: (s.heap.objs.size, setT led 0) :: rest) { s with heap := h_1, toks := s.toks + ([] : SV).length } :=
  SC.perm (List.perm_middle (a := (I, it0)) (l₁ := [(H2.objs.size, oC), (s.heap.objs.size, setT led 0)])).symm
 have hst1 : St 0 h_1 := W.frame _ _ _ hst fun b _ o e => old2 b o (hH2' ▸ Heap.get?_push_of_some _ e)
 have hIf : I ∈ fp := W.sub I (List.mem_singleton.mpr rfl)
 have lt2 : s.heap.objs.size < H2.objs.size := by rw [← hH2, Heap.size_push]; exact Nat.lt_succ_self _
 have hCf : H2.objs.size ∉ fp := fun hm => Nat.lt_irrefl _ (Nat.lt_trans (hfp _ hm) lt2)
 have hDf : s.heap.objs.size ∉ fp := fun hm => Nat.lt_irrefl _ (hfp _ hm)
 have loop : codeAny (model prog w) A (.compLoop (.SetComp elt [⟨.Name x px, iter, [], 0⟩] scope pos) 0 (.ref I) (.ref s.heap.objs.size) (compEnvC scope cl H2.objs.size env))
    (RR (.ref s.heap.objs.size) H2.objs.size) { s with heap := h_1, toks := s.toks + ([] : SV).length } := by
  refine codeAny_compLoop_set
   (fun k s' => Ex5 fun it i oC mC r => An6 (i ≤ n) (k = n + 1 - i) (St i s'.heap) (NsO oC mC) (Stt s0 g L m ((I, it) :: (H2.objs.size, oC) :: (s.heap.objs.size, setT led i) :: r) s') (J i [] r)) ?_ (n + 1)
   ⟨it0, 0, oC, _, rest, Nat.zero_le _, rfl, hst1, hoC, S_1, h0⟩
  rintro k s' hJJ PT ET hPT
  refine byG fun GG hGG => ?_
  obtain ⟨it, i, oC, mC, r, hi, rfl, hst', hoC, S', hJ⟩ := hJJ
  refine hGG ?_
  clear hGG GG
  by_cases hlt : i < n
  ·refine W.item i _ _ _ hlt hst' fun v h_2 tk2 hPv hst2 hk_2 => ?_
   obtain ⟨it2, e_2⟩ := hlive _ _ hst2
   have S_2 := S'.walked tk2 hk_2 e_2
   refine wpAny_assign_Name (wpAny_storeName_local (lookup_relabel_local hx) (hoC.ns (S_2.get (.tail _ (.head _)))) (fun h_3 hn_3 hs3 => ?_) (by simp [compEnvC, relabel, hkind]))
   obtain ⟨oC_3, eC3, hoC_3⟩ := nsO hn_3
   have S_3 := S_2.setAt (tk2 + 1) (.tail .head) hs3 eC3
   have hst3 : St (i + 1) h_3 := W.frame _ _ _ hst2 fun b hb o e => hs3.extBut b o (fun q => hCf (by have q' : b = H2.objs.size := q; rw [← q']; exact hb)) e
   have keepSt : ∀ {s5 r_2 oD}, Stt s0 g L m ((I, it2) :: (H2.objs.size, oC_3) :: (s.heap.objs.size, oD) :: r_2) s5 → J (i + 1) [] r_2 → St (i + 1) s5.heap := fun {s5 r_2 oD} S5 hJ5 => by
    refine W.frame _ _ _ hst3 fun b hb o e => ?_
    by_cases hbI : b = I
    ·subst hbI
     have := S_3.get (.head _)
     rw [e] at this; cases this
     exact S5.get (.head _)
    ·cases hg : g.get? b with
     | some o0 =>
      have := S_3.base hg
      rw [e] at this; cases this
      exact S5.base hg
     | none =>
      obtain ⟨o0, ho0⟩ := hkeep b hb hbI hg
      have := S_3.get (.tail _ (.tail _ (.tail _ (ho0 _ _ _ hJ))))
      rw [e] at this; cases this
      exact S5.get (.tail _ (.tail _ (.tail _ (ho0 _ _ _ hJ5))))
   refine wpAny_mono (turn i v hlt hPv r I it2 H2.objs.size oC_3 _ s.heap.objs.size _ _ hJ hoC_3 (by simp) S_3).run (fun y s5 h_5 => ?_) fun _ _ e => e.elim
   obtain ⟨rfl, r_2, S5, hJ5⟩ := h_5
   refine add_true S5 (.tail _ (.tail _ (.head _))) (.tail (.tail .head)) fun s6 S6 => ?_
   exact hPT (n + 1 - (i + 1)) _ (by with_reducible exact n21 (by assumption)) ⟨it2, i + 1, oC_3, _, r_2, hlt, rfl, keepSt S6 hJ5, hoC_3, S6, hJ5⟩
  ·obtain rfl : i = n := Nat.le_antisymm hi (Nat.not_lt.mp hlt)
   refine W.done _ _ _ hst' fun h_2 tk2 hk_2 => ?_
   exact done _ _ oC mC r _ hJ hoC (S'.dropB tk2 hk_2)
 exact codeAny_compStart_set loop (W.self 0 _ _ _ hst1 loop)
theorem src_seqG {TP : Nat → Value → (List Value → List (Addr × Obj) → Prop) → (Nat → List Value → List (Addr × Obj) → Prop) → Prop} {J : Nat → List Value → List (Addr × Obj) → Prop} {l : Addr} {lo : Obj} {vs : List Value}
  (hh : A.handled = none) (hq : IsSeq lo vs) (S : Stt s0 g L m rest s) (hl : g.get? l = some lo ∨ ∀ i ys r, J i ys r → (l, lo) ∈ r) (hsz : vs.length ≤ sizeLine) (h0 : J 0 [] rest)
  (turn : ∀ i v, vs[i]? = some v → TP i v (J i) J) :
  wpAny (model prog w) A (pyIter (.ref l)) (fun iv s' => CSrc prog w A s0 g L m TP J vs.length iv s') E s := by
 have hlo : s.heap.get? l = some lo := hl.elim (fun e => S.base e) fun e => S.get (e _ _ _ h0)
 have hlt := Heap.lt_size hlo
 have hne : l ≠ s.heap.objs.size := Nat.ne_of_lt hlt
 have keep : ∀ b ∈ [s.heap.objs.size, l], b ≠ s.heap.objs.size → g.get? b = none → ∃ o, ∀ i ys r, J i ys r → (b, o) ∈ r := fun b hb hbI hg => by
  rcases List.mem_cons.mp hb with e | hb
  ·exact absurd e hbI
  ·obtain rfl := List.mem_singleton.mp hb
   rcases hl with e | e
   ·rw [hg] at e; cases e
   ·exact ⟨lo, e⟩
 have fpl : ∀ (o : Obj), ∀ b ∈ [s.heap.objs.size, l], b < (s.heap.push o).objs.size := fun o b hb => by
  rw [Heap.size_push]
  rcases List.mem_cons.mp hb with rfl | hb
  ·exact Nat.lt_succ_self _
  ·rw [List.mem_singleton.mp hb]; exact Nat.lt_succ_of_lt hlt
 obtain ⟨hc | hc, n, hd⟩ := hq
 ·have hls : s.heap.IsList l vs.toArray := ⟨lo, hlo, hc, n, hd⟩
  have W := Walks.list (prog := prog) (w := w) hh s.heap.objs.size l hne vs.toArray
  rw [List.size_toArray] at W
  refine wpAny_pyIter_list hls ⟨_, _, _, _, _, rest, rfl, W, hsz, fun i h ⟨⟨o, e, _⟩, _⟩ => ⟨o, e⟩, S.push _ s.toks, ⟨⟨_, Heap.get?_push_size _ rfl, rfl, rfl⟩, hls.at fun o e => Heap.get?_push_of_some _ e⟩, fpl _, keep, h0, fun i v _ hv => turn i v (by simpa using hv)⟩
 ·have hls : s.heap.IsTuple l vs.toArray := ⟨lo, hlo, hc, n, hd⟩
  have W := Walks.tuple (prog := prog) (w := w) hh s.heap.objs.size l hne vs.toArray
  rw [List.size_toArray] at W
  refine wpAny_pyIter_tuple hls ⟨_, _, _, _, _, rest, rfl, W, hsz, fun i h ⟨⟨o, e, _⟩, _⟩ => ⟨o, e⟩, S.push _ s.toks, ⟨⟨_, Heap.get?_push_size _ rfl, rfl, rfl⟩, hls.push _⟩, fpl _, keep, h0, fun i v _ hv => turn i v (by simpa using hv)⟩
inductive PSComp (prog : Program) (w : World) (A : Around) (env : Env) (elt : Expr) (x : Str) (scope : Scope) (cl : List (Str × Addr)) (Q : VP) (E : VP) (xv : Value) (s_1 : Shared) : Prop
 | mk (s0 : Shared) (g : Heap) (L : Addr) (m : SM) (J : Nat → List Value → List (Addr × Obj) → Prop) (n : Nat) (h1 : wpAny (model prog w) A (pyIter xv) (fun iv s_2 => CSrc prog w A s0 g L m (TTurn prog w A s0 g L m env x scope cl elt) J n iv s_2) E s_1) (h2 : ∀ D r s', J n [] r → Stt s0 g L m ((D, setT (!w.params.followText "set-order") n) :: r) s' → Q (.ref D) s') : PSComp prog w A env elt x scope cl Q E xv s_1
theorem q_scomp {env : Env} {elt iter : Expr} {x : Str} {px : Pos} {scope : Scope} {cl : List (Str × Addr)} {pos : Pos} {Q : VP}
  (hclos : closureFor scope env = pure cl)
  (h : WP (model prog w) A (eval iter env) (PSComp prog w A env elt x scope cl Q E) E s)
  (hcell : (scope.names.all fun y => y.2 != .cell) = true := by exact rfl) (hkind : scope.kind = .function := by exact rfl)
  (hnames : (scope.names.all fun y => y.2 != .local || scope.names.lookup y.1 == some .local) = true := by exact rfl) (hx : scope.names.lookup x = some .local := by exact rfl)
  (hs : ∀ x, foldedSetIterable iter env x = pure x := by intro _; exact rfl) :
  WP (model prog w) A (eval (.SetComp elt [⟨.Name x px, iter, [], 0⟩] scope pos) env) Q E s := by
 refine ⟨?_⟩
 rw [arm_eval_SetComp]
 simp only [List.all_eq_true] at hcell hnames
 refine wpAny_comprehension_free (use := none) rfl hs hclos hkind (fun y hy hl => by simpa [hl] using hnames y hy) (wpAny_mono h.run (fun xv s_1 h_1 => ?_) fun _ _ e => e)
 refine byG fun GG hGG => ?_
 obtain ⟨s0, g, L, m, J, n, hsrc, fin⟩ := h_1
 refine hGG ?_
 clear hGG GG
 refine wpAny_mono hsrc (fun iv s_2 K => comp_blockT K (fun y hy => by simpa using hcell y hy) hkind hx ?_) fun _ _ e => e
 intro D C oC mC r s' hJ hoC S'
 exact ⟨mC, hoC.ns (S'.get (.head _)), fun h' hs' => fin D r _ hJ (S'.drop s'.toks hs')⟩
end
end
section
open PyProof.Rows.TI
open AutoSeq1 (wpAny_loadPart')
theorem slot_map_iter : Slot "map" "__iter__" "map.__iter__" :=
 .of (owner := "map") (n := "__iter__") (by rw [typeLookup_type, builtinLookup_eq_fast]; kernel_rfl) (by decide +kernel) (by decide +kernel) (by decide +kernel)
  (by first | exact .inl (by decide +kernel) | exact .inr (by decide +kernel)) (by rw [isSubtype_type]; kernel_rfl)
theorem slot_map_next : Slot "map" "__next__" "map.__next__" :=
 .of (owner := "map") (n := "__next__") (by rw [typeLookup_type, builtinLookup_eq_fast]; kernel_rfl) (by decide +kernel) (by decide +kernel) (by decide +kernel)
  (by first | exact .inl (by decide +kernel) | exact .inr (by decide +kernel)) (by rw [isSubtype_type]; kernel_rfl)
theorem slot_map_init : Slot "map" "__init__" "object.__init__" :=
 .of (owner := "object") (n := "__init__") (by rw [typeLookup_type, builtinLookup_eq_fast]; kernel_rfl) (by decide +kernel) (by decide +kernel) (by decide +kernel)
  (by first | exact .inl (by decide +kernel) | exact .inr (by decide +kernel)) (by rw [isSubtype_type]; kernel_rfl)
theorem entry_map_iter : entryFor table "map.__iter__" = some Builtin.«dict_keyiterator.__iter__» :=
 entryFor_alias (id' := "dict_keyiterator.__iter__") (by kernel_rfl) (by first | rfl | decide +kernel | (unfold String.splitOn; simp +decide [String.splitOnAux])) (by decide +kernel) (by kernel_rfl)
theorem entry_map_next : entryFor table "map.__next__" = some Builtin.«map.__next__» := entryFor_of_tree (by kernel_rfl)
theorem args_map_iter (a : Value) : argsOk "map.__iter__" ⟨[a], []⟩ := by unfold argsOk; kernel_rfl
theorem args_map_next (a : Value) : argsOk "map.__next__" ⟨[a], []⟩ := by unfold argsOk; kernel_rfl
theorem mro_map : mroOf (.type "map") = pure [.type "map", .type "object"] := by rw [mroOf_type]; kernel_rfl
theorem lookup_map_new : typeLookup (.type "map") "__new__" = pure (some (.builtin "map.__new__")) := by rw [typeLookup_type, builtinLookup_eq_fast]; kernel_rfl
theorem called_map : TypeCalled "map" "map.__new__" "object.__init__" :=
 ⟨by decide +kernel, by decide +kernel, ⟨_, _, mro_map⟩, madeBy_type mro_map lookup_map_new (by decide +kernel), by decide +kernel, by rw [isSubtype_type]; kernel_rfl, slot_map_init⟩
theorem typeCall_map (a b : Value) : checkTypeCall "map" ⟨[a, b], []⟩ = pure () := by kernel_rfl
theorem newCall_map (a b : Value) : checkBuiltinCall "map.__new__" ⟨[.type "map", a, b], []⟩ = pure () := by kernel_rfl
theorem entry_map_new : entryFor table "map.__new__" = some Builtin.«map.__new__» := entryFor_of_tree (by kernel_rfl)
theorem sub_map : isSubtype (.type "map") (.type "map") = pure true := by rw [isSubtype_type]; kernel_rfl
theorem map_no_len : typeLookup (.type "map") "__len__" = pure none := by rw [typeLookup_type, builtinLookup_eq_fast]; kernel_rfl
theorem map_no_hint : typeLookup (.type "map") "__length_hint__" = pure none := by rw [typeLookup_type, builtinLookup_eq_fast]; kernel_rfl
theorem args_obj_init_map (obj : Value) (a b : Value) : argsOk "object.__init__" ⟨[obj, a, b], []⟩ := by unfold argsOk; kernel_rfl
noncomputable abbrev mapObj (T : Addr) (f : Value) : Obj := { cls := .type "map", data := .fields #[.ref T, f] }
noncomputable abbrev listIt (l : Addr) (i : Int) : Obj := { cls := .type "list_iterator", data := .fields #[.ref l, .int i 0] }
theorem meets_map_new (f : Value) (l : Addr) (items : Array Value) (n : Nat) (dct : Option Addr) (sl : Array (Option Value)) :
  Meets (Builtin.«map.__new__» ⟨[.type "map", f, .ref l], []⟩) (fun _ R s => s.heap.get? l = some { cls := .type "list", dict := dct, data := .seq items n, slots := sl } ∧
   R (.ok (.ret (.ref ((s.heap.push (listIt l 0)).push (tupObj [.ref s.heap.objs.size])).objs.size)))
    { s with heap := ((s.heap.push (listIt l 0)).push (tupObj [.ref s.heap.objs.size])).push (mapObj (s.heap.push (listIt l 0)).objs.size f) }) :=
 .of_wp fun prog w A R s h => by
  obtain ⟨hp, g, d, tk, os⟩ := s; obtain ⟨hl, h⟩ := h
  have hsub := sub_map
  have hL : Heap.IsList (Shared.heap ⟨hp, g, d, tk, os⟩) l items := ⟨_, hl, rfl, n, rfl⟩
  wp_walk using wpAny_loadPart' hl, wpAny_pyIter_list hL
  exact ⟨_, rfl, h⟩
section
variable {prog : Program} {w : World} {A : Around} {E : VP} {s0 s : Shared} {g : Heap} {L : Addr} {m : SM} {news news' r : LD}
theorem call_map {l : Addr} {f : Value} {items : Array Value} {Q : VP} (S : Stt s0 g L m r s) (hL : s.heap.IsList l items)
  (h : ∀ I T M s', Stt s0 g L m ((I, listIt l 0) :: (T, tupObj [.ref I]) :: (M, mapObj T f) :: r) s' → (∀ b o, s.heap.get? b = some o → s'.heap.get? b = some o) → Q (.ref M) s') :
  wpAny (model prog w) A (call (.type "map") [f, .ref l]) Q E s := by
 obtain ⟨⟨c, dct, dt, sl⟩, hl, hc, n, hd⟩ := hL
 replace hc : c = .type "list" := hc
 replace hd : dt = .seq items n := hd
 subst hc hd
 refine callType_new called_map (by decide) (typeCall_map _ _) (newCall_map _ _) (fun obj => args_obj_init_map obj _ _) entry_map_new
  (meets_map_new f l items n dct sl) ⟨hl, ⟨_, Heap.get?_push_size _ rfl, rfl⟩, ?_⟩
 have S1 := S.push (listIt l 0) s.toks
 have S2 := S1.push (tupObj [.ref s.heap.objs.size]) s.toks
 have S3 := S2.push (mapObj (s.heap.push (listIt l 0)).objs.size f) s.toks
 refine h s.heap.objs.size (s.heap.push (listIt l 0)).objs.size ((s.heap.push (listIt l 0)).push (tupObj [.ref s.heap.objs.size])).objs.size _ (S3.perm ?_) fun b o x => Heap.get?_push_of_some _ (Heap.get?_push_of_some _ (Heap.get?_push_of_some _ x))
 exact ((List.reverse_perm [(s.heap.objs.size, listIt l 0), ((s.heap.push (listIt l 0)).objs.size, tupObj [.ref s.heap.objs.size]), (((s.heap.push (listIt l 0)).push (tupObj [.ref s.heap.objs.size])).objs.size, mapObj (s.heap.push (listIt l 0)).objs.size f)]).symm).append_right r
theorem pyNext_map_item {I T M l : Addr} {f x : Value} {it : Obj} {i : Nat} {items : Array Value} {Q : Option Value → Shared → Prop}
  (S : Stt s0 g L m ((I, it) :: (T, tupObj [.ref I]) :: (M, mapObj T f) :: r) s) (hit : s.heap.IsListIter I l i) (hl : s.heap.IsList l items) (hx : items[i]? = some x) (hne : l ≠ I)
  (hcall : ∀ s' it' E', Stt s0 g L m ((I, it') :: (T, tupObj [.ref I]) :: (M, mapObj T f) :: r) s' → s'.heap.IsListIter I l (i + 1) → s'.heap.IsList l items → wpAny (model prog w) A.in1 (call f [x]) (fun y s'' => Q (some y) s'') E' s') :
  wpAny (model prog w) A (pyNext (.ref M)) Q E s := by
 have hM := S.get (.tail _ (.tail _ (.head _)))
 have hT : s.TypeIs (.ref M) "map" := ⟨_, hM, rfl⟩
 unfold pyNext
 refine wpAny_bind (wpAny_attempt (wpAny_callSpecial?_slot (name := Str.ofString "__next__") hT slot_map_next
  (wpAny_call_entry slot_map_next hT entry_map_next ?_ (args_map_next _))))
 show wpAny _ _ (field (.ref M) 0 >>= _) _ _ s
 refine wpAny_bind (wpAny_field hM rfl (x := .ref T) rfl ?_)
 show wpAny _ _ (seqItems? (.ref T) >>= _) _ _ s
 refine wpAny_bind (wpAny_seqItems (S.get (.tail _ (.head _))) rfl ?_)
 dsimp only
 simp only [← Array.forIn_toList, List.toList_toArray, List.forIn_cons, List.forIn_nil, bind_assoc, pure_bind]
 refine wpAny_bind (wpAny_holding (wpAny_nextOf_list_item hit hl hx fun h' hit' hs' => ?_))
 obtain ⟨it', e', r'⟩ := id hit'
 have S' := S.walked (h' := h') s.toks (fun b o hb e => hs'.extBut b o (fun q => hb (List.mem_singleton.mpr q)) e) e'
 have hl' : h'.IsList l items := hl.at fun o e => hs'.extBut l o hne e
 show wpAny _ _ (field (.ref M) 1 >>= _) _ _ _
 refine wpAny_bind (wpAny_field (S'.get (.tail _ (.tail _ (.head _)))) rfl (x := f) rfl ?_)
 refine wpAny_bind (wpAny_holding (wpAny_mono (hcall _ _ _ S' hit' hl') (fun y s'' hq => ?_) fun _ _ e => e))
 refine wpAny_bind (wpAny_letGo ?_)
 exact wpAny_pure ⟨_, rfl, wpAny_pure hq⟩
theorem pyNext_map_end {I T M l : Addr} {f : Value} {it : Obj} {i : Nat} {items : Array Value} {Q : Option Value → Shared → Prop} (hh : A.handled = none)
  (S : Stt s0 g L m ((I, it) :: (T, tupObj [.ref I]) :: (M, mapObj T f) :: r) s) (hit : s.heap.IsListIter I l i) (hl : s.heap.IsList l items) (hx : items[i]? = none)
  (h : ∀ s', Stt s0 g L m r s' → Q none s') : wpAny (model prog w) A (pyNext (.ref M)) Q E s := by
 have hM := S.get (.tail _ (.tail _ (.head _)))
 have hT : s.TypeIs (.ref M) "map" := ⟨_, hM, rfl⟩
 unfold pyNext
 refine wpAny_bind (wpAny_attempt (wpAny_callSpecial?_slot (name := Str.ofString "__next__") hT slot_map_next
  (wpAny_call_entry slot_map_next hT entry_map_next ?_ (args_map_next _))))
 show wpAny _ _ (field (.ref M) 0 >>= _) _ _ s
 refine wpAny_bind (wpAny_field hM rfl (x := .ref T) rfl ?_)
 show wpAny _ _ (seqItems? (.ref T) >>= _) _ _ s
 refine wpAny_bind (wpAny_seqItems (S.get (.tail _ (.head _))) rfl ?_)
 dsimp only
 simp only [← Array.forIn_toList, List.toList_toArray, List.forIn_cons, List.forIn_nil, bind_assoc, pure_bind]
 refine wpAny_bind (wpAny_holding (wpAny_nextOf_list_end hh hit hl hx fun h' x he' hx' => ?_))
 obtain ⟨o, ho, hc⟩ := hx'
 refine wpAny_bind (wpAny_isInstance (T := "StopIteration") (b := true) ⟨o, ho, hc⟩ isSubtype_stop ?_)
 exact wpAny_pure (h _ ((S.dropB s.toks fun b o hb e => he' b o (fun q => hb (List.mem_singleton.mpr q)) e).sub (.cons _ (.cons _ (List.Sublist.refl _)))))
noncomputable def CallsId (prog : Program) (w : World) (A : Around) (s0 : Shared) (g : Heap) (L : Addr) (m : SM) (f : Value) (items : List Value) : Prop :=
 ∀ (B : Around), B.frames = A.frames → B.handled = A.handled → B.depth = A.depth → ∀ x ∈ items, ∀ news s E Q, Stt s0 g L m news s → (∀ s', Stt s0 g L m news s' → Q x s') → wpAny (model prog w) B (call f [x]) Q E s
theorem CallsId.at {A B : Around} {f : Value} {items : List Value} (h : CallsId prog w A s0 g L m f items) (e1 : B.frames = A.frames) (e2 : B.handled = A.handled) (e3 : B.depth = A.depth) : CallsId prog w B s0 g L m f items :=
 fun C c1 c2 c3 => h C (c1.trans e1) (c2.trans e2) (c3.trans e3)
theorem codeAny_ext_map {R : Result → Shared → Prop} {I T M l D : Addr} {f : Value} {vs : List Value} (hh : A.handled = none) (hf : CallsId prog w A s0 g L m f vs) (hl : ∀ s, Stt s0 g L m r s → s.heap.IsList l vs.toArray) (hne : l ≠ I) (hn : vs.length ≤ sizeLine) (res : Value) :
  ∀ (k i : Nat) (s : Shared) (it : Obj) (c : Nat), vs.length - i = k → i ≤ vs.length → Stt s0 g L m ((D, W.listOf (vs.take i).toArray c) :: (I, it) :: (T, tupObj [.ref I]) :: (M, mapObj T f) :: r) s → s.heap.IsListIter I l i →
  (∀ s' c', Stt s0 g L m ((D, W.listOf vs.toArray c') :: r) s' → R (.ok (.ret res)) s') →
  codeAny (model prog w) A (.builtin "list.extend.loop" ⟨[.ref D, .ref M, res], []⟩) R s := by
 intro k
 induction k with
 | zero =>
  intro i s it c hk hi S hit hR
  have hin : i = vs.length := by omega
  subst hin
  refine codeAny_builtin F.entry_extend_loop ?_
  rw [Around.under_plainId F.plain_extend_loop _]
  show wpAny _ A.in1 (pyNext (.ref M) >>= _) _ _ s
  have S' := S.perm (news' := (I, it) :: (T, tupObj [.ref I]) :: (M, mapObj T f) :: (D, W.listOf (vs.take vs.length).toArray c) :: r) (List.perm_middle (l₁ := [(I, it), (T, tupObj [.ref I]), (M, mapObj T f)]))
  refine wpAny_bind (pyNext_map_end hh S' hit (hl s (S.sub (.cons _ (.cons _ (.cons _ (.cons _ (List.Sublist.refl _))))))) (by simp) fun s' S_1 => ?_)
  rw [List.take_length] at S_1
  exact wpAny_pure (hR s' c S_1)
 | succ k ih =>
  intro i s it c hk hi S hit hR
  have hlt : i < vs.length := by omega
  have hx : vs[i]? = some vs[i] := List.getElem?_eq_getElem hlt
  refine codeAny_builtin F.entry_extend_loop ?_
  rw [Around.under_plainId F.plain_extend_loop _]
  show wpAny _ A.in1 (pyNext (.ref M) >>= _) _ _ s
  have S' := S.perm (news' := (I, it) :: (T, tupObj [.ref I]) :: (M, mapObj T f) :: (D, W.listOf (vs.take i).toArray c) :: r) (List.perm_middle (l₁ := [(I, it), (T, tupObj [.ref I]), (M, mapObj T f)]))
  refine wpAny_bind (pyNext_map_item (x := vs[i]) S' hit (hl s (S.sub (.cons _ (.cons _ (.cons _ (.cons _ (List.Sublist.refl _))))))) (by simpa using hx) hne fun s_1 it1 E1 S_1 hit1 hl_1 => ?_)
  refine hf A.in1.in1 rfl rfl rfl _ (List.getElem_mem hlt) _ _ _ _ S_1 fun s_2 S_2 => ?_
  obtain ⟨o1, ho_1, hr1⟩ := hit1
  have hit2 : s_2.heap.IsListIter I l (i + 1) := ⟨o1, by have := S_1.get (.head _); rw [ho_1] at this; cases this; exact S_2.get (.head _), hr1⟩
  have hlen : (vs.take i).toArray.size = i := by simp; omega
  show wpAny _ A.in1 (updateSeq D (·.push vs[i]) >>= _) _ _ _
  have hD := S_2.get (.tail _ (.tail _ (.tail _ (.head _))))
  have hpush : (vs.take i).toArray.push vs[i] = (vs.take (i + 1)).toArray := by
   rw [List.push_toArray, List.take_succ_eq_append_getElem hlt]
  have S_3 := S_2.upd (f := Obj.mapSeq (·.push vs[i])) (o' := W.listOf (vs.take (i + 1)).toArray (c + 1)) s_2.toks (.tail (.tail (.tail .head))) (by rw [← hpush]; simp only [Obj.mapSeq, W.listOf]; rw [Array.size_push, if_neg (by simp)])
  refine wpAny_bind (wpAny_updateSeq hD rfl (wpAny_pure ⟨plainId_quiet F.plain_extend_loop _, ih (i + 1) _ it1 _ (by omega) hlt (S_3.perm (List.perm_middle (l₁ := [(I, it1), (T, tupObj [.ref I]), (M, mapObj T f)])).symm) ?_ hR⟩) (by rw [hlen]; omega) (by show ((vs.take i).toArray.push vs[i]).size ≤ _; rw [Array.size_push, hlen]; omega))
  obtain ⟨o2, ho_2, hr_2⟩ := hit2
  exact ⟨o2, by have := S_2.get (.head _); rw [ho_2] at this; cases this; exact S_3.get (.head _), hr_2⟩
theorem wpAny_collect_map {I T M l : Addr} {f : Value} {vs : List Value} {it : Obj} {Q : List Value → Shared → Prop} (hh : A.handled = none) (hf : CallsId prog w A s0 g L m f vs) (hl : ∀ s, Stt s0 g L m r s → s.heap.IsList l vs.toArray) (hne : l ≠ I) (hn : vs.length ≤ sizeLine)
  (S : Stt s0 g L m ((I, it) :: (T, tupObj [.ref I]) :: (M, mapObj T f) :: r) s) (hit : s.heap.IsListIter I l 0) (h : ∀ s', Stt s0 g L m r s' → Q vs s') : wpAny (model prog w) A (collect (.ref M)) Q E s := by
 have hM := S.get (.tail _ (.tail _ (.head _)))
 have hDM : s.heap.objs.size ≠ M := Nat.ne_of_gt (Heap.lt_size hM)
 have hDI : s.heap.objs.size ≠ I := Nat.ne_of_gt (Heap.lt_size (S.get (.head _)))
 have tM : ∀ s', Stt s0 g L m ((s.heap.objs.size, W.listOf #[] 0) :: (I, it) :: (T, tupObj [.ref I]) :: (M, mapObj T f) :: r) s' → s'.TypeIs (.ref M) "map" := fun s' S' => ⟨_, S'.get (.tail _ (.tail _ (.tail _ (.head _)))), rfl⟩
 unfold collect
 refine wpAny_bind (wpAny_runValue (codeAny_builtin F.entry_proto_collect ?_))
 rw [Around.under_plainId F.plain_proto_collect _]
 show wpAny _ A.in1 (newList [] >>= fun l => again (.builtin "list.__iadd__" ⟨[l, .ref M], []⟩)) _ _ s
 refine wpAny_bind (wpAny_newObj_type ?_)
 refine wpAny_pure ⟨plainId_quiet F.plain_list_iadd _, codeAny_builtin F.entry_list_iadd ?_⟩
 rw [Around.under_plainId F.plain_list_iadd _]
 have S_1 : Stt s0 g L m ((s.heap.objs.size, W.listOf #[] 0) :: (I, it) :: (T, tupObj [.ref I]) :: (M, mapObj T f) :: r) { s with heap := s.heap.push (W.listOf #[] 0) } := S.push _ s.toks
 show wpAny _ A.in1 (Builtin.List.listExtendWith (.ref s.heap.objs.size) (.ref M) (.ref s.heap.objs.size)) _ _ { s with heap := s.heap.push (W.listOf #[] 0) }
 unfold Builtin.List.listExtendWith
 refine wpAny_bind (wpAny_typeOf (tM _ S_1) ?_)
 have h1 : Builtin.List.listSameRef (.ref s.heap.objs.size) (.ref M) = false := by simp [Builtin.List.listSameRef, hDM]
 have h2 : (Value.type "map" == Value.type "list") = false := by decide
 have h3 : (Value.type "map" == Value.type "tuple") = false := by decide
 simp only [h1, h2, h3, Bool.or_false, Bool.false_eq_true, if_false]
 refine wpAny_bind (wpAny_pyIter_slot (tM _ S_1) slot_map_iter (wpAny_call_entry slot_map_iter (tM _ S_1) entry_map_iter ?_ (args_map_iter _)))
 refine wpAny_pure ⟨_, rfl, "map", _, tM _ S_1, slot_map_next.lookup, ?_⟩
 refine wpAny_bind (wpAny_holding ?_)
 unfold Builtin.List.listLengthHint
 refine wpAny_bind (wpAny_specialOf (tM _ S_1) map_no_len ?_)
 show wpAny _ A.in1 (specialOf (Value.ref M) (Str.ofString "__length_hint__") >>= _) _ _ _
 refine wpAny_bind (wpAny_specialOf (tM _ S_1) map_no_hint ?_)
 refine wpAny_pure ?_
 show wpAny _ A.in1 (rule "list.extend.makes-room" >>= fun _ => Builtin.List.listTouch (.ref s.heap.objs.size) >>= fun _ =>
  again (.builtin "list.extend.loop" ⟨[.ref s.heap.objs.size, .ref M, .ref s.heap.objs.size], []⟩)) _ _ _
 refine wpAny_bind (wpAny_rule ?_)
 refine wpAny_bind ?_
 show wpAny _ A.in1 (updateSeq s.heap.objs.size (·.push .none) >>= fun _ => updateSeq s.heap.objs.size (·.pop)) _ _ _
 refine wpAny_bind (wpAny_updateSeq (S_1.get (.head _)) rfl ?_)
 have S_2 := S_1.upd (f := Obj.mapSeq (·.push Value.none)) (o' := W.listOf #[.none] 1) s.toks .head (by rfl)
 refine wpAny_updateSeq (S_2.get (.head _)) rfl ?_
 have S_3 := S_2.upd (f := Obj.mapSeq (·.pop)) (o' := W.listOf #[] 2) s.toks .head (by rfl)
 have hit3 : ({ s with heap := ((s.heap.push (W.listOf #[] 0)).update s.heap.objs.size (Obj.mapSeq (·.push Value.none))).update s.heap.objs.size (Obj.mapSeq (·.pop)) } : Shared).heap.IsListIter I l 0 := by
  obtain ⟨o, ho, hr⟩ := hit
  have := S.get (.head _)
  rw [ho] at this; cases this
  exact ⟨_, S_3.get (.tail _ (.head _)), hr⟩
 refine wpAny_pure ⟨plainId_quiet F.plain_extend_loop _, codeAny_ext_map hh (hf.at rfl rfl rfl) hl hne hn _ _ 0 _ it 2 rfl (Nat.zero_le _) S_3 hit3 fun s' c' S' => ?_⟩
 show wpAny _ A (load s.heap.objs.size >>= _) _ _ s'
 refine wpAny_bind (wpAny_load (S'.get (.head _)) ?_)
 exact wpAny_pure (h s' (S'.sub (List.sublist_cons_self _ _)))
theorem call_tuple_map {I T M l : Addr} {f : Value} {vs : List Value} {it : Obj} {Q : VP} (hh : A.handled = none) (hf : CallsId prog w A s0 g L m f vs) (hl : ∀ s, Stt s0 g L m r s → s.heap.IsList l vs.toArray) (hne : l ≠ I) (hn : vs.length ≤ 1000)
  (S : Stt s0 g L m ((I, it) :: (T, tupObj [.ref I]) :: (M, mapObj T f) :: r) s) (hit : s.heap.IsListIter I l 0) (h : ∀ t s', Stt s0 g L m ((t, tupObj vs) :: r) s' → Q (.ref t) s') : wpAny (model prog w) A (call (.type "tuple") [.ref M]) Q E s := by
 have hn' : vs.length ≤ sizeLine := Nat.le_trans hn (by decide)
 have hTI : s.TypeIs (.ref M) "map" := ⟨_, S.get (.tail _ (.tail _ (.head _))), rfl⟩
 refine callType_codes (Q₁ := fun obj s_1 => s_1.TypeIs obj "tuple" ∧ Q obj s_1) F.called_tuple (F.typeCall_tuple_1 _) F.entry_object_init ?_ fun obj s_1 h_1 => ⟨h_1.1, F.args_object_init_2 obj _, object_init_meets F.called_tuple.init.lookup F.called_tuple.made (by decide) prog w A.in1 _ s_1 ⟨h_1.1, rfl, h_1.2⟩⟩
 refine codeAny_of_tree ?_
 show wpAny _ A.in1.in1 (do checkBuiltinCall "tuple.__new__" ⟨[.type "tuple", .ref M], []⟩; again (.builtin "tuple.__new__" ⟨[.type "tuple", .ref M], []⟩)) _ _ s
 refine wpAny_bind (wpAny_of_eq (F.newCall_tuple_1 _) (wpAny_pure ⟨plainId_quiet F.plain_tuple_new _, codeAny_builtin F.entry_tuple_new ?_⟩))
 rw [Around.under_plainId F.plain_tuple_new _]
 have hsub := sub_tuple_self
 have hinit := init_tuple_lookup
 have hmh := madeHere_tuple
 have hcol : ∀ {Q : List Value → Shared → Prop} {E : VP}, (∀ s', Stt s0 g L m r s' → Q vs s') → wpAny (model prog w) A.in1.in1 (collect (.ref M)) Q E s := fun {Q E} k => wpAny_collect_map hh (hf.at rfl rfl rfl) hl hne hn' S hit k
 wp_walk using wpAny_typeOf hTI, hcol
 intro s' S'
 show wpAny _ _ (Builtin.Tuple.tupleExact vs.toArray >>= fun v => ret v) _ _ _
 unfold Builtin.Tuple.tupleExact
 refine wpAny_bind (wpAny_newObj_type ?_ (by show vs.toArray.size ≤ sizeLine; simpa using hn'))
 exact wpAny_pure ⟨⟨_, Heap.get?_push_size _ rfl, rfl⟩, h _ _ (S'.push _ s'.toks)⟩
end
end
section
open PyProof.Rows.TI
noncomputable abbrev enumO (it : Addr) (i : Int) (old : Value) : Obj := { cls := .type "enumerate", dict := none, data := .fields #[.none, .bool false, .ref it, rawInt i, .none, old], slots := #[] }
section
variable {s0 s : Shared} {g : Heap} {L a b : Addr} {m : SM} {r : LD} {oa ob oa' ob' : Obj}
theorem Stt.two (S : Stt s0 g L m ((a, oa) :: (b, ob) :: r) s) {h' : Heap} (tk : Nat) (hk : ∀ c o, c ≠ a → c ≠ b → s.heap.get? c = some o → h'.get? c = some o) (ha : h'.get? a = some oa') (hb : h'.get? b = some ob') :
  Stt s0 g L m ((a, oa') :: (b, ob') :: r) { s with heap := h', toks := tk } := by
 have Da := S.led _ (.head _)
 have Db := S.led _ (.tail _ (.head _))
 have nd := S.nd
 simp only [List.map_cons, List.nodup_cons, List.mem_cons, not_or] at nd
 refine ⟨same_of S.same, ⟨S.fr.ns.at' fun o e => hk L o (Ne.symm Da.2.1) (Ne.symm Db.2.1) e, fun c oc e => hk c oc (fun q => ?_) (fun q => ?_) (S.fr.keep c oc e), S.fr.above⟩, fun p hp => ?_, S.nd⟩
 ·rw [q, Da.2.2] at e; cases e
 ·rw [q, Db.2.2] at e; cases e
 ·rcases List.mem_cons.mp hp with rfl | hp
  ·exact ⟨ha, Da.2⟩
  rcases List.mem_cons.mp hp with rfl | hp
  ·exact ⟨hb, Db.2⟩
  ·have P := S.led p (.tail _ (.tail _ hp))
   exact ⟨hk _ _ (fun q => nd.1.2 (by rw [← q]; exact List.mem_map_of_mem hp)) (fun q => nd.2.1 (by rw [← q]; exact List.mem_map_of_mem hp)) P.1, P.2⟩
end
noncomputable def EPost (s0 : Shared) (g : Heap) (L e I : Addr) (eo io : Obj) (J : (SM) → List (Addr × Obj) → Prop) (Q : FP) (f : Flow) (s : Shared) : Prop :=
 match f with
 | .ret v => Q (.ret v) s
 | .brk => Q .next s
 | _ => Ex2 fun m r => And (Stt s0 g L m ((e, eo) :: (I, io) :: r) s) (J m r)
section
variable {prog : Program} {w : World} {A : Around} {env : Env} {g base : Heap} {outer : List Env} {nm : List Str} {G : SV}
 {E : VP} {s0 s : Shared} {m : SM} {rest : LD}
theorem q_enum {l : Addr} {vs : List Value} {Q : VP} {L : Addr} (S : Stt s0 g L m rest s) (hL : s.heap.IsList l vs.toArray)
  (h : ∀ e I s', Stt s0 g L m ((e, enumO I 0 .none) :: (I, listIt l 0) :: rest) s' → Q (.ref e) s') : WP (model prog w) A (call (.type "enumerate") [.ref l]) Q E s := by
 refine ⟨?_⟩
 obtain ⟨⟨c, dct, dt, sl⟩, hl, hc, n, hd⟩ := hL
 replace hc : c = .type "list" := hc
 replace hd : dt = .seq vs.toArray n := hd
 subst hc hd
 refine callType_new F.called_enumerate (by decide) (F.typeCall_enumerate_1 _) (F.newCall_enumerate_1 _) (fun obj => F.args_object_init_2 obj _) F.entry_enumerate_new
  (meets_enumerate_newL l vs.toArray n dct sl) ⟨hl, ⟨_, Heap.get?_push_size _ rfl, rfl⟩, ?_⟩
 have S1 := S.push (listIt l 0) s.toks
 have S2 := S1.push (enumO s.heap.objs.size 0 .none) s.toks
 exact h _ _ _ S2
inductive PForE (prog : Program) (w : World) (A : Around) (env : Env) (g : Heap) (xi : Str) (xv : Str) (body : List Stmt) (Q : FP) (xval : Value) (s_1 : Shared) : Prop
 | mk (s0 : Shared) (e : Addr) (I : Addr) (l : Addr) (vs : List Value) (J : Nat → (SM) → List (Addr × Obj) → Prop) (m : SM) (rest : LD) (h1 : xval = .ref e) (h2 : Stt s0 g env.locals m ((e, enumO I 0 .none) :: (I, listIt l 0) :: rest) s_1) (h3 : (∀ i m r, J i m r → ∃ n, (l, W.listOf vs.toArray n) ∈ r)) (h4 : J 0 m rest) (h5 : (∀ i v t m1 r_1 eo io s_2, vs[i]? = some v → J i m1 r_1 → Stt s0 g env.locals (fun y => if y = xv then some v else if y = xi then some (.int (i : Nat) t) else m1 y) ((e, eo) :: (I, io) :: r_1) s_2 →
    WP (model prog w) A (execs body env) (EPost s0 g env.locals e I eo io (J (i + 1)) Q) NE s_2)) (h6 : (∀ m1 r_1 s_2, J vs.length m1 r_1 → Stt s0 g env.locals m1 r_1 s_2 → Q .next s_2)) : PForE prog w A env g xi xv body Q xval s_1
noncomputable def BodyF (P : Shared → Prop) (R : Result → Shared → Prop) (f : Flow) (s3 : Shared) : Prop := match f with
 | .next | .cont => P s3
 | .brk => R (.ok .next) s3
 | .ret v => R (.ok (.ret v)) s3
noncomputable def TurnF (M : Model) (A : Around) (env : Env) (target : Expr) (it : Value) (body orelse : List Stmt) (P : Shared → Prop) (R : Result → Shared → Prop) (E : VP) (r : Option Value) (s_1 : Shared) : Prop := match r with
 | none => wpAny M A (execs orelse env) (fun f s3 => R (.ok f) s3) E s_1
 | some v => wpAny M A (letOwnedTupleGo target it v) (fun _ s1' => wpAny M A (assign target env v) (fun _ s_2 => wpAny M A (execs body env) (BodyF P R) E s_2) E s1') E s_1
theorem loop_for {target : Expr} {it : Value} {body orelse : List Stmt} {R : Result → Shared → Prop} (I : Nat → Shared → Prop)
  (turn : ∀ n s, I n s → ∀ (P : Shared → Prop) (E : VP), (∀ m s', m < n → I m s' → P s') → wpAny (model prog w) A (pyNext it) (TurnF (model prog w) A env target it body orelse P R E) E s)
  (n : Nat) (h : I n s) : codeAny (model prog w) A (.forLoop target it body orelse env) R s :=
 codeAny_forLoop_any I (fun n s hI => wpAny_mono (turn n s hI (fun s' => ∃ m, m < n ∧ I m s') _ fun m s' a b => ⟨m, a, b⟩) (fun r s_1 h => by
  cases r with
  | none => exact h
  | some v => exact wpAny_mono h (fun _ _ h => wpAny_mono h (fun _ _ h => wpAny_mono h (fun f _ h => by cases f <;> exact h) fun _ _ e => e) fun _ _ e => e) fun _ _ e => e) fun _ _ e => e) n h
theorem q_forE (C : Fm w A env g base outer nm G) {xi xv : Str} {pi pv pt pos : Pos} {x1} {iter : Expr} {body : List Stmt} {Q : FP} (hxi : xi ∈ nm) (hxv : xv ∈ nm)
  (h : WP (model prog w) A (eval iter env) (PForE prog w A env g xi xv body Q) NE s)
  (hs : ∀ x, foldedSetIterable iter env x = pure x := by intro _; exact rfl) :
  WP (model prog w) A (exec (.For (.Tuple [.Name xi pi, .Name xv pv] x1 pt) iter body [] pos) env) Q NE s := by
 refine ⟨wpAny_For (wpAny_mono h.run (fun xval s_1 h_1 => ?_) fun _ _ x => x.elim) hs⟩
 obtain ⟨s0, e, I, l, vs, J, m, rest, rfl, S, hl, h0, turn, done⟩ := h_1
 refine wpAny_pyIter_enum (it := I) (i := 0) (old := .none) (S.get (.head _)) ?_
 have hne : e ≠ I := by
  have nd := S.nd
  simp only [List.map_cons, List.nodup_cons, List.mem_cons, not_or] at nd
  exact nd.1.1
 refine loop_for
  (fun k s' => Ex5 fun i old io m' r => An5 (i ≤ vs.length) (k = vs.length + 1 - i) (Stt s0 g env.locals m' ((e, enumO I (i : Nat) old) :: (I, io) :: r) s') (s'.heap.IsListIter I l i) (J i m' r)) ?_ (vs.length + 1)
  ⟨0, .none, _, _, _, Nat.zero_le _, rfl, S, ⟨_, S.get (.tail _ (.head _)), rfl, rfl⟩, h0⟩
 rintro k s' hJJ PT ET hPT
 obtain ⟨i, old, io, m', r, hi, rfl, S', hit, hJ⟩ := hJJ
 obtain ⟨n, hlr⟩ := hl _ _ _ hJ
 have hll : s'.heap.IsList l vs.toArray := ⟨_, S'.get (.tail _ (.tail _ hlr)), rfl, n, rfl⟩
 have nd := S'.nd
 simp only [List.map_cons, List.nodup_cons, List.mem_cons, not_or] at nd
 have hle : l ≠ e := fun q => nd.1.2 (by rw [← q]; exact List.mem_map_of_mem hlr)
 have hli : l ≠ I := fun q => nd.2.1 (by rw [← q]; exact List.mem_map_of_mem hlr)
 have he := S'.get (.head _)
 cases hv : vs[i]? with
 | none =>
  have hsz : i = vs.length := Nat.le_antisymm hi (by simpa using hv)
  subst hsz
  refine wpAny_pyNext_enum_end C.hh he hit hll (by simp) fun h_1 he1 => wpAny_execs_nil ?_
  exact done _ _ _ hJ (((S'.sub (List.sublist_cons_self _ _)).dropB s'.toks fun b o hb e => he1 b o (fun q => hb (List.mem_singleton.mpr q)) e))
 | some v =>
  have hlt : i < vs.length := (List.getElem?_eq_some_iff.mp hv).1
  refine wpAny_pyNext_enum_item he hit hll (by simpa using hv) hne fun h_1 heo hit1 ht1 hz1 hk_1 => ?_
  refine wpAny_letOwnedTupleGo_enum heo fun h_2 he_2 hs2 => ?_
  replace hs2 : Heap.SameBut e h_1 h_2 := hs2
  obtain ⟨io2, hio1, hior⟩ := hit1
  have hio2 : h_2.get? I = some io2 := (hs2.2 I (Ne.symm hne)).trans hio1
  have heS : e < s'.heap.objs.size := Heap.lt_size he
  have ht2 : h_2.IsTuple s'.heap.objs.size #[.int i s'.toks, v] := ⟨_, (hs2.2 _ (Nat.ne_of_gt heS)).trans ht1, rfl, _, rfl⟩
  have S_2 := S'.two (s'.toks + 1) (fun c o hc hcI x => hs2.extBut c o hc (hk_1 c o hc hcI x)) he_2 hio2
  refine wpAny_assign_Tuple C.hh ht2 rfl rfl fun h_3 hx3 => ?_
  have hk_3 : ∀ b o, h_2.get? b = some o → h_3.get? b = some o := fun b o x => hx3 b o (Nat.ne_of_lt (Heap.lt_size x)) x
  have S_3 := S_2.keeps (s'.toks + 1) hk_3
  show wpAny _ A (do holding [v] (assign (.Name xi pi) env (.int i s'.toks)); do holding [] (assign (.Name xv pv) env v); pure ()) _ _ _
  refine wpAny_bind (wpAny_holding (wpAny_assign_Name (wpAny_storeName_local (C.loc xi hxi).1 S_3.fr.ns (fun h_4 hn4 hs4 => ?_) C.plain)))
  have S4 := S_3.ns (s'.toks + 1 + 1) hn4 hs4
  refine wpAny_bind (wpAny_holding (wpAny_assign_Name (wpAny_storeName_local (C.loc xv hxv).1 S4.fr.ns (fun h_5 hn5 hs5 => wpAny_pure ?_) C.plain)))
  have S5 := S4.ns (s'.toks + 1 + 1 + 1) hn5 hs5
  have up : ∀ {m2 r_2 s_2}, Stt s0 g env.locals m2 ((e, enumO I ((i : Int) + 1) v) :: (I, io2) :: r_2) s_2 → s_2.heap.IsListIter I l (i + 1) := fun {m2 r_2 s_2} S => ⟨io2, S.get (.tail _ (.head _)), hior⟩
  refine wpAny_mono (turn i v s'.toks m' r _ _ _ hv hJ S5).run (fun f s6 h_6 => ?_) fun _ _ x => x.elim
  have fin : (Ex2 fun m2 r_2 => And (Stt s0 g env.locals m2 ((e, enumO I ((i : Int) + 1) v) :: (I, io2) :: r_2) s6) (J (i + 1) m2 r_2)) → PT s6 := by
   rintro ⟨m2, r_2, S6, hJ6⟩
   refine hPT (vs.length + 1 - (i + 1)) _ (by with_reducible exact n21 (by assumption)) ⟨i + 1, v, io2, m2, r_2, hlt, rfl, ?_, up S6, hJ6⟩
   have : ((i + 1 : Nat) : Int) = (i : Int) + 1 := by push_cast; rfl
   rw [this]; exact S6
  cases f with
  | next => exact fin h_6
  | cont => exact fin h_6
  | brk => exact h_6
  | ret v => exact h_6
end
section
variable {prog : Program} {w : World} {A : Around} {E : VP} {s : Shared}
theorem call_min2 {l : Addr} {va vb : Value} {b : Bool} {Q : VP} (hh : A.handled = none) (hl : s.heap.IsList l #[va, vb])
  (hcmp : ∀ s' E' Q', (∀ c o, s.heap.get? c = some o → s'.heap.get? c = some o) → Q' (.bool b) s' → wpAny (model prog w) A.in1 (richCompare .Lt vb va) Q' E' s')
  (h : ∀ h' tk, (∀ c o, s.heap.get? c = some o → h'.get? c = some o) → Q (if b then vb else va) { s with heap := h', toks := tk }) : wpAny (model prog w) A (call (.builtin "min") [.ref l]) Q E s := by
 have hname : (toString "min" ++ toString ".loop" : String) = "min.loop" := by decide
 have hlt : l < s.heap.objs.size := by obtain ⟨o, ho, _⟩ := hl; exact Heap.lt_size ho
 refine call_function_tree F.kind_min F.plain_min F.entry_min (F.args_min1 _) ?_
 show wpAny _ A.in1 (Builtin.Builtins.bindParams "min" ["key", "default"] 0 ⟨[], []⟩ >>= _) _ _ s
 refine wpAny_bind (wpAny_of_eq (show Builtin.Builtins.bindParams "min" ["key", "default"] 0 ⟨[], []⟩ = pure [none, none] from rfl) ?_)
 refine wpAny_bind (wpAny_pure ?_)
 refine wpAny_bind (wpAny_pyIter_list hl ?_)
 refine wpAny_bind (wpAny_newObj_type ?_)
 rw [hname]
 dsimp only
 obtain ⟨I, hI⟩ : ∃ I, I = s.heap.objs.size := ⟨_, rfl⟩
 have hne : l ≠ I := by rw [hI]; exact Nat.ne_of_lt hlt
 have W := Walks.list (prog := prog) (w := w) (A := A.in1) hh I l hne #[va, vb]
 rw [show (#[va, vb] : Array Value).size = 2 from rfl] at W
 generalize hH : s.heap.push { cls := .type "list_iterator", data := .fields #[.ref l, .int 0 0] } = H
 have hHI : H.get? I = some { cls := .type "list_iterator", data := .fields #[.ref l, .int 0 0] } := by rw [← hH, hI]; exact Heap.get?_push_size _ rfl
 have hHk : ∀ c o, s.heap.get? c = some o → H.get? c = some o := fun c o e => by rw [← hH]; exact Heap.get?_push_of_some _ e
 have hHz : H.objs.size = I + 1 := by rw [← hH, Heap.size_push, hI]
 obtain ⟨D, hD⟩ : ∃ D, D = H.objs.size := ⟨_, rfl⟩
 rw [← hD, ← hI]
 generalize hH2 : H.push { cls := .type "list", data := .seq ([] : List Value).toArray } = H2
 have hD0 : H2.get? D = some { cls := .type "list", dict := none, data := .seq #[] 0, slots := #[] } := by rw [← hH2, hD]; exact Heap.get?_push_size _ rfl
 have hHk2 : ∀ c o, H.get? c = some o → H2.get? c = some o := fun c o e => by rw [← hH2]; exact Heap.get?_push_of_some _ e
 have hDI : D ≠ I := by rw [hD, hHz]; exact Nat.succ_ne_self I
 have hDl : D ≠ l := by rw [hD, hHz, hI]; exact Nat.ne_of_gt (Nat.lt_succ_of_lt hlt)
 have hDw : D ∉ [I] := fun q => hDI (List.mem_singleton.mp q)
 have nI : ∀ c o, s.heap.get? c = some o → c ∉ [I] := fun c o e q => by rw [List.mem_singleton.mp q, hI] at e; exact absurd (Heap.lt_size e) (Nat.lt_irrefl _)
 have nD : ∀ c o, s.heap.get? c = some o → c ≠ D := fun c o e q => by rw [q, hD, hHz, hI] at e; exact absurd (Heap.lt_size e) (Nat.not_lt.mpr (Nat.le_succ _))
 have fr : ∀ i (h_1 h_2 : Heap), (h_1.IsListIter I l i ∧ h_1.IsList l #[va, vb]) → (∀ c o, c ≠ D → h_1.get? c = some o → h_2.get? c = some o) → (h_2.IsListIter I l i ∧ h_2.IsList l #[va, vb]) := fun i h_1 h_2 ⟨⟨o, e, r⟩, x⟩ k => ⟨⟨o, k _ _ (Ne.symm hDI) e, r⟩, x.at fun o e => k _ _ (Ne.symm hDl) e⟩
 have st0 : H2.IsListIter I l 0 ∧ H2.IsList l #[va, vb] := ⟨⟨_, hHk2 _ _ hHI, rfl, rfl⟩, hl.at fun o e => hHk2 _ _ (hHk _ _ e)⟩
 refine wpAny_pure ⟨plainId_quiet F.plain_min_loop _, ?_⟩
 refine codeAny_builtin F.entry_min_loop ?_
 rw [Around.under_plainId F.plain_min_loop _]
 show wpAny _ A.in1 (seqItems? (.ref D) >>= _) _ _ _
 refine wpAny_bind (wpAny_seqItems hD0 rfl ?_)
 show wpAny _ A.in1 (tryCatch (pyNext (.ref I)) _ >>= _) _ _ _
 refine wpAny_bind (wpAny_tryCatch (W.item 0 _ _ _ (by decide) st0 fun v h' tk hP hst' hk' => ?_))
 replace hk' : ∀ b o, b ∉ [I] → H2.get? b = some o → h'.get? b = some o := hk'
 obtain rfl : v = va := by simpa using hP.symm
 have hS' := hk' D _ hDw hD0
 show wpAny _ A.in1 (updateSeq D (fun _ => #[v, v]) >>= _) _ _ _
 refine wpAny_bind ?_
 refine wpAny_updateSeq hS' rfl ?_
 rw [hname]
 dsimp only
 generalize hH3 : h'.update D (Obj.mapSeq fun _ => #[v, v]) = H3
 have k3 : ∀ c o, c ≠ D → h'.get? c = some o → H3.get? c = some o := fun c o hc e => by rw [← hH3]; exact (Heap.get?_update_other _ _ (Ne.symm hc)).trans e
 have hD3 : H3.get? D = some { cls := .type "list", dict := none, data := .seq #[v, v] 1, slots := #[] } := by rw [← hH3]; exact Heap.get?_update_self _ hS' rfl
 have K3 : ∀ c o, s.heap.get? c = some o → H3.get? c = some o := fun c o e => k3 c o (nD c o e) (hk' c o (nI c o e) (hHk2 _ _ (hHk _ _ e)))
 have st1 := fr 1 _ _ hst' k3
 refine wpAny_pure ⟨plainId_quiet F.plain_min_loop _, ?_⟩
 refine codeAny_builtin F.entry_min_loop ?_
 rw [Around.under_plainId F.plain_min_loop _]
 show wpAny _ A.in1 (seqItems? (.ref D) >>= _) _ _ _
 refine wpAny_bind (wpAny_seqItems hD3 rfl ?_)
 show wpAny _ A.in1 (tryCatch (pyNext (.ref I)) _ >>= _) _ _ _
 refine wpAny_bind (wpAny_tryCatch (W.item 1 _ _ _ (by decide) st1 fun v' h4 tk4 hP4 hst4 hk4 => ?_))
 replace hk4 : ∀ b o, b ∉ [I] → H3.get? b = some o → h4.get? b = some o := hk4
 obtain rfl : v' = vb := by simpa using hP4.symm
 have hD4 := hk4 D _ hDw hD3
 have K4 : ∀ c o, s.heap.get? c = some o → h4.get? c = some o := fun c o e => hk4 c o (nI c o e) (K3 c o e)
 show wpAny _ A.in1 (tryCatch (holding [v', v'] (richCompare .Lt v' v >>= _)) _ >>= _) _ _ _
 refine wpAny_bind (wpAny_tryCatch (wpAny_holding (wpAny_bind (hcmp _ _ _ K4 ?_))))
 refine wpAny_bind (wpAny_holding (wpAny_truthy_bool ?_))
 refine wpAny_bind (wpAny_letGo (wpAny_pure ?_))
 have last : ∀ (best : Value) (H5 : Heap) (tk5 c : Nat), H5.get? D = some { cls := .type "list", dict := none, data := .seq #[best, best] c, slots := #[] } → (∀ c o, c ≠ D → h4.get? c = some o → H5.get? c = some o) → best = (if b then v' else v) →
   codeAny (model prog w) A (.builtin "min.loop" ⟨[.ref I, .none, .ref D], []⟩) (wants Q E) { s with heap := H5, toks := tk5 } := by
  intro best H5 tk5 c hD5 k5 hbest
  refine codeAny_builtin F.entry_min_loop ?_
  rw [Around.under_plainId F.plain_min_loop _]
  show wpAny _ A.in1 (seqItems? (.ref D) >>= _) _ _ _
  refine wpAny_bind (wpAny_seqItems hD5 rfl ?_)
  show wpAny _ A.in1 (tryCatch (pyNext (.ref I)) _ >>= _) _ _ _
  refine wpAny_bind (wpAny_tryCatch (W.done _ _ _ (fr 2 _ _ hst4 k5) fun h6 tk6 hk6 => ?_))
  replace hk6 : ∀ b o, b ∉ [I] → H5.get? b = some o → h6.get? b = some o := hk6
  show wpAny _ A.in1 (updateSeq D (fun _ => #[]) >>= _) _ _ _
  refine wpAny_bind ?_
  refine wpAny_updateSeq (hk6 D _ hDw hD5) rfl (wpAny_bind (wpAny_letGo (wpAny_pure ?_)))
  show Q best _
  rw [hbest]
  exact h _ _ fun c o e => (Heap.get?_update_other _ _ (Ne.symm (nD c o e))).trans (hk6 c o (nI c o e) (k5 c o (nD c o e) (K4 c o e)))
 cases b with
 | true =>
  simp only [if_true]
  refine wpAny_bind ?_
  refine wpAny_updateSeq hD4 rfl (wpAny_bind (wpAny_letGo ?_))
  rw [hname]
  exact wpAny_pure ⟨plainId_quiet F.plain_min_loop _, last v' _ _ _ (Heap.get?_update_self _ hD4 rfl) (fun c o hc e => (Heap.get?_update_other _ _ (Ne.symm hc)).trans e) rfl⟩
 | false =>
  simp only [Bool.false_eq_true, if_false]
  refine wpAny_bind (wpAny_letGo ?_)
  rw [hname]
  exact wpAny_pure ⟨plainId_quiet F.plain_min_loop _, last v _ _ _ hD4 (fun c o hc e => e) rfl⟩
theorem call_max2 {l : Addr} {va vb : Value} {b : Bool} {Q : VP} (hh : A.handled = none) (hl : s.heap.IsList l #[va, vb])
  (hcmp : ∀ s' E' Q', (∀ c o, s.heap.get? c = some o → s'.heap.get? c = some o) → Q' (.bool b) s' → wpAny (model prog w) A.in1 (richCompare .Gt vb va) Q' E' s')
  (h : ∀ h' tk, (∀ c o, s.heap.get? c = some o → h'.get? c = some o) → Q (if b then vb else va) { s with heap := h', toks := tk }) : wpAny (model prog w) A (call (.builtin "max") [.ref l]) Q E s := by
 have hname : (toString "max" ++ toString ".loop" : String) = "max.loop" := by decide
 have hlt : l < s.heap.objs.size := by obtain ⟨o, ho, _⟩ := hl; exact Heap.lt_size ho
 refine call_function_tree F.kind_max F.plain_max F.entry_max (F.args_max1 _) ?_
 show wpAny _ A.in1 (Builtin.Builtins.bindParams "max" ["key", "default"] 0 ⟨[], []⟩ >>= _) _ _ s
 refine wpAny_bind (wpAny_of_eq (show Builtin.Builtins.bindParams "max" ["key", "default"] 0 ⟨[], []⟩ = pure [none, none] from rfl) ?_)
 refine wpAny_bind (wpAny_pure ?_)
 refine wpAny_bind (wpAny_pyIter_list hl ?_)
 refine wpAny_bind (wpAny_newObj_type ?_)
 rw [hname]
 dsimp only
 obtain ⟨I, hI⟩ : ∃ I, I = s.heap.objs.size := ⟨_, rfl⟩
 have hne : l ≠ I := by rw [hI]; exact Nat.ne_of_lt hlt
 have W := Walks.list (prog := prog) (w := w) (A := A.in1) hh I l hne #[va, vb]
 rw [show (#[va, vb] : Array Value).size = 2 from rfl] at W
 generalize hH : s.heap.push { cls := .type "list_iterator", data := .fields #[.ref l, .int 0 0] } = H
 have hHI : H.get? I = some { cls := .type "list_iterator", data := .fields #[.ref l, .int 0 0] } := by rw [← hH, hI]; exact Heap.get?_push_size _ rfl
 have hHk : ∀ c o, s.heap.get? c = some o → H.get? c = some o := fun c o e => by rw [← hH]; exact Heap.get?_push_of_some _ e
 have hHz : H.objs.size = I + 1 := by rw [← hH, Heap.size_push, hI]
 obtain ⟨D, hD⟩ : ∃ D, D = H.objs.size := ⟨_, rfl⟩
 rw [← hD, ← hI]
 generalize hH2 : H.push { cls := .type "list", data := .seq ([] : List Value).toArray } = H2
 have hD0 : H2.get? D = some { cls := .type "list", dict := none, data := .seq #[] 0, slots := #[] } := by rw [← hH2, hD]; exact Heap.get?_push_size _ rfl
 have hHk2 : ∀ c o, H.get? c = some o → H2.get? c = some o := fun c o e => by rw [← hH2]; exact Heap.get?_push_of_some _ e
 have hDI : D ≠ I := by rw [hD, hHz]; exact Nat.succ_ne_self I
 have hDl : D ≠ l := by rw [hD, hHz, hI]; exact Nat.ne_of_gt (Nat.lt_succ_of_lt hlt)
 have hDw : D ∉ [I] := fun q => hDI (List.mem_singleton.mp q)
 have nI : ∀ c o, s.heap.get? c = some o → c ∉ [I] := fun c o e q => by rw [List.mem_singleton.mp q, hI] at e; exact absurd (Heap.lt_size e) (Nat.lt_irrefl _)
 have nD : ∀ c o, s.heap.get? c = some o → c ≠ D := fun c o e q => by rw [q, hD, hHz, hI] at e; exact absurd (Heap.lt_size e) (Nat.not_lt.mpr (Nat.le_succ _))
 have fr : ∀ i (h_1 h_2 : Heap), (h_1.IsListIter I l i ∧ h_1.IsList l #[va, vb]) → (∀ c o, c ≠ D → h_1.get? c = some o → h_2.get? c = some o) → (h_2.IsListIter I l i ∧ h_2.IsList l #[va, vb]) := fun i h_1 h_2 ⟨⟨o, e, r⟩, x⟩ k => ⟨⟨o, k _ _ (Ne.symm hDI) e, r⟩, x.at fun o e => k _ _ (Ne.symm hDl) e⟩
 have st0 : H2.IsListIter I l 0 ∧ H2.IsList l #[va, vb] := ⟨⟨_, hHk2 _ _ hHI, rfl, rfl⟩, hl.at fun o e => hHk2 _ _ (hHk _ _ e)⟩
 refine wpAny_pure ⟨plainId_quiet F.plain_max_loop _, ?_⟩
 refine codeAny_builtin F.entry_max_loop ?_
 rw [Around.under_plainId F.plain_max_loop _]
 show wpAny _ A.in1 (seqItems? (.ref D) >>= _) _ _ _
 refine wpAny_bind (wpAny_seqItems hD0 rfl ?_)
 show wpAny _ A.in1 (tryCatch (pyNext (.ref I)) _ >>= _) _ _ _
 refine wpAny_bind (wpAny_tryCatch (W.item 0 _ _ _ (by decide) st0 fun v h' tk hP hst' hk' => ?_))
 replace hk' : ∀ b o, b ∉ [I] → H2.get? b = some o → h'.get? b = some o := hk'
 obtain rfl : v = va := by simpa using hP.symm
 have hS' := hk' D _ hDw hD0
 show wpAny _ A.in1 (updateSeq D (fun _ => #[v, v]) >>= _) _ _ _
 refine wpAny_bind ?_
 refine wpAny_updateSeq hS' rfl ?_
 rw [hname]
 dsimp only
 generalize hH3 : h'.update D (Obj.mapSeq fun _ => #[v, v]) = H3
 have k3 : ∀ c o, c ≠ D → h'.get? c = some o → H3.get? c = some o := fun c o hc e => by rw [← hH3]; exact (Heap.get?_update_other _ _ (Ne.symm hc)).trans e
 have hD3 : H3.get? D = some { cls := .type "list", dict := none, data := .seq #[v, v] 1, slots := #[] } := by rw [← hH3]; exact Heap.get?_update_self _ hS' rfl
 have K3 : ∀ c o, s.heap.get? c = some o → H3.get? c = some o := fun c o e => k3 c o (nD c o e) (hk' c o (nI c o e) (hHk2 _ _ (hHk _ _ e)))
 have st1 := fr 1 _ _ hst' k3
 refine wpAny_pure ⟨plainId_quiet F.plain_max_loop _, ?_⟩
 refine codeAny_builtin F.entry_max_loop ?_
 rw [Around.under_plainId F.plain_max_loop _]
 show wpAny _ A.in1 (seqItems? (.ref D) >>= _) _ _ _
 refine wpAny_bind (wpAny_seqItems hD3 rfl ?_)
 show wpAny _ A.in1 (tryCatch (pyNext (.ref I)) _ >>= _) _ _ _
 refine wpAny_bind (wpAny_tryCatch (W.item 1 _ _ _ (by decide) st1 fun v' h4 tk4 hP4 hst4 hk4 => ?_))
 replace hk4 : ∀ b o, b ∉ [I] → H3.get? b = some o → h4.get? b = some o := hk4
 obtain rfl : v' = vb := by simpa using hP4.symm
 have hD4 := hk4 D _ hDw hD3
 have K4 : ∀ c o, s.heap.get? c = some o → h4.get? c = some o := fun c o e => hk4 c o (nI c o e) (K3 c o e)
 show wpAny _ A.in1 (tryCatch (holding [v', v'] (richCompare .Gt v' v >>= _)) _ >>= _) _ _ _
 refine wpAny_bind (wpAny_tryCatch (wpAny_holding (wpAny_bind (hcmp _ _ _ K4 ?_))))
 refine wpAny_bind (wpAny_holding (wpAny_truthy_bool ?_))
 refine wpAny_bind (wpAny_letGo (wpAny_pure ?_))
 have last : ∀ (best : Value) (H5 : Heap) (tk5 c : Nat), H5.get? D = some { cls := .type "list", dict := none, data := .seq #[best, best] c, slots := #[] } → (∀ c o, c ≠ D → h4.get? c = some o → H5.get? c = some o) → best = (if b then v' else v) →
   codeAny (model prog w) A (.builtin "max.loop" ⟨[.ref I, .none, .ref D], []⟩) (wants Q E) { s with heap := H5, toks := tk5 } := by
  intro best H5 tk5 c hD5 k5 hbest
  refine codeAny_builtin F.entry_max_loop ?_
  rw [Around.under_plainId F.plain_max_loop _]
  show wpAny _ A.in1 (seqItems? (.ref D) >>= _) _ _ _
  refine wpAny_bind (wpAny_seqItems hD5 rfl ?_)
  show wpAny _ A.in1 (tryCatch (pyNext (.ref I)) _ >>= _) _ _ _
  refine wpAny_bind (wpAny_tryCatch (W.done _ _ _ (fr 2 _ _ hst4 k5) fun h6 tk6 hk6 => ?_))
  replace hk6 : ∀ b o, b ∉ [I] → H5.get? b = some o → h6.get? b = some o := hk6
  show wpAny _ A.in1 (updateSeq D (fun _ => #[]) >>= _) _ _ _
  refine wpAny_bind ?_
  refine wpAny_updateSeq (hk6 D _ hDw hD5) rfl (wpAny_bind (wpAny_letGo (wpAny_pure ?_)))
  show Q best _
  rw [hbest]
  exact h _ _ fun c o e => (Heap.get?_update_other _ _ (Ne.symm (nD c o e))).trans (hk6 c o (nI c o e) (k5 c o (nD c o e) (K4 c o e)))
 cases b with
 | true =>
  simp only [if_true]
  refine wpAny_bind ?_
  refine wpAny_updateSeq hD4 rfl (wpAny_bind (wpAny_letGo ?_))
  rw [hname]
  exact wpAny_pure ⟨plainId_quiet F.plain_max_loop _, last v' _ _ _ (Heap.get?_update_self _ hD4 rfl) (fun c o hc e => (Heap.get?_update_other _ _ (Ne.symm hc)).trans e) rfl⟩
 | false =>
  simp only [Bool.false_eq_true, if_false]
  refine wpAny_bind (wpAny_letGo ?_)
  rw [hname]
  exact wpAny_pure ⟨plainId_quiet F.plain_max_loop _, last v _ _ _ hD4 (fun c o hc e => e) rfl⟩
end
end
section
open PyProof.Rows.TI
open AutoSeq1 (wpAny_loadPart')
open MeetsSeq MeetsSeq2 MeetsSeq3 SeqRoads2 SeqAt
noncomputable def ltS (x y : Str) : Bool := decide (x.cps.toList < y.cps.toList)
noncomputable def ltL : List Str → List Str → Bool
 | _, [] => false
 | [], _ :: _ => true
 | x :: xs, y :: ys => if x == y then ltL xs ys else ltS x y
theorem All2.getS {xs : List Value} {us : List Str} (h : All2 Vs xs us) (i : Nat) (hi : i < us.length) (hx : i < xs.length) : ∃ t, xs[i] = .str us[i] t := by
 obtain ⟨v, hv, t, rfl⟩ := h.get (i := i) (b := us[i]) (List.getElem?_eq_getElem hi)
 rw [List.getElem?_eq_getElem hx] at hv
 exact ⟨t, Option.some.inj hv⟩
theorem rlt_str {prog : Program} {w : World} {A : Around} {E : VP} {s : Shared} {x y : Str} {t u : Tok} {Q : VP} (h : Q (.bool (ltS x y)) s) : wpAny (model prog w) A (richCompare .Lt (.str x t) (.str y u)) Q E s :=
 P.lt_str (x := x) (y := y) h
theorem rgt_str {prog : Program} {w : World} {A : Around} {E : VP} {s : Shared} {x y : Str} {t u : Tok} {Q : VP} (h : Q (.bool (ltS y x)) s) : wpAny (model prog w) A (richCompare .Gt (.str x t) (.str y u)) Q E s :=
 P.gt_str (x := x) (y := y) h
theorem ltL_beq_comm (a b : Str) : (a == b) = (b == a) := by
 rw [Bool.eq_iff_iff]; simp only [beq_iff_eq]; exact eq_comm
theorem lt_loop (l b : Addr) (n n2 : Nat) (dd dd2 : Option Addr) (sl sl2 : Array (Option Value)) {xs ys : List Value} {us vs : List Str} (hx : All2 Vs xs us) (hy : All2 Vs ys vs) (k : Nat) :
  ∀ i : Nat, us.length - i = k → i ≤ us.length → i ≤ vs.length → Meets (Builtin.«list.__eq__.loop» ⟨[.ref l, .ref b, rawInt i, rawInt 0], []⟩)
   (fun A R s => s.heap.get? l = some { cls := .type "list", dict := dd, data := .seq xs.toArray n, slots := sl } ∧ s.heap.get? b = some { cls := .type "list", dict := dd2, data := .seq ys.toArray n2, slots := sl2 } ∧
    R (.ok (.ret (.bool (ltL (us.drop i) (vs.drop i))))) s) := by
 have lx := hx.length
 have ly := hy.length
 induction k with
 | zero =>
  intro i hk hiu hiv prog w A R s h
  obtain ⟨hp, g, d, tk, os⟩ := s; obtain ⟨hl, hb, h⟩ := h
  wp_walk using wpAny_loadPart' hl, wpAny_loadPart' hb
  have hi1 : xs.toArray[((i : Nat) : Int).toNat]? = none := by simp; omega
  rw [hi1]
  have hfin : (decide (xs.toArray.size < ys.toArray.size)) = ltL (us.drop i) (vs.drop i) := by
   rw [List.drop_eq_nil_of_le (show us.length ≤ i by omega)]
   simp only [List.size_toArray, lx, ly]
   cases hd : vs.drop i with
   | nil => simp only [ltL]; have := congrArg List.length hd; simp at this; simp; omega
   | cons y r => simp only [ltL]; have := congrArg List.length hd; simp at this; simp; omega
  wp_walk using wpAny_loadPart' hl, wpAny_loadPart' hb
  show R (.ok (.ret (.bool (decide (xs.toArray.size < ys.toArray.size))))) _
  rw [hfin]; exact h
 | succ k ih =>
  intro i hk hiu hiv prog w A R s h
  obtain ⟨hp, g, d, tk, os⟩ := s; obtain ⟨hl, hb, h⟩ := h
  wp_walk using wpAny_loadPart' hl, wpAny_loadPart' hb
  have hlt : i < us.length := by omega
  have hc : ((i : Int) + 1) = ((i + 1 : Nat) : Int) := by push_cast; rfl
  have hi1 : xs.toArray[((i : Nat) : Int).toNat]? = some xs[i] := by simp [show i < xs.length by omega]
  by_cases h2 : i < vs.length
  ·have hi2 : ys.toArray[((i : Nat) : Int).toNat]? = some ys[i] := by simp [show i < ys.length by omega]
   obtain ⟨t, ht⟩ := hx.getS i hlt (by omega)
   obtain ⟨u, hu⟩ := hy.getS i h2 (by omega)
   rw [ht] at hi1
   rw [hu] at hi2
   rw [hi1, hi2]
   rw [List.drop_eq_getElem_cons hlt, List.drop_eq_getElem_cons h2] at h
   simp only [ltL] at h
   refine wpAny_bind (eqGives_str us[i] vs[i] t u prog w _ _ _ _ ?_)
   by_cases he : (us[i] == vs[i]) = true
   ·rw [he, if_pos rfl]
    rw [he] at h
    rw [if_pos rfl] at h
    refine wpAny_pure ?_
    rw [hc]
    exact ⟨plainId_quiet plain_eq_loop _, codeAny_builtin entry_eq_loop (by
     rw [Around.under_plainId plain_eq_loop _]
     exact ih (i + 1) (by omega) (by omega) (by omega) prog w A R _ ⟨hl, hb, h⟩)⟩
   ·have he2 := he
    rw [if_neg he2] at h
    rw [if_neg he]
    wp_walk using wpAny_loadPart' hl, wpAny_loadPart' hb
    rw [hi1, hi2]
    refine wpAny_bind (rlt_str (s := ⟨hp, g, d, tk, os⟩) (x := us[i]) (y := vs[i]) (t := t) (u := u) ?_)
    exact wpAny_pure h
  ·have hi2 : ys.toArray[((i : Nat) : Int).toNat]? = none := by simp; omega
   rw [hi1, hi2]
   have hfin : (decide (xs.toArray.size < ys.toArray.size)) = ltL (us.drop i) (vs.drop i) := by
    rw [List.drop_eq_nil_of_le (show vs.length ≤ i by omega)]
    simp only [List.size_toArray, lx, ly]
    cases hd : us.drop i with
    | nil => simp only [ltL]; have := congrArg List.length hd; simp at this; omega
    | cons y r => simp only [ltL]; have := congrArg List.length hd; simp at this; simp; omega
   wp_walk using wpAny_loadPart' hl, wpAny_loadPart' hb
   show R (.ok (.ret (.bool (decide (xs.toArray.size < ys.toArray.size))))) _
   rw [hfin]; exact h
theorem list_lt (l b : Addr) (n n2 : Nat) (dd dd2 : Option Addr) (sl sl2 : Array (Option Value)) {xs ys : List Value} {us vs : List Str} (hx : All2 Vs xs us) (hy : All2 Vs ys vs) :
  Meets (Builtin.«list.__lt__» ⟨[.ref l, .ref b], []⟩)
   (fun A R s => s.heap.get? l = some { cls := .type "list", dict := dd, data := .seq xs.toArray n, slots := sl } ∧ s.heap.get? b = some { cls := .type "list", dict := dd2, data := .seq ys.toArray n2, slots := sl2 } ∧
    R (.ok (.ret (.bool (ltL us vs)))) s) := by
 intro prog w A R s h
 obtain ⟨hp, g, d, tk, os⟩ := s; obtain ⟨hl, hb, h⟩ := h
 have f3 := AutoSeq1.sub_list_list
 wp_walk using wpAny_loadPart' hl, wpAny_loadPart' hb
 exact ⟨plainId_quiet plain_eq_loop _, codeAny_builtin entry_eq_loop (by
  rw [Around.under_plainId plain_eq_loop _]
  exact lt_loop l b n n2 dd dd2 sl sl2 hx hy _ 0 rfl (Nat.zero_le _) (Nat.zero_le _) prog w A R _ ⟨hl, hb, by simpa using h⟩)⟩
theorem rich_lt {prog : Program} {w : World} {A : Around} {E : VP} {s : Shared} {l b : Addr} {xs ys : List Value} {us vs : List Str} {Q : VP} (hl : s.heap.IsList l xs.toArray) (hb : s.heap.IsList b ys.toArray) (hx : All2 Vs xs us) (hy : All2 Vs ys vs) (hu : A.units < cLine)
  (h : Q (.bool (ltL us vs)) s) : wpAny (model prog w) A (richCompare .Lt (.ref l) (.ref b)) Q E s := by
 obtain ⟨⟨cls, dd, data, sl⟩, ho, hc, n, hd⟩ := id hl
 obtain ⟨⟨cls2, dd2, data2, sl2⟩, ho2, hc2, n2, hd2⟩ := id hb
 simp only at hc hd hc2 hd2
 subst hc hd hc2 hd2
 exact richCompare_meets_room (op := .Lt) ⟨_, ho, rfl⟩ ⟨_, ho2, rfl⟩ F.slot_list_lt F.entry_list_lt (F.args_list_lt_2 _ _) (list_lt l b n n2 dd dd2 sl sl2 hx hy)
  ⟨ho, ho2, show Value.bool (ltL us vs) ≠ Value.notImplemented ∧ Q (.bool (ltL us vs)) s from ⟨(fun x => nomatch x), h⟩⟩ hu
theorem gt_loop (l b : Addr) (n n2 : Nat) (dd dd2 : Option Addr) (sl sl2 : Array (Option Value)) {xs ys : List Value} {us vs : List Str} (hx : All2 Vs xs us) (hy : All2 Vs ys vs) (k : Nat) :
  ∀ i : Nat, us.length - i = k → i ≤ us.length → i ≤ vs.length → Meets (Builtin.«list.__eq__.loop» ⟨[.ref l, .ref b, rawInt i, rawInt 4], []⟩)
   (fun A R s => s.heap.get? l = some { cls := .type "list", dict := dd, data := .seq xs.toArray n, slots := sl } ∧ s.heap.get? b = some { cls := .type "list", dict := dd2, data := .seq ys.toArray n2, slots := sl2 } ∧
    R (.ok (.ret (.bool (ltL (vs.drop i) (us.drop i))))) s) := by
 have lx := hx.length
 have ly := hy.length
 induction k with
 | zero =>
  intro i hk hiu hiv prog w A R s h
  obtain ⟨hp, g, d, tk, os⟩ := s; obtain ⟨hl, hb, h⟩ := h
  wp_walk using wpAny_loadPart' hl, wpAny_loadPart' hb
  have hi1 : xs.toArray[((i : Nat) : Int).toNat]? = none := by simp; omega
  rw [hi1]
  have hfin : (decide (xs.toArray.size > ys.toArray.size)) = ltL (vs.drop i) (us.drop i) := by
   rw [List.drop_eq_nil_of_le (show us.length ≤ i by omega)]
   simp only [List.size_toArray, lx, ly]
   cases hd : vs.drop i with
   | nil => simp only [ltL]; have := congrArg List.length hd; simp at this; simp; omega
   | cons y r => simp only [ltL]; have := congrArg List.length hd; simp at this; simp; omega
  wp_walk using wpAny_loadPart' hl, wpAny_loadPart' hb
  show R (.ok (.ret (.bool (decide (xs.toArray.size > ys.toArray.size))))) _
  rw [hfin]; exact h
 | succ k ih =>
  intro i hk hiu hiv prog w A R s h
  obtain ⟨hp, g, d, tk, os⟩ := s; obtain ⟨hl, hb, h⟩ := h
  wp_walk using wpAny_loadPart' hl, wpAny_loadPart' hb
  have hlt : i < us.length := by omega
  have hc : ((i : Int) + 1) = ((i + 1 : Nat) : Int) := by push_cast; rfl
  have hi1 : xs.toArray[((i : Nat) : Int).toNat]? = some xs[i] := by simp [show i < xs.length by omega]
  by_cases h2 : i < vs.length
  ·have hi2 : ys.toArray[((i : Nat) : Int).toNat]? = some ys[i] := by simp [show i < ys.length by omega]
   obtain ⟨t, ht⟩ := hx.getS i hlt (by omega)
   obtain ⟨u, hu⟩ := hy.getS i h2 (by omega)
   rw [ht] at hi1
   rw [hu] at hi2
   rw [hi1, hi2]
   rw [List.drop_eq_getElem_cons hlt, List.drop_eq_getElem_cons h2] at h
   simp only [ltL] at h
   refine wpAny_bind (eqGives_str us[i] vs[i] t u prog w _ _ _ _ ?_)
   by_cases he : (us[i] == vs[i]) = true
   ·rw [he, if_pos rfl]
    rw [ltL_beq_comm, he] at h
    rw [if_pos rfl] at h
    refine wpAny_pure ?_
    rw [hc]
    exact ⟨plainId_quiet plain_eq_loop _, codeAny_builtin entry_eq_loop (by
     rw [Around.under_plainId plain_eq_loop _]
     exact ih (i + 1) (by omega) (by omega) (by omega) prog w A R _ ⟨hl, hb, h⟩)⟩
   ·have he2 : ¬ (vs[i] == us[i]) = true := by rw [ltL_beq_comm]; exact he
    rw [if_neg he2] at h
    rw [if_neg he]
    wp_walk using wpAny_loadPart' hl, wpAny_loadPart' hb
    rw [hi1, hi2]
    refine wpAny_bind (rgt_str (s := ⟨hp, g, d, tk, os⟩) (x := us[i]) (y := vs[i]) (t := t) (u := u) ?_)
    exact wpAny_pure h
  ·have hi2 : ys.toArray[((i : Nat) : Int).toNat]? = none := by simp; omega
   rw [hi1, hi2]
   have hfin : (decide (xs.toArray.size > ys.toArray.size)) = ltL (vs.drop i) (us.drop i) := by
    rw [List.drop_eq_nil_of_le (show vs.length ≤ i by omega)]
    simp only [List.size_toArray, lx, ly]
    cases hd : us.drop i with
    | nil => simp only [ltL]; have := congrArg List.length hd; simp at this; omega
    | cons y r => simp only [ltL]; have := congrArg List.length hd; simp at this; simp; omega
   wp_walk using wpAny_loadPart' hl, wpAny_loadPart' hb
   show R (.ok (.ret (.bool (decide (xs.toArray.size > ys.toArray.size))))) _
   rw [hfin]; exact h
theorem list_gt (l b : Addr) (n n2 : Nat) (dd dd2 : Option Addr) (sl sl2 : Array (Option Value)) {xs ys : List Value} {us vs : List Str} (hx : All2 Vs xs us) (hy : All2 Vs ys vs) :
  Meets (Builtin.«list.__gt__» ⟨[.ref l, .ref b], []⟩)
   (fun A R s => s.heap.get? l = some { cls := .type "list", dict := dd, data := .seq xs.toArray n, slots := sl } ∧ s.heap.get? b = some { cls := .type "list", dict := dd2, data := .seq ys.toArray n2, slots := sl2 } ∧
    R (.ok (.ret (.bool (ltL vs us)))) s) := by
 intro prog w A R s h
 obtain ⟨hp, g, d, tk, os⟩ := s; obtain ⟨hl, hb, h⟩ := h
 have f3 := AutoSeq1.sub_list_list
 wp_walk using wpAny_loadPart' hl, wpAny_loadPart' hb
 exact ⟨plainId_quiet plain_eq_loop _, codeAny_builtin entry_eq_loop (by
  rw [Around.under_plainId plain_eq_loop _]
  exact gt_loop l b n n2 dd dd2 sl sl2 hx hy _ 0 rfl (Nat.zero_le _) (Nat.zero_le _) prog w A R _ ⟨hl, hb, by simpa using h⟩)⟩
theorem rich_gt {prog : Program} {w : World} {A : Around} {E : VP} {s : Shared} {l b : Addr} {xs ys : List Value} {us vs : List Str} {Q : VP} (hl : s.heap.IsList l xs.toArray) (hb : s.heap.IsList b ys.toArray) (hx : All2 Vs xs us) (hy : All2 Vs ys vs) (hu : A.units < cLine)
  (h : Q (.bool (ltL vs us)) s) : wpAny (model prog w) A (richCompare .Gt (.ref l) (.ref b)) Q E s := by
 obtain ⟨⟨cls, dd, data, sl⟩, ho, hc, n, hd⟩ := id hl
 obtain ⟨⟨cls2, dd2, data2, sl2⟩, ho2, hc2, n2, hd2⟩ := id hb
 simp only at hc hd hc2 hd2
 subst hc hd hc2 hd2
 exact richCompare_meets_room (op := .Gt) ⟨_, ho, rfl⟩ ⟨_, ho2, rfl⟩ F.slot_list_gt F.entry_list_gt (F.args_list_gt_2 _ _) (list_gt l b n n2 dd dd2 sl sl2 hx hy)
  ⟨ho, ho2, show Value.bool (ltL vs us) ≠ Value.notImplemented ∧ Q (.bool (ltL vs us)) s from ⟨(fun x => nomatch x), h⟩⟩ hu
end
section
open PyProof.Rows.TI
noncomputable def dI (r : List Int) : PyData := .list (r.map .int)
noncomputable def dLI (rows : List (List Int)) : PyData := .list (rows.map dI)
theorem readsAll_I {h : Heap} : ∀ {vs : List Value} {r : List Int}, All2 Vi vs r → ∃ as, ReadsAll h vs (r.map .int) as
 | _, _, .nil => ⟨[], .nil⟩
 | _, _, .cons ⟨t, e⟩ r => by
  obtain ⟨as, x⟩ := readsAll_I r
  subst e
  exact ⟨_, .cons (.int _ t) x⟩
theorem reads_I {h : Heap} {v : Value} {r : List Int} (x : LsI (hp h) v r) : ∃ as, Reads h v (dI r) as := by
 obtain ⟨a, vs, n, rfl, ho, hv⟩ := x
 obtain ⟨as, hr⟩ := readsAll_I (h := h) hv
 exact ⟨_, .list ho rfl rfl hr⟩
theorem readsAll_LI {h : Heap} {vs : List Value} {r : List (List Int)} (x : All2 (LsI (hp h)) vs r) : ∃ as, ReadsAll h vs (r.map dI) as := by
 induction x with
 | nil => exact ⟨[], .nil⟩
 | cons e _ ih =>
  obtain ⟨as, x⟩ := ih
  obtain ⟨bs, y⟩ := reads_I e
  exact ⟨_, .cons y x⟩
theorem reads_LI {h : Heap} {v : Value} {r : List (List Int)} (x : LsLI (hp h) v r) : ∃ as, Reads h v (dLI r) as := by
 obtain ⟨a, vs, n, rfl, ho, hv⟩ := x
 obtain ⟨as, hr⟩ := readsAll_LI (h := h) hv
 exact ⟨_, .list ho rfl rfl hr⟩
theorem canLayAll_I : ∀ r : List Int, PyData.canLayAll0 (r.map .int) = true
 | [] => rfl
 | _ :: r => by simp [PyData.canLayAll0, PyData.canLay0, canLayAll_I r]
theorem canLayAll_LI : ∀ r : List (List Int), PyData.canLayAll0 (r.map dI) = true
 | [] => rfl
 | a :: r => by simp [PyData.canLayAll0, PyData.canLay0, canLayAll_LI r, dI, canLayAll_I a]
theorem canLay_LI (r : List (List Int)) : (dLI r).canLay0 = true := by simp [dLI, PyData.canLay0, canLayAll_LI r]
theorem eqvAll_I : ∀ r q : List Int, PyData.eqvAll (r.map .int) (q.map .int) = decide (r = q)
 | [], [] => rfl
 | [], _ :: _ => rfl
 | _ :: _, [] => rfl
 | a :: r, b :: q => by
  simp only [List.map_cons, PyData.eqvAll, PyData.eqv, eqvAll_I r q, List.cons.injEq]
  rw [Bool.eq_iff_iff]; simp
theorem eqvAll_LI : ∀ r q : List (List Int), PyData.eqvAll (r.map dI) (q.map dI) = decide (r = q)
 | [], [] => rfl
 | [], _ :: _ => rfl
 | _ :: _, [] => rfl
 | a :: r, b :: q => by
  show (PyData.eqvAll (a.map .int) (b.map .int) && PyData.eqvAll (r.map dI) (q.map dI)) = _
  rw [eqvAll_I, eqvAll_LI r q]
  rw [Bool.eq_iff_iff]; simp
theorem depthAll_I : ∀ r : List Int, PyData.depthAll (r.map .int) = 0
 | [] => rfl
 | a :: r => by simp [PyData.depthAll, PyData.depth, depthAll_I r]
theorem depthAll_LI : ∀ r : List (List Int), PyData.depthAll (r.map dI) ≤ 1
 | [] => Nat.zero_le _
 | a :: r => by
  show max (PyData.depthAll (a.map .int) + 1) (PyData.depthAll (r.map dI)) ≤ 1
  have := depthAll_LI r
  rw [depthAll_I]; lia
theorem depth_LI (r : List (List Int)) : (dLI r).depth ≤ 2 := by
 show PyData.depthAll (r.map dI) + 1 ≤ 2
 have := depthAll_LI r; lia
section
variable {prog : Program} {w : World} {A : Around} {E : VP} {s : Shared}
theorem q_eqLL {a b : Value} {x y : List (List Int)} {Q : VP} (ha : LsLI (hp s.heap) a x) (hb : LsLI (hp s.heap) b y) (hu : A.units + 5 < cLine) (h : Q (.bool (decide (x = y))) s) : WP (model prog w) A (compareOp .Eq a b) Q E s := by
 obtain ⟨as, ra⟩ := reads_LI ha
 obtain ⟨bs, rb⟩ := reads_LI hb
 refine ⟨PySem.SeqAt.compareEq_reads ra rb (canLay_LI x) (canLay_LI y) (by have := depth_LI x; lia) ?_⟩
 rw [show PyData.eqv (dLI x) (dLI y) = decide (x = y) from eqvAll_LI x y]; exact h
theorem q_neLL {a b : Value} {x y : List (List Int)} {Q : VP} (ha : LsLI (hp s.heap) a x) (hb : LsLI (hp s.heap) b y) (hu : A.units + 5 < cLine) (h : Q (.bool (!decide (x = y))) s) : WP (model prog w) A (compareOp .NotEq a b) Q E s := by
 obtain ⟨as, ra⟩ := reads_LI ha
 obtain ⟨bs, rb⟩ := reads_LI hb
 refine ⟨PySem.SeqAt.compareNe_reads ra rb (canLay_LI x) (canLay_LI y) (by have := depth_LI x; lia) ?_⟩
 rw [show PyData.eqv (dLI x) (dLI y) = decide (x = y) from eqvAll_LI x y]; exact h
end
noncomputable abbrev seti (D : Addr) (f i : Int) : Obj := { cls := .type "set_iterator", data := .fields #[rawInt f, rawInt i, .ref D, rawInt 1, rawInt 1] }
section
variable {prog : Program} {w : World} {A : Around} {E : VP} {s : Shared}
theorem setsByText_w {Q : Bool → Shared → Prop} (h : Q (w.params.followText "set-order") s) : wpAny (model prog w) A setsByText Q E s := by
 unfold setsByText
 exact wpAny_bind (wpAny_askSetting (wpAny_pure h))
theorem pyIter_setT {D : Addr} {led : Bool} {Q : VP} (hD : s.heap.get? D = some (setObjT led)) (h : Q (.ref s.heap.objs.size) { s with heap := s.heap.push (seti D 0 0) }) :
  wpAny (model prog w) A (pyIter (.ref D)) Q E s := by
 have hT : s.TypeIs (.ref D) "set" := ⟨_, hD, rfl⟩
 refine wpAny_pyIter_slot hT F.slot_set_iter (wpAny_call_entry F.slot_set_iter hT entry_set_iter ?_ (F.args_set_iter_1 _))
 unfold Builtin.«frozenset.__iter__» Builtin.Frozenset.slot0 Builtin.Frozenset.addrOf Builtin.Frozenset.sizeOf setEntries setDrawn setEpoch
 simp only [bind_assoc, pure_bind]
 show wpAny _ _ (setState D >>= _) _ _ s
 refine wpAny_bind (wpAny_setState_of hD rfl rfl ?_)
 refine wpAny_bind (wpAny_setState_of hD rfl rfl ?_)
 refine wpAny_bind (setsByText_w ?_)
 cases hb : w.params.followText "set-order" with
 | true =>
  refine wpAny_bind (wpAny_setState_of hD rfl rfl ?_)
  exact wpAny_bind (wpAny_newObj_type (wpAny_pure ⟨_, rfl, "set_iterator", _, ⟨_, Heap.get?_push_size _ rfl, rfl⟩, slot_seti_next.lookup, h⟩))
 | false =>
  refine wpAny_bind (wpAny_setState_of hD rfl rfl ?_)
  exact wpAny_bind (wpAny_newObj_type (wpAny_pure ⟨_, rfl, "set_iterator", _, ⟨_, Heap.get?_push_size _ rfl, rfl⟩, slot_seti_next.lookup, h⟩))
theorem pick_one (next : Nat → Nat) (x : Int × Value) : pickOrder next #[x] = #[x] := by
 unfold pickOrder pickOrder.go
 simp [Nat.mod_one, pickOrder.go]
theorem setNext_T0 {D : Addr} {Q : Option (Value × Nat) → Shared → Prop} (hD : s.heap.get? D = some (setObjT (!w.params.followText "set-order"))) (h : Q (some (.bool true, if w.params.followText "set-order" then 0 else 2)) s) :
  wpAny (model prog w) A (setNext D 0 0 1) Q E s := by
 unfold setNext
 refine wpAny_bind (wpAny_setState_of hD rfl rfl ?_)
 refine wpAny_bind (setsByText_w ?_)
 cases hb : w.params.followText "set-order" with
 | true =>
  rw [hb] at h hD
  refine wpAny_bind ?_
  unfold setWalk
  refine wpAny_bind (wpAny_setState_of hD rfl rfl ?_)
  refine wpAny_bind (setsByText_w ?_)
  rw [hb]
  refine wpAny_bind (wpAny_askSetting (wpAny_pure ?_))
  refine wpAny_pure ?_
  rw [pick_one]
  exact h
 | false =>
  rw [hb] at h
  exact wpAny_pure h
theorem setNext_T1 {D : Addr} {Q : Option (Value × Nat) → Shared → Prop} (hD : s.heap.get? D = some (setObjT (!w.params.followText "set-order"))) (h : Q none s) :
  wpAny (model prog w) A (setNext D (if w.params.followText "set-order" then 0 else 2) 1 1) Q E s := by
 unfold setNext
 refine wpAny_bind (wpAny_setState_of hD rfl rfl ?_)
 refine wpAny_bind (setsByText_w ?_)
 cases hb : w.params.followText "set-order" with
 | true =>
  rw [hb] at hD
  refine wpAny_bind ?_
  unfold setWalk
  refine wpAny_bind (wpAny_setState_of hD rfl rfl ?_)
  refine wpAny_bind (setsByText_w ?_)
  rw [hb]
  refine wpAny_bind (wpAny_askSetting (wpAny_pure ?_))
  refine wpAny_pure ?_
  rw [pick_one]
  exact h
 | false =>
  exact wpAny_pure h
theorem pyNext_T0 {D I : Addr} {Q : Option Value → Shared → Prop} (hD : s.heap.get? D = some (setObjT (!w.params.followText "set-order"))) (hI : s.heap.get? I = some (seti D 0 0)) (hne : D ≠ I)
  (h : ∀ h', h'.get? I = some (seti D (if w.params.followText "set-order" then 0 else 2 : Nat) 1) → Heap.SameBut I s.heap h' → Q (some (.bool true)) { s with heap := h' }) : wpAny (model prog w) A (pyNext (.ref I)) Q E s := by
 have hT : s.TypeIs (.ref I) "set_iterator" := ⟨_, hI, rfl⟩
 unfold pyNext
 refine wpAny_bind (wpAny_attempt (wpAny_callSpecial?_slot (name := Str.ofString "__next__") hT slot_seti_next
  (wpAny_call_entry slot_seti_next hT entry_seti_next ?_ (args_seti_next _))))
 show wpAny _ _ (fieldsOf (.ref I) >>= _) _ _ s
 refine wpAny_bind (wpAny_fieldsOf hI rfl ?_)
 show wpAny _ _ ((do let e ← setEntries D; if ((e.size : Int) != 1) = true then _ else _)) _ _ s
 refine wpAny_bind (wpAny_bind (wpAny_setState_of hD rfl rfl (wpAny_pure ?_)))
 show wpAny _ _ (setNext D 0 0 1 >>= _) _ _ s
 refine wpAny_bind (setNext_T0 hD ?_)
 show wpAny _ _ (setField (.ref I) 0 (rawInt ((if w.params.followText "set-order" then 0 else 2 : Nat) : Nat)) >>= _) _ _ s
 refine wpAny_bind (wpAny_setField_rec hI (by simp) fun h_1 e_1 k_1 => ?_)
 replace k_1 : Heap.SameBut I s.heap h_1 := k_1
 refine wpAny_bind (wpAny_setField_rec e_1 (by simp) fun h_2 e_2 k_2 => ?_)
 replace k_2 : Heap.SameBut I h_1 h_2 := k_2
 exact wpAny_pure ⟨_, rfl, wpAny_pure (h h_2 e_2 (k_1.trans k_2))⟩
theorem pyNext_T1 {D I : Addr} {Q : Option Value → Shared → Prop} (hh : A.handled = none) (hD : s.heap.get? D = some (setObjT (!w.params.followText "set-order"))) (hI : s.heap.get? I = some (seti D (if w.params.followText "set-order" then 0 else 2 : Nat) 1))
  (h : ∀ h', Heap.ExtBut I s.heap h' → Q none { s with heap := h' }) : wpAny (model prog w) A (pyNext (.ref I)) Q E s := by
 have hT : s.TypeIs (.ref I) "set_iterator" := ⟨_, hI, rfl⟩
 unfold pyNext
 refine wpAny_bind (wpAny_attempt (wpAny_callSpecial?_slot (name := Str.ofString "__next__") hT slot_seti_next
  (wpAny_call_entry slot_seti_next hT entry_seti_next ?_ (args_seti_next _))))
 show wpAny _ _ (fieldsOf (.ref I) >>= _) _ _ s
 refine wpAny_bind (wpAny_fieldsOf hI rfl ?_)
 show wpAny _ _ ((do let e ← setEntries D; if ((e.size : Int) != 1) = true then _ else _)) _ _ s
 refine wpAny_bind (wpAny_bind (wpAny_setState_of hD rfl rfl (wpAny_pure ?_)))
 show wpAny _ _ (setNext D (if w.params.followText "set-order" then 0 else 2) 1 1 >>= _) _ _ s
 refine wpAny_bind (setNext_T1 hD ?_)
 show wpAny _ _ (setField (.ref I) 2 .none >>= _) _ _ s
 refine wpAny_bind (wpAny_setField_rec hI (by simp) fun h_1 e_1 k_1 => ?_)
 replace k_1 : Heap.SameBut I s.heap h_1 := k_1
 show wpAny _ _ (newExc (.type "StopIteration") [] >>= _) _ _ _
 refine wpAny_bind ?_
 simp only [newExc, newTuple]
 refine wpAny_bind (wpAny_newObj_type ?_ (by size_fits))
 refine wpAny_bind (m := firstArgMember _ _) (wpAny_of_eq (a := Value.none) (by first | rfl | (simp only [firstArgMember]; rfl)) ?_)
 refine wpAny_newObj_type ?_ (by size_fits)
 simp only [raiseNew]
 refine wpAny_bind (wpAny_handled ?_)
 first | rw [show A.in1.handled = none from hh] | rw [hh]
 refine wpAny_bind (wpAny_pure (wpAny_throw ?_))
 refine wpAny_bind (wpAny_isInstance (T := "StopIteration") (b := true) ⟨_, Heap.get?_push_size _ rfl, rfl⟩ isSubtype_stop ?_)
 exact wpAny_pure (h _ ((k_1.extBut.push _).push _))
end
section
variable {prog : Program} {w : World} {A : Around} {E : VP} {s0 s : Shared} {g : Heap} {L : Addr} {m : SM} {r : LD}
theorem q_unpackT {env : Env} {x : Str} {px pt : Pos} {x1} {D : Addr} {Q : Unit → Shared → Prop} (hh : A.handled = none) (S : Stt s0 g L m ((D, setObjT (!w.params.followText "set-order")) :: r) s)
  (h : ∀ s', Stt s0 g L m r s' → WP (model prog w) A (storeName env x (.bool true)) Q E s') : WP (model prog w) A (assign (.Tuple [.Name x px] x1 pt) env (.ref D)) Q E s := by
 refine ⟨?_⟩
 rw [arm_assign_Tuple]
 refine wpAny_bind (wpAny_standAt ?_)
 have hD := S.get (.head _)
 have hT : s.TypeIs (.ref D) "set" := ⟨_, hD, rfl⟩
 have hne : D ≠ s.heap.objs.size := Nat.ne_of_lt (Heap.lt_size hD)
 unfold unpack
 rw [show (assignEach [Expr.Name x px] env).length = 1 from rfl, show (assignEach [Expr.Name x px] env).findIdx? (·.1) = none from rfl]
 refine wpAny_bind (wpAny_holding ?_)
 unfold unpackItems
 refine wpAny_bind ?_
 unfold notIterableAtAll
 refine wpAny_bind (wpAny_specialOf hT F.slot_set_iter.lookup ?_)
 refine wpAny_pure ?_
 simp only [Bool.false_eq_true, if_false]
 refine wpAny_bind (wpAny_holding (pyIter_setT hD ?_))
 have S_1 := S.push (seti D 0 0) s.toks
 have S_2 := S_1.sub (List.Sublist.cons_cons _ (List.Sublist.refl _))
 show wpAny _ _ (holding [_] (draw (.ref s.heap.objs.size) 1) >>= _) _ _ _
 refine wpAny_bind (wpAny_holding ?_)
 show wpAny _ _ (pyNext (.ref s.heap.objs.size) >>= _) _ _ _
 refine wpAny_bind (pyNext_T0 (S_1.get (.tail _ (.head _))) (S_1.get (.head _)) hne fun h_1 e_1 k_1 => ?_)
 have S_3 := S_1.setAt s.toks .head k_1 e_1
 refine wpAny_bind (wpAny_holding (wpAny_pure (wpAny_pure ?_)))
 rw [if_neg (by simp)]
 refine wpAny_bind (wpAny_holding (pyNext_T1 hh (S_3.get (.tail _ (.head _))) (S_3.get (.head _)) fun h_2 k_2 => ?_))
 simp only [Option.isSome_none, Bool.false_eq_true, if_false]
 refine wpAny_pure ?_
 have S4 := S_3.dropB s.toks (fun b o hb e => k_2 b o (fun q => hb (List.mem_singleton.mpr q)) e)
 have S5 := S4.sub (List.sublist_cons_self _ _)
 show wpAny _ _ (do holding [] (assign (.Name x px) env (.bool true)); pure ()) _ _ _
 exact wpAny_bind (wpAny_holding (wpAny_assign_Name (wpAny_mono (h _ S5).run (fun _ _ q => wpAny_pure q) fun _ _ e => e)))
end
end
section
open PyProof.Rows.TI
open Builtin Builtin.Str
theorem strValues_all : ∀ (l : List (Str × Tok)) {us : List Str}, l.map (·.1) = us → All2 Vs (strValues l) us
 | [], _, rfl => .nil
 | (x, t) :: l, _, rfl => .cons ⟨t, rfl⟩ (strValues_all l rfl)
theorem all_strValues {vs : List Value} {us : List Str} (h : All2 Vs vs us) : ∃ l : List (Str × Tok), vs = strValues l ∧ l.map (·.1) = us := by
 induction h with
 | nil => exact ⟨[], rfl, rfl⟩
 | cons e r ih =>
  obtain ⟨t, rfl⟩ := e
  obtain ⟨l, rfl, rfl⟩ := ih
  exact ⟨(_, t) :: l, rfl, rfl⟩
theorem chain_len {x y : Str} {hi : Nat} (hy : 1 ≤ y.length) : ∀ {cuts : List Nat} {a f : Nat}, StrLaws.ChainTo x y hi a cuts f → cuts.length ≤ hi - a
 | [], _, _, _ => Nat.zero_le _
 | c :: r, a, f, h => by
  have ih := chain_len hy h.2.2
  have h1 := h.1
  have h2 := h.2.1.1
  simp only [List.length_cons]; lia
theorem partsFrom_len (x : Str) (w : Nat) : ∀ (a : Nat) (cuts : List Nat), (StrLaws.partsFrom x w a cuts).length = cuts.length + 1
 | _, [] => rfl
 | _, c :: r => by simp [StrLaws.partsFrom, partsFrom_len x w _ r]
theorem parts_le (x y : Str) (hy : 1 ≤ y.length) : (partsBetween x (occurrences x y 0 x.length (x.length + 1)) y.length).length ≤ x.length + 1 := by
 obtain ⟨f, h⟩ := StrLaws.occ_chain x y (x.length + 1)
 have := chain_len hy h
 rw [StrLaws.partsBetween_eq, partsFrom_len]; lia
theorem split_len (x y : Str) (hy : 1 ≤ y.length) : (Txt.split x y).length ≤ x.length + 1 := by
 unfold Txt.split
 split
 ·simp
 ·split
  ·simp
  ·exact parts_le x y hy
section
variable {prog : Program} {w : World} {A : Around} {env : Env} {E : VP} {s0 s : Shared} {g : Heap} {L : Addr} {m : SM} {news : LD}
theorem split_on {a : Sem Value} {x : Str} {t : Tok} {pos : Pos} {Q : VP} (hx : x.length ≤ 1000)
  (h : wpAny (model prog w) A a (fun v s_1 => Ex2 fun y u => An3 (v = .str y u) (1 ≤ y.length) (∃ s0 g L m news, Stt s0 g L m news s_1 ∧ ∀ D vs s', All2 Vs vs (Txt.split x y) → Stt s0 g L m ((D, W.listOf vs.toArray 0) :: news) s' → Q (.ref D) s')) E s) : MethodOnS prog w A E "split" (.str x t) pos [(false, a)] Q s := by
 have hx' : x.length ≤ sizeLine := Nat.le_trans hx (by decide)
 refine ⟨"str", _, F.plainAttrs_str, F.slot_str_split, F.type_str_split, typeIs_str _ _ _, (fun _ e => nomatch e),
  method1_meets F.slot_str_split F.entry_str_split (wpAny_mono h (fun v s_1 h_1 => ?_) fun _ _ e => e)⟩
 refine byG fun GG hGG => ?_
 obtain ⟨y, u, rfl, hy1, s0, g, L, m, news, S, hq⟩ := h_1
 refine hGG ?_
 clear hGG GG
 have hy : (y.length == 0) = false := by rw [beq_eq_false_iff_ne]; lia
 have hn : (partsBetween x (occurrences x y 0 x.length (x.length + 1)) y.length).length ≤ sizeLine := Nat.le_trans (parts_le x y hy1) (Nat.le_trans (Nat.succ_le_succ hx) (by decide))
 refine ⟨typeIs_str _ _ _, F.args_str_split_2 _ _, ?_⟩
 have one : Txt.split x y = [x] → Q (.ref s_1.heap.objs.size) { s_1 with heap := s_1.heap.push { cls := .type "list", data := .seq [Value.str x t].toArray } } := fun e => hq _ [.str x t] _ (e ▸ .cons ⟨t, rfl⟩ .nil) (S.push _ s_1.toks)
 cases h1 : (decide (x.length < y.length) || decide (strKind x < strKind y))
 ·cases hf : (occurrences x y 0 x.length (x.length + 1)).isEmpty
  ·refine ⟨_, meets_str_split_sep x y t u h1 hy hf hx' hn, ?_⟩
   show wants Q E _ { s_1 with toks := _, heap := s_1.heap.push { cls := .type "list", data := .seq (strsFrom s_1.toks (partsBetween x (occurrences x y 0 x.length (x.length + 1)) y.length)).toArray } }
   rw [strsFrom_eq]
   exact hq _ _ _ (strValues_all (numbered s_1.toks _) ((numbered_texts _ _).trans ((if_neg (ne_true_of_eq_false h1)).trans (if_neg (ne_true_of_eq_false hf))).symm)) (S.push _ _)
  ·exact ⟨_, meets_str_split_not_found x y t u h1 hy hf, one ((if_neg (ne_true_of_eq_false h1)).trans (if_pos hf))⟩
 ·exact ⟨_, meets_str_split_cannot_occur x y t u h1, one (if_pos h1)⟩
theorem q_split {o e : Expr} {apos pos : Pos} {Q : VP}
  (h : WP (model prog w) A (eval o env) (fun ov s_1 => Ex2 fun x t => An3 (ov = .str x t) (x.length ≤ 1000) (WP (model prog w) A (eval e env) (fun v s_1 => Ex2 fun y u => An3 (v = .str y u) (1 ≤ y.length) (∃ s0 g L m news, Stt s0 g L m news s_1 ∧ ∀ D vs s', All2 Vs vs (Txt.split x y) → Stt s0 g L m ((D, W.listOf vs.toArray 0) :: news) s' → Q (.ref D) s')) E s_1)) E s)
  (hbase : attributeBase o "split" env (eval o env) = eval o env := by exact rfl) (hs : starEach [e] env = [(false, eval e env)] := by exact rfl) (hline : (apos.endLine == pos.line) = true := by exact rfl) :
  WP (model prog w) A (eval (.Call (.Attribute o "split" apos) [e] [] pos) env) Q E s :=
 ⟨Call_method1 hbase hs hline (wpAny_mono h.run (fun ov s_1 ⟨x, t, e, hx, k⟩ => e ▸ split_on hx k.run) fun _ _ e => e)⟩
theorem q_join {o e : Expr} {apos pos : Pos} {Q : VP}
  (h : WP (model prog w) A (eval o env) (fun ov s_1 => Ex2 fun x t => And (ov = .str x t) (WP (model prog w) A (eval e env) (fun v s_1 => Ex9 fun D vs n us s0 g L m news => An6 (v = .ref D) (s_1.heap.get? D = some (W.listOf (List.toArray vs) n)) (All2 Vs vs us) (JoinOk x us = true) (Stt s0 g L m news s_1) (∀ t' s', Stt s0 g L m news s' → Q (.str (Txt.join x us) t') s')) E s_1)) E s)
  (hbase : attributeBase o "join" env (eval o env) = eval o env := by exact rfl) (hs : starEach [e] env = [(false, eval e env)] := by exact rfl) (hline : (apos.endLine == pos.line) = true := by exact rfl) :
  WP (model prog w) A (eval (.Call (.Attribute o "join" apos) [e] [] pos) env) Q E s :=
 ⟨Call_method1 hbase hs hline (wpAny_mono h.run (fun ov s_1 ⟨x, t, e, k⟩ => e ▸ SB.join (wpAny_mono k.run (fun v s_2 h_2 => by
  refine byG fun GG hGG => ?_
  obtain ⟨D, vs, n, us, s0, g, L, m, news, rfl, hD, hv, hok, S, hq⟩ := h_2
  obtain ⟨l, rfl, hl⟩ := all_strValues hv
  refine hGG ?_
  clear hGG GG
  exact ⟨D, l, rfl, ⟨_, hD, rfl, n, rfl⟩, us, hl, hok, fun t' k => hq _ _ (S.tok k)⟩) fun _ _ e => e)) fun _ _ e => e)⟩
theorem q_nes {x y : Str} {t u : Tok} {Q : VP} (h : Q (.bool (x != y)) s) : WP (model prog w) A (compareOp .NotEq (.str x t) (.str y u)) Q E s := by
 refine ⟨P.ne_str ?_⟩
 have : (x.cps.toList != y.cps.toList) = (x != y) := by
  rw [Bool.eq_iff_iff]
  simp only [bne_iff_ne, ne_eq]
  exact not_congr ⟨fun e => by cases x; cases y; simp_all, fun e => by rw [e]⟩
 rw [this]; exact h
end
theorem ltS_asymm (x y : Str) (h : ltS x y = true) : ltS y x = false := by
 unfold ltS at *
 rw [decide_eq_true_eq] at h
 rw [decide_eq_false_iff_not]
 exact List.not_lt.mpr (List.le_of_lt h)
end
section
open PyProof.Rows.TI
theorem ltS_total {x y : Str} (h : x ≠ y) (h1 : ltS x y = false) : ltS y x = true := by
 unfold ltS at *
 rw [decide_eq_false_iff_not] at h1
 rw [decide_eq_true_eq]
 by_cases h2 : y.cps.toList < x.cps.toList
 ·exact h2
 ·have e : x.cps.toList = y.cps.toList := List.le_antisymm (List.not_lt.mp h2) (List.not_lt.mp h1)
  exact absurd (by cases x; cases y; simp_all) h
theorem ltL_asymm : ∀ xs ys : List Str, ltL xs ys = true → ltL ys xs = false
 | _, [], h => by simp [ltL] at h
 | [], _ :: _, _ => rfl
 | x :: xs, y :: ys, h => by
  simp only [ltL] at h ⊢
  by_cases e : x = y
  ·subst e; simp only [beq_self_eq_true, if_true] at h ⊢; exact ltL_asymm xs ys h
  ·rw [if_neg (by simpa using e)] at h
   rw [if_neg (by simpa using Ne.symm e)]
   exact ltS_asymm _ _ h
theorem ltL_total : ∀ xs ys : List Str, ltL xs ys = false → ltL ys xs = false → xs = ys
 | [], [], _, _ => rfl
 | [], _ :: _, h, _ => by simp [ltL] at h
 | _ :: _, [], _, h => by simp [ltL] at h
 | x :: xs, y :: ys, h, h2 => by
  simp only [ltL] at h h2
  by_cases e : x = y
  ·subst e; simp only [beq_self_eq_true, if_true] at h h2; rw [ltL_total xs ys h h2]
  ·rw [if_neg (by simpa using e)] at h
   rw [if_neg (by simpa using Ne.symm e)] at h2
   rw [ltS_total e h] at h2; cases h2
theorem ltL_prefix (c : Str) (r : List Str) : ∀ xs : List Str, ltL xs (xs ++ c :: r) = true
 | [] => rfl
 | x :: xs => by simp only [List.cons_append, ltL, beq_self_eq_true, if_true]; exact ltL_prefix c r xs
noncomputable def minL (us vs : List Str) : List Str := if ltL vs us then vs else us
noncomputable def maxL (us vs : List Str) : List Str := if ltL us vs then vs else us
noncomputable def comPre : List Str → List Str → List Str
 | x :: xs, y :: ys => if x == y then x :: comPre xs ys else []
 | _, _ => []
theorem comPre_comm : ∀ xs ys, comPre xs ys = comPre ys xs
 | [], [] => rfl
 | [], _ :: _ => rfl
 | _ :: _, [] => rfl
 | x :: xs, y :: ys => by
  simp only [comPre]
  by_cases e : x = y
  ·subst e; simp only [beq_self_eq_true, if_true]; rw [comPre_comm xs ys]
  ·rw [if_neg (by simpa using e), if_neg (by simpa using Ne.symm e)]
theorem comPre_minmax (us vs : List Str) : comPre (minL us vs) (maxL us vs) = comPre us vs := by
 unfold minL maxL
 by_cases h1 : ltL vs us = true
 ·rw [h1, ltL_asymm _ _ h1]; simp only [if_true, Bool.false_eq_true, if_false]; exact comPre_comm _ _
 ·rw [Bool.not_eq_true] at h1
  rw [h1]; simp only [Bool.false_eq_true, if_false]
  by_cases h2 : ltL us vs = true
  ·rw [h2]; rfl
  ·rw [Bool.not_eq_true] at h2
   rw [h2]; simp only [Bool.false_eq_true, if_false]
   rw [ltL_total us vs h2 h1]
theorem minmax_no_prefix (us vs : List Str) (c : Str) (r : List Str) : minL us vs ≠ maxL us vs ++ c :: r := by
 unfold minL maxL
 by_cases h1 : ltL vs us = true
 ·rw [h1, ltL_asymm _ _ h1]; simp only [if_true, Bool.false_eq_true, if_false]
  intro e; rw [e] at h1
  have := ltL_asymm _ _ (ltL_prefix c r us)
  rw [h1] at this; cases this
 ·rw [Bool.not_eq_true] at h1
  rw [h1]; simp only [Bool.false_eq_true, if_false]
  by_cases h2 : ltL us vs = true
  ·rw [h2]; simp only [if_true]
   intro e; rw [e] at h2
   have := ltL_asymm _ _ (ltL_prefix c r vs)
   rw [h2] at this; cases this
  ·rw [Bool.not_eq_true] at h2
   rw [h2]; simp only [Bool.false_eq_true, if_false]
   intro e
   have := congrArg List.length e
   simp at this
theorem comPre_take : ∀ (i : Nat) (xs ys : List Str), i ≤ xs.length → (∀ j, j < i → xs[j]? = ys[j]?) → (i = xs.length ∨ xs[i]? ≠ ys[i]?) → comPre xs ys = xs.take i
 | 0, [], ys, _, _, _ => by cases ys <;> rfl
 | 0, x :: xs, [], _, _, _ => rfl
 | 0, x :: xs, y :: ys, _, _, h => by
  rcases h with h | h
  ·simp at h
  ·simp only [comPre]
   rw [if_neg (by simpa using h)]; rfl
 | i + 1, [], ys, h, _, _ => by simp at h
 | i + 1, x :: xs, [], _, h, _ => by have := h 0 (by lia); simp at this
 | i + 1, x :: xs, y :: ys, hi, h, h2 => by
  have h0 := h 0 (by lia)
  simp only [List.getElem?_cons_zero, Option.some.injEq] at h0
  subst h0
  simp only [comPre, beq_self_eq_true, if_true, List.take_succ_cons]
  rw [comPre_take i xs ys (by simpa using hi) (fun j hj => by have := h (j + 1) (by lia); simpa using this) (by simpa using h2)]
theorem same_prefix : ∀ (i : Nat) (xs ys : List Str), i < xs.length → ys.length ≤ i → (∀ j, j < i → xs[j]? = ys[j]?) → ∃ c r, xs = ys ++ c :: r
 | _, [], _, h, _, _ => by simp at h
 | _, x :: xs, [], _, _, _ => ⟨x, xs, rfl⟩
 | 0, x :: xs, y :: ys, _, h, _ => by simp at h
 | i + 1, x :: xs, y :: ys, h1, h2, h => by
  have h0 := h 0 (by lia)
  simp only [List.getElem?_cons_zero, Option.some.injEq] at h0
  subst h0
  obtain ⟨c, r, e⟩ := same_prefix i xs ys (by simpa using h1) (by simpa using h2) (fun j hj => by have := h (j + 1) (by lia); simpa using this)
  exact ⟨c, r, by rw [e]; rfl⟩
section
variable {prog : Program} {w : World} {A : Around} {env : Env} {g base : Heap} {outer : List Env} {nm : List Str} {G : SV}
 {E : VP} {s0 s : Shared} {L : Addr} {m : SM} {news r : LD}
theorem Fm.at (C : Fm w A env g base outer nm G) {B : Around} (e1 : B.frames = A.frames) (e2 : B.handled = A.handled) : Fm w B env g base outer nm G :=
 ⟨C.X, C.T, C.B, e1.trans C.hA, C.hf, C.hk, e2.trans C.hh, C.hg, C.hb, C.nd, C.loc, C.glo⟩
theorem q_truthT (S : Stt s0 g L m news s) {t : Addr} {vs : List Value} {Q : Bool → Shared → Prop} (ht : (t, tupObj vs) ∈ news) (hl : vs.length ≤ 1000) (h : ∀ s', Stt s0 g L m news s' → Q (!vs.isEmpty) s') : WP (model prog w) A (truthy (.ref t)) Q E s := by
 refine ⟨truthy_tuple ⟨_, S.get ht, rfl, _, rfl⟩ (by simp; with_reducible exact n40 (by assumption) (by decide)) ?_⟩
 have := h _ (S.tok (s.toks + 1 + 1))
 simpa using this
theorem q_map (S : Stt s0 g L m r s) {l : Addr} {f : Value} {items : Array Value} {Q : VP} (hL : s.heap.IsList l items)
  (h : ∀ I T M s', Stt s0 g L m ((I, listIt l 0) :: (T, tupObj [.ref I]) :: (M, mapObj T f) :: r) s' → (∀ b o, s.heap.get? b = some o → s'.heap.get? b = some o) → Q (.ref M) s') :
  WP (model prog w) A (call (.type "map") [f, .ref l]) Q E s := ⟨call_map S hL h⟩
theorem q_tupM {I T M l : Addr} {f : Value} {vs : List Value} {it : Obj} {Q : VP} (hh : A.handled = none) (hf : CallsId prog w A s0 g L m f vs) (hl : ∀ s, Stt s0 g L m r s → s.heap.IsList l vs.toArray) (hne : l ≠ I) (hn : vs.length ≤ 1000)
  (S : Stt s0 g L m ((I, it) :: (T, tupObj [.ref I]) :: (M, mapObj T f) :: r) s) (hit : s.heap.IsListIter I l 0) (h : ∀ t s', Stt s0 g L m ((t, tupObj vs) :: r) s' → Q (.ref t) s') : WP (model prog w) A (call (.type "tuple") [.ref M]) Q E s :=
 ⟨call_tuple_map hh hf hl hne hn S hit h⟩
theorem q_min (S : Stt s0 g L m news s) {l a b : Addr} {n na nb : Nat} {xs ys : List Value} {us vs : List Str} {Q : VP} (hh : A.handled = none) (hl : (l, W.listOf #[.ref a, .ref b] n) ∈ news) (ha : (a, W.listOf xs.toArray na) ∈ news) (hb : (b, W.listOf ys.toArray nb) ∈ news)
  (hx : All2 Vs xs us) (hy : All2 Vs ys vs) (hu : A.units + 5 < cLine) (h : ∀ s', Stt s0 g L m news s' → Q (if ltL vs us then .ref b else .ref a) s') : WP (model prog w) A (call (.builtin "min") [.ref l]) Q E s :=
 ⟨call_min2 hh ⟨_, S.get hl, rfl, n, rfl⟩ (fun s' E' Q' hk hq => rich_lt ⟨_, hk _ _ (S.get hb), rfl, nb, rfl⟩ ⟨_, hk _ _ (S.get ha), rfl, na, rfl⟩ hy hx (by show A.units + 1 < cLine; with_reducible exact n36 (by assumption) (by decide)) hq) fun h' tk hk => h _ (S.keeps tk hk)⟩
theorem q_max (S : Stt s0 g L m news s) {l a b : Addr} {n na nb : Nat} {xs ys : List Value} {us vs : List Str} {Q : VP} (hh : A.handled = none) (hl : (l, W.listOf #[.ref a, .ref b] n) ∈ news) (ha : (a, W.listOf xs.toArray na) ∈ news) (hb : (b, W.listOf ys.toArray nb) ∈ news)
  (hx : All2 Vs xs us) (hy : All2 Vs ys vs) (hu : A.units + 5 < cLine) (h : ∀ s', Stt s0 g L m news s' → Q (if ltL us vs then .ref b else .ref a) s') : WP (model prog w) A (call (.builtin "max") [.ref l]) Q E s :=
 ⟨call_max2 hh ⟨_, S.get hl, rfl, n, rfl⟩ (fun s' E' Q' hk hq => rich_gt ⟨_, hk _ _ (S.get hb), rfl, nb, rfl⟩ ⟨_, hk _ _ (S.get ha), rfl, na, rfl⟩ hy hx (by show A.units + 1 < cLine; with_reducible exact n36 (by assumption) (by decide)) hq) fun h' tk hk => h _ (S.keeps tk hk)⟩
theorem q_assignTS {t value : Expr} {pos : Pos} {Q : FP} (h : WP (model prog w) A (eval value env) (fun v s_1 => WP (model prog w) A (assign t env v) (fun _ => Q .next) E s_1) E s)
  (he : ∀ v, assignAll v ((assignEach [t] env).map (·.2)) = assign t env v := by exact fun _ => rfl)
  (hs : swapsWithSole [t] value pos.line env = pure false := by exact rfl) (hw : swappedStores [t] value env = pure none := by exact rfl) : WP (model prog w) A (exec (.Assign [t] value pos) env) Q E s :=
 ⟨wpAny_Assign_stores (wpAny_mono h.run (fun v s_1 h_1 => by rw [he]; exact h_1.run) fun _ _ e => e) hs hw⟩
theorem compEnv_kind {scope : Scope} {cl : List (Str × Addr)} {C : Addr} (hk : scope.kind = .function) : (compEnvC scope cl C env).scope.kind = .function := by simp [compEnvC, relabel, hk]
theorem compEnv_cell {scope : Scope} {cl : List (Str × Addr)} {C : Addr} {x : Str} (hl : scope.names.lookup x = some .free) (hf : env.scope.kind = .function ∧ env.kindOf x = some .cell) : (compEnvC scope cl C env).kindOf x = some .cell :=
 lookup_relabel_free hl hf.1 hf.2
end
noncomputable def dotS : Str := Str.ofString "."
noncomputable def compsS (x : Str) : List Str := (Txt.split x slash).filter fun c => c.length != 0 && c != dotS
noncomputable def cpath (x y : Str) : Str := slash ++ Txt.join slash (comPre (compsS x) (compsS y))
theorem All2.of_map {α β γ : Type} {R : α → β → Prop} {f : γ → β} {as : List α} {cs : List γ} (h : All2 R as (cs.map f)) : All2 (fun a c => R a (f c)) as cs := by
 induction cs generalizing as with
 | nil => cases h; exact .nil
 | cons c cs ih => cases h with | cons e r => exact .cons e (ih r)
theorem join_len (sep : Str) : ∀ (ps : List Str) (p : Str), p ∈ ps → p.length ≤ (Str.join sep ps).length
 | [], p, h => by cases h
 | [q], p, h => by rw [List.mem_singleton.mp h]; exact Nat.le_refl _
 | q :: q' :: r, p, h => by
  have ih := join_len sep (q' :: r)
  show p.length ≤ (q ++ sep ++ Str.join sep (q' :: r)).length
  rw [slen, slen]
  rcases List.mem_cons.mp h with rfl | h
  ·lia
  ·have := ih p h; lia
theorem part_len {x y p : Str} (h : p ∈ Txt.split x y) : p.length ≤ x.length := by
 have := join_len y _ p h
 rwa [StrLaws.join_split] at this
theorem join_le (sep : Str) (B : Nat) : ∀ (ps : List Str), (∀ p ∈ ps, p.length ≤ B) → (Str.join sep ps).length ≤ ps.length * (B + sep.length)
 | [], _ => Nat.zero_le _
 | [q], h => by
  have := h q (.head _)
  show q.length ≤ 1 * _
  lia
 | q :: q' :: r, h => by
  have ih := join_le sep B (q' :: r) fun p hp => h p (.tail _ hp)
  have h1 := h q (.head _)
  show (q ++ sep ++ Str.join sep (q' :: r)).length ≤ _
  rw [slen, slen, List.length_cons, Nat.succ_mul]
  lia
theorem comPre_pre : ∀ xs ys : List Str, (comPre xs ys).Sublist xs
 | [], ys => by cases ys <;> exact List.Sublist.refl _
 | x :: xs, [] => List.nil_sublist _
 | x :: xs, y :: ys => by
  simp only [comPre]
  split
  ·exact (comPre_pre xs ys).cons_cons x
  ·exact List.nil_sublist _
theorem q_saddL {prog : Program} {w : World} {A : Around} {env : Env} {g : Heap} {E : VP} {s0 s : Shared} {m : SM} {news : LD} (S : Stt s0 g env.locals m news s) {x y : Str} {t u : Tok} {Q : VP} (hsz : x.length + y.length ≤ 1000000) (h : ∀ t s', Stt s0 g env.locals m news s' → Q (.str (x ++ y) t) s') : WP (model prog w) A (binaryOp .Add (.str x t) (.str y u)) Q E s :=
 ⟨PyProof.Rows.add_str (fun t' tk => h t' _ (S.tok tk)) (Nat.le_trans hsz (by decide))⟩
theorem all2_two {α β : Type} {R : α → β → Prop} {zs : List α} {a b : β} (h : All2 R zs [a, b]) : ∃ v u, zs = [v, u] ∧ R v a ∧ R u b := by
 cases h with
 | cons e r => cases r with
  | cons e2 r2 => cases r2; exact ⟨_, _, rfl, e, e2⟩
theorem compath_spec {w : World} {A : Around} {env : Env} {g base : Heap} {outer : List Env} {nm : List Str} {G : SV} {s0 s : Shared} {m : SM} {news : LD}
  {E : VP} {l : Addr} {n : Nat} {x y : Str} {tx ty : Tok} {Q : VP} :
  (hK w.params).In g → ∀ (C : Fm w A env g base outer nm G) (S : Stt s0 g env.locals m news s) (hd : A.depth + 30 < recursionLimit) (hu : A.units + 100 < cLine)
  (hl : (l, W.listOf #[.str x tx, .str y ty] n) ∈ news) (hx : x.length ≤ 300) (hy : y.length ≤ 300) (hxs : Txt.startswith x slash = true) (hys : Txt.startswith y slash = true)
  (k : ∀ t s', Stt s0 g env.locals m news s' → Q (.str (cpath x y) t) s'),
  WP (model PySem.Challenge.rw_rt0104_01.row.prog w) A (call (.ref 282) [.ref l]) Q E s := by
 k_fill
 intro X C S hd hu hl hx hy hxs hys k
 refine q_defC C (sub := []) (rest := news) S ["paths", "split_paths", "isabs", "s1", "s2", "common", "i", "c", "prefix"] [.ref l] [some (.ref l), none, none, none, none, none, none, none, none] [("tuple", .type "tuple"), ("map", .type "map"), ("fspath", .ref 256), ("isinstance", .builtin "isinstance"), ("bytes", .type "bytes"), ("min", .builtin "min"), ("max", .builtin "max"), ("enumerate", .type "enumerate")] [("paths", .ref l)] [] (fun z => [("curdir", z + 1), ("sep", z)])
  (by k_is) (by k_is) (by lia) (BindsTo.of_eq rfl) (Nat.le_of_ble_eq_true rfl) rfl rfl rfl (by decide +kernel) (fun z => rfl) (by decide) rfl (fun z x hx => by
   rw [List.mem_singleton.mp hx]; exact .inl rfl) rfl rfl rfl ?_
 intro g' cz env' s_1 cells hxx hx' C' Cc Y S_1
 refine q_abs fun PR hR => ?_
 refine byG fun GG hGG => ?_
 obtain ⟨oC, oS, rfl, hoC, hoS⟩ := Y.two
 refine hGG ?_
 clear hGG GG
 replace hoC : oC.data = .cell none := hoC
 replace hoS : oS.data = .cell none := hoS
 have fC := Cc.at (x := "curdir") (c := cz + 1) (by simp)
 have fS := Cc.at (x := "sep") (c := cz) (by simp)
 have lC : env'.cells.lookup ("curdir" : Str) = some (cz + 1) := by rw [Cc.cells]; exact rfl
 have lS : env'.cells.lookup ("sep" : Str) = some cz := by rw [Cc.cells]; exact rfl
 have hlg : g'.get? l = some (W.listOf #[.str x tx, .str y ty] n) := hxx _ _ (S.get hl) (by simp)
 replace S_1 : Stt s g' env'.locals (lcs ["paths", "split_paths", "isabs", "s1", "s2", "common", "i", "c", "prefix"] [some (.ref l), none, none, none, none, none, none, none, none]) [(cz + 1, oC), (cz, oS)] s_1 := S_1
 have hD : (A.deeper env').depth = A.depth + 1 := rfl
 have hU : (A.deeper env').units = A.units + 3 := rfl
 generalize cz + 1 = cc at *
 have hcalls : ∀ m', CallsId PySem.Challenge.rw_rt0104_01.row.prog w (A.deeper env') s g' env'.locals m' (.ref 256) [.str x tx, .str y ty] := by
  intro m' B e1 e2 e3 v hv news s' E' Q' S' hq
  rw [List.mem_cons, List.mem_singleton] at hv
  rcases hv with rfl | rfl
  ·exact (fspath_spec C'.X (C'.at e1 e2) S' (by lia) hq).run
  ·exact (fspath_spec C'.X (C'.at e1 e2) S' (by lia) hq).run
 refine q_cons <| q_assign <| q_call <| q_glob C' S_1 (by walk_at "mem") <| q_cwT <| q_ic <| q_call <| q_glob C' S_1 (by walk_at "mem") <| q_cwT <| q_ic <| q_glob C' S_1 (by walk_at "mem") <| q_ic <| q_name C' S_1 (by walk_at "lk") <| q_i0 <|
  q_map S_1 ⟨_, S_1.base hlg, rfl, n, rfl⟩ fun I T M s_2 S_2 hk_2 => q_i0 <| q_tupM C'.hh (hcalls _) (fun s S => ⟨_, S.base hlg, rfl, n, rfl⟩) (fun e => ?_) (Nat.le_of_ble_eq_true rfl) S_2 ⟨_, S_2.get (.head _), rfl, rfl⟩ fun t s3 S_3 => q_store C' S_3 (by walk_at "up") fun s4 S4 => ?_
 ·have h1 := S_2.base hlg
  rw [e, S_2.get (.head _)] at h1
  exact absurd h1 (by simp)
 refine q_cons <| q_if <| q_tnot <| q_tval <| q_name C' S4 (by walk_at "lk") <| q_truthT S4 (.head _) (Nat.le_of_ble_eq_true rfl) fun s5 S5 => ?_
 refine if_n (by simp) ?_
 refine q_nil <| q_cons <| q_if <| q_tval <| q_call <| q_glob C' S5 (by walk_at "mem") <| q_cwB <| q_ic <| q_sub <| q_name C' S5 (by walk_at "lk") <| q_int S5 fun t6 s6 S6 => q_tupItem (S6.get (.head _)) (by decide) (show (0 : Int) < 2 by decide) (show 2 < 1000 by decide) rfl <| q_ic <| q_glob C' S6 (by walk_at "mem") <| q_i0 <| q_isBytes <| q_tbool ?_
 refine if_n Bool.false_ne_true ?_
 replace S6 := S6.tok (s6.toks + 1)
 refine q_cons <| q_assign <| q_str S6 fun t7 s7 S7 => q_storeX2 S7 hoS fS lS fun oS' s8 hoS' S8 => ?_
 refine q_cons <| q_assign <| q_str S8 fun t9 s9 S9 => q_storeX1 S9 hoC fC lC fun oC' s10 hoC' S10 => q_nil <| q_cons <| q_try ?_
 have hclos : ∀ (sc : Scope) (cl : List (Str × Addr)), closL [(("curdir" : Str), cc), (("sep" : Str), cz)] sc.names [] = some cl → closureFor sc env' = pure cl := fun sc cl h => closureFor_eq Cc.cells h
 replace hoS' : oS'.data = .cell (some (.str slash t7)) := hoS'
 replace hoC' : oC'.data = .cell (some (.str dotS t9)) := hoC'
 have hxy : All2 Vs [Value.str x tx, Value.str y ty] [x, y] := .cons ⟨_, rfl⟩ (.cons ⟨_, rfl⟩ .nil)
 have hxyl : ∀ q ∈ [x, y], q.length ≤ 300 ∧ Txt.startswith q slash = true := fun q hq => by
  rw [List.mem_cons, List.mem_singleton] at hq
  rcases hq with rfl | rfl
  ·exact ⟨hx, hxs⟩
  ·exact ⟨hy, hys⟩
 generalize hR0 : [(t, tupObj [Value.str x tx, Value.str y ty]), (cc, oC'), (cz, oS')] = R0 at *
 have mT : (t, tupObj [Value.str x tx, Value.str y ty]) ∈ R0 := by rw [← hR0]; simp
 have mC : (cc, oC') ∈ R0 := by rw [← hR0]; simp
 have mS : (cz, oS') ∈ R0 := by rw [← hR0]; simp
 replace S10 : Stt s g' env'.locals (lcs ["paths", "split_paths", "isabs", "s1", "s2", "common", "i", "c", "prefix"] [some (.ref t), none, none, none, none, none, none, none, none]) R0 s10 := S10
 refine q_cons <| q_acomp C' (hclos _ _ rfl) (by walk_at "mem") <| q_name C' S10 (by walk_at "lk") ⟨s, _, fun z ys r => ∃ nw, And (r = nw ++ R0) (All2 (LsS (ld nw)) ys (([x, y].take z).map fun q => Txt.split q slash)), _,
  src_seq (lo := tupObj [Value.str x tx, Value.str y ty]) C'.hh ⟨.inr rfl, _, rfl⟩ S10 (.inr ?_) (show 2 ≤ sizeLine by decide) ⟨[], rfl, .nil⟩ ?_, fun D ys r s11 hJ hyl S11 => ?_⟩
 ·rintro z ys r ⟨nw, rfl, _⟩; exact List.mem_append_right _ mT
 ·rintro z v hv ys r_1 I2 it2 Cq oCq mCq D s11 ⟨nw, rfl, hys'⟩ hyl hoCq hm S11
  obtain ⟨q, hq, tq, rfl⟩ := hxy.get' hv
  have hql := hxyl q (List.mem_of_getElem? hq)
  refine q_tests0 <| (if_pos rfl).mpr <| q_split <| q_nameO S11 hoCq hm (.tail _ (.head _)) ⟨_, _, rfl, by lia, q_nameC S11 hoS' (.tail _ (.tail _ (.tail _ (List.mem_append_right _ mS)))) fS ⟨slash, t7, rfl, Nat.le_refl 1, s, g', _, _, _, S11, fun D' vs s12 hvs S12 => ?_⟩⟩
  refine ⟨((D', W.listOf vs.toArray 0) :: nw) ++ R0, S12.perm (List.perm_middle (l₁ := [_, _, _])), (D', W.listOf vs.toArray 0) :: nw, rfl, ?_⟩
  rw [List.take_add_one, hq, List.map_append]
  exact (hys'.mono fun a b h => h.up fun _ _ x => .tail _ x).snoc ⟨D', vs, 0, rfl, .head _, hvs⟩
 obtain ⟨nw, rfl, hys'⟩ := hJ
 replace hys' : All2 (LsS (ld nw)) ys [Txt.split x slash, Txt.split y slash] := hys'
 have hysl := hys'.length
 replace hysl : ys.length = 2 := hysl
 rw [(show Up "split_paths" (some (.ref D)) ["paths", "split_paths", "isabs", "s1", "s2", "common", "i", "c", "prefix"] _ [some (.ref t), some (.ref D), none, none, none, none, none, none, none] by walk_at "up").eq C'.nd] at S11
 generalize hR1 : (D, lst ys) :: (nw ++ R0) = R1 at *
 have mT1 : (t, tupObj [Value.str x tx, Value.str y ty]) ∈ R1 := by rw [← hR1]; exact .tail _ (List.mem_append_right _ mT)
 have mC1 : (cc, oC') ∈ R1 := by rw [← hR1]; exact .tail _ (List.mem_append_right _ mC)
 have mS1 : (cz, oS') ∈ R1 := by rw [← hR1]; exact .tail _ (List.mem_append_right _ mS)
 have mD1 : (D, lst ys) ∈ R1 := by rw [← hR1]; exact .head _
 have hnw1 : ∀ a o, (a, o) ∈ nw → (a, o) ∈ R1 := fun a o h => by rw [← hR1]; exact .tail _ (List.mem_append_left _ h)
 refine q_cons <| q_try <| q_cons <| q_assignTS <| q_scomp (hclos _ _ rfl) <| q_name C' S11 (by walk_at "lk") ⟨s, g', _, _, fun z ys r => r = R1, _,
  src_seqG (lo := tupObj [Value.str x tx, Value.str y ty]) C'.hh ⟨.inr rfl, _, rfl⟩ S11 (.inr ?_) (show 2 ≤ sizeLine by decide) rfl ?_, fun D2 r s12 hr S12 => ?_⟩
 ·rintro z ys r rfl; exact mT1
 ·rintro z v hv r_1 I2 it2 Cq oCq mCq D oD s12 rfl hoCq hm S12
  obtain ⟨q, hq, tq, rfl⟩ := hxy.get' hv
  have hql := hxyl q (List.mem_of_getElem? hq)
  exact q_starts <| q_nameO S12 hoCq hm (.tail _ (.head _)) ⟨_, _, rfl, q_nameC S12 hoS' (.tail _ (.tail _ (.tail _ mS1))) fS ⟨slash, t7, rfl, by rw [hql.2], _, S12, rfl⟩⟩
 rw [hr] at S12
 refine q_unpackT C'.hh S12 fun s13 S13 => q_store C' S13 (by walk_at "up") fun s14 S14 => q_nil ?_
 have hys2 := All2.of_map (cs := [x, y]) (f := fun q => Txt.split q slash) hys'
 refine q_cons <| q_acomp C' (hclos _ [("curdir", cc)] rfl) (by walk_at "mem") <| q_name C' S14 (by walk_at "lk") ⟨s, _, fun z zs r => ∃ nv, And (r = nv ++ R1) (All2 (LsS (ld nv)) zs (([x, y].take z).map compsS)), _,
  src_seq (lo := lst ys) C'.hh ⟨.inl rfl, _, rfl⟩ S14 (.inr ?_) (by rw [hysl]; decide) ⟨[], rfl, .nil⟩ ?_, fun D3 zs r s15 hJ hzl S15 => ?_⟩
 ·rintro z ys r ⟨nv, rfl, _⟩; exact List.mem_append_right _ mD1
 ·rintro z v hv zs r_1 I2 it2 Cq oCq mCq D3 s15 ⟨nv, rfl, hzs⟩ hzl hoCq hm S15
  refine byG fun GG hGG => ?_
  obtain ⟨q, hq, a, pvs, pn, rfl, hpm, hpall⟩ := hys2.get' hv
  refine hGG ?_
  clear hGG GG
  have hql := hxyl q (List.mem_of_getElem? hq)
  have hpl := hpall.length
  have hsl := split_len q slash (Nat.le_refl 1)
  have hamem : ∀ {p0 p1 p2 : Addr × Obj}, (a, W.listOf pvs.toArray pn) ∈ p0 :: p1 :: p2 :: (nv ++ R1) := fun {p0 p1 p2} => .tail _ (.tail _ (.tail _ (List.mem_append_right _ (hnw1 _ _ hpm))))
  refine q_tests0 <| (if_pos rfl).mpr <| q_comp (cl := [("curdir", cc)]) (closureFor_eq (cells := [("curdir", cc)]) rfl rfl) <| q_nameO S15 hoCq hm (.tail _ (.head _))
   ⟨s, g', _, _, fun j us r => r = (I2, it2) :: (Cq, oCq) :: (D3, lst zs) :: (nv ++ R1) ∧ All2 Vs us (((Txt.split q slash).take j).filter fun c => c.length != 0 && c != dotS), _,
    src_seq (lo := W.listOf pvs.toArray pn) C'.hh ⟨.inl rfl, _, rfl⟩ S15 (.inr ?_) (Nat.le_trans (show pvs.length ≤ 1000 by lia) (by decide)) ⟨rfl, .nil⟩ ?_, fun D4 us r s16 hJ hul S16 => ?_⟩
  ·rintro j us r ⟨rfl, _⟩; exact hamem
  ·rintro j v' hv' us r_2 I3 it3 C3 oC3 mC3 D4 s16 ⟨rfl, hus⟩ hul hoC3 hm3 S16
   obtain ⟨c, hc, tc, rfl⟩ := hpall.get' hv'
   have hcl := part_len (List.mem_of_getElem? hc)
   have step : ∀ b : Bool, (c.length != 0 && c != dotS) = b → ((Txt.split q slash).take (j + 1)).filter (fun c => c.length != 0 && c != dotS) = ((Txt.split q slash).take j).filter (fun c => c.length != 0 && c != dotS) ++ (if b then [c] else []) := fun b hb => by
    rw [List.take_add_one, hc, List.filter_append]
    cases b <;> simp [hb]
   refine q_tests1 <| q_tboolop <| q_and <| q_tval <| q_nameO S16 hoC3 hm3 (.tail _ (.head _)) <| q_truthS S16 (by lia) fun s17 S17 => ?_
   cases h1 : (c.length != 0) with
   | false =>
    rw [if_neg (by decide), if_neg (by decide)]
    refine ⟨_, S17, rfl, ?_⟩
    rw [step false (by rw [h1]; rfl), if_neg (by decide), List.append_nil]
    exact hus
   | true =>
    refine if_p rfl ?_
    refine q_and <| q_tcmp <| q_nameO S17 hoC3 hm3 (.tail _ (.head _)) <| q_nameC S17 hoC' (.tail _ (.tail _ (.tail _ (.tail _ (.tail _ (.tail _ (List.mem_append_right _ mC1))))))) ⟨compEnv_kind rfl, compEnv_cell rfl fC⟩ <| q_nes <| q_tbool ?_
    cases h2 : (c != dotS) with
    | false =>
     rw [if_neg (by decide), if_neg (by decide)]
     refine ⟨_, S17, rfl, ?_⟩
     rw [step false (by rw [h1, h2]; rfl), if_neg (by decide), List.append_nil]
     exact hus
    | true =>
     refine if_p rfl ?_
     refine q_and0 <| (if_pos rfl).mpr <| q_nameO S17 hoC3 hm3 (.tail _ (.head _)) ⟨_, S17, rfl, ?_⟩
     rw [step true (by rw [h1, h2]; rfl), if_pos rfl]
     exact hus.snoc ⟨_, rfl⟩
  ·obtain ⟨rfl, hus⟩ := hJ
   rw [hpl, List.take_length] at hus
   refine ⟨((D4, lst us) :: nv) ++ R1, S16.perm (List.perm_middle (l₁ := [_, _, _])), (D4, lst us) :: nv, rfl, ?_⟩
   rw [List.take_add_one, hq, List.map_append]
   exact (hzs.mono fun a b h => h.up fun _ _ x => .tail _ x).snoc ⟨D4, us, us.length, rfl, .head _, hus⟩
 obtain ⟨nv, rfl, hzs⟩ := hJ
 rw [hysl] at hzs
 replace hzs : All2 (LsS (ld nv)) zs [compsS x, compsS y] := hzs
 refine byG fun GG hGG => ?_
 obtain ⟨_, _, rfl, ⟨a1, p1, n1, rfl, hm1, hp1⟩, ⟨a2, p2, n2, rfl, hm2, hp2⟩⟩ := all2_two hzs
 refine hGG ?_
 clear hGG GG
 have hcx : ∀ c ∈ compsS x, c.length ≤ 300 := fun c hc => by
  have := part_len (List.mem_filter.mp hc).1
  lia
 have hcxl : (compsS x).length ≤ 301 := by
  have h1 : (compsS x).length ≤ (Txt.split x slash).length := List.length_filter_le _ _
  have h2 := split_len x slash (Nat.le_refl 1)
  lia
 have hcyl : (compsS y).length ≤ 301 := by
  have h1 : (compsS y).length ≤ (Txt.split y slash).length := List.length_filter_le _ _
  have h2 := split_len y slash (Nat.le_refl 1)
  lia
 have hc1 := hp1.length
 have hc2 := hp2.length
 rw [(show Up "split_paths" (some (.ref D3)) ["paths", "split_paths", "isabs", "s1", "s2", "common", "i", "c", "prefix"] _ [some (.ref t), some (.ref D3), some (.bool true), none, none, none, none, none, none] by walk_at "up").eq C'.nd] at S15
 generalize hR2 : (D3, lst [Value.ref a1, Value.ref a2]) :: (nv ++ R1) = R2 at *
 have mS2 : (cz, oS') ∈ R2 := by rw [← hR2]; exact .tail _ (List.mem_append_right _ mS1)
 have mD2 : (D3, W.listOf #[.ref a1, .ref a2] 2) ∈ R2 := by rw [← hR2]; exact .head _
 have ma1 : (a1, W.listOf p1.toArray n1) ∈ R2 := by rw [← hR2]; exact .tail _ (List.mem_append_left _ hm1)
 have ma2 : (a2, W.listOf p2.toArray n2) ∈ R2 := by rw [← hR2]; exact .tail _ (List.mem_append_left _ hm2)
 obtain ⟨am, pm, nmn, hve, mam, hpm⟩ : ∃ am pm nmn, (if ltL (compsS y) (compsS x) then Value.ref a2 else .ref a1) = .ref am ∧ (am, W.listOf (List.toArray pm) nmn) ∈ R2 ∧ All2 Vs pm (minL (compsS x) (compsS y)) := by
  unfold minL
  cases ltL (compsS y) (compsS x)
  ·exact ⟨_, _, _, rfl, ma1, hp1⟩
  ·exact ⟨_, _, _, rfl, ma2, hp2⟩
 obtain ⟨ax, px, nx, hvx, max, hpx⟩ : ∃ ax px nx, (if ltL (compsS x) (compsS y) then Value.ref a2 else .ref a1) = .ref ax ∧ (ax, W.listOf (List.toArray px) nx) ∈ R2 ∧ All2 Vs px (maxL (compsS x) (compsS y)) := by
  unfold maxL
  cases ltL (compsS x) (compsS y)
  ·exact ⟨_, _, _, rfl, ma1, hp1⟩
  ·exact ⟨_, _, _, rfl, ma2, hp2⟩
 have hml := hpm.length
 have hxl := hpx.length
 have hml2 : (minL (compsS x) (compsS y)).length ≤ 301 := by unfold minL; split <;> with_reducible assumption
 have hxl2 : (maxL (compsS x) (compsS y)).length ≤ 301 := by unfold maxL; split <;> with_reducible assumption
 have hu' : (A.deeper env').units + 5 < cLine := by rw [hU]; lia
 refine q_cons <| q_assign <| q_call <| q_glob C' S15 (by walk_at "mem") <| q_cwB <| q_ic <| q_name C' S15 (by walk_at "lk") <| q_i0 <| q_min S15 C'.hh mD2 ma1 ma2 hp1 hp2 hu' fun s16 S16 => ?_
 rw [hve]
 refine q_store C' S16 (by walk_at "up") fun s17 S17 => ?_
 refine q_cons <| q_assign <| q_call <| q_glob C' S17 (by walk_at "mem") <| q_cwB <| q_ic <| q_name C' S17 (by walk_at "lk") <| q_i0 <| q_max S17 C'.hh mD2 ma1 ma2 hp1 hp2 hu' fun s18 S18 => ?_
 rw [hvx]
 refine q_store C' S18 (by walk_at "up") fun s19 S19 => ?_
 refine q_cons <| q_assign <| q_name C' S19 (by walk_at "lk") <| q_store C' S19 (by walk_at "up") fun s20 S20 => ?_
 refine q_cons <| q_cut (fun f s' => f = .next ∧ ∃ cl cv cn R3 ui uc, Stt s g' env'.locals (lcs ["paths", "split_paths", "isabs", "s1", "s2", "common", "i", "c", "prefix"] [some (.ref t), some (.ref D3), some (.bool true), some (.ref am), some (.ref ax), some (.ref cl), ui, uc, none]) R3 s' ∧ (cl, W.listOf (List.toArray cv) cn) ∈ R3 ∧ All2 Vs cv (comPre (compsS x) (compsS y)) ∧ (cz, oS') ∈ R3) ?_ ?_
 ·refine q_abs fun PC hC => ?_
  refine q_forE C' (by walk_at "mem") (by walk_at "mem") <| q_call <| q_glob C' S20 (by walk_at "mem") <| q_cwT <| q_ic <| q_name C' S20 (by walk_at "lk") <| q_i0 <| q_enum S20 ⟨_, S20.get mam, rfl, nmn, rfl⟩ fun e I s21 S21 =>
   ⟨s, e, I, am, pm, fun i m r => Ex2 fun ui uc => An3 (r = R2) (m = lcs ["paths", "split_paths", "isabs", "s1", "s2", "common", "i", "c", "prefix"] [some (.ref t), some (.ref D3), some (.bool true), some (.ref am), some (.ref ax), some (.ref am), ui, uc, none]) (∀ j, j < i → (minL (compsS x) (compsS y))[j]? = (maxL (compsS x) (compsS y))[j]?), _, _, rfl, S21, ?_, ⟨none, none, rfl, rfl, fun j hj => absurd hj (Nat.not_lt_zero j)⟩, ?_, ?_⟩
  ·rintro i m r ⟨ui, uc, rfl, _⟩; exact ⟨nmn, mam⟩
  ·rintro i v tt m1 r_1 eo io s22 hv hJJ S22
   refine q_abs fun PL hL => ?_
   refine byG fun GG hGG => ?_
   obtain ⟨ui, uc, hr, rfl, heq⟩ := hJJ
   refine hGG ?_
   clear hGG GG
   rw [hr] at S22
   obtain ⟨c, hc, tc, rfl⟩ := hpm.get' hv
   have e1 := (show Up "i" (some (.int (i : Int) tt)) ["paths", "split_paths", "isabs", "s1", "s2", "common", "i", "c", "prefix"] [some (.ref t), some (.ref D3), some (.bool true), some (.ref am), some (.ref ax), some (.ref am), ui, uc, none] [some (.ref t), some (.ref D3), some (.bool true), some (.ref am), some (.ref ax), some (.ref am), some (.int (i : Int) tt), uc, none] by walk_at "up").eq C'.nd
   have e2 := (show Up "c" (some (.str c tc)) ["paths", "split_paths", "isabs", "s1", "s2", "common", "i", "c", "prefix"] [some (.ref t), some (.ref D3), some (.bool true), some (.ref am), some (.ref ax), some (.ref am), some (.int (i : Int) tt), uc, none] [some (.ref t), some (.ref D3), some (.bool true), some (.ref am), some (.ref ax), some (.ref am), some (.int (i : Int) tt), some (.str c tc), none] by walk_at "up").eq C'.nd
   rw [← e1] at e2
   rw [e2] at S22
   have him : i < (minL (compsS x) (compsS y)).length := (List.getElem?_eq_some_iff.mp hc).1
   have hix : i < (maxL (compsS x) (compsS y)).length := by
    rcases Nat.lt_or_ge i (maxL (compsS x) (compsS y)).length with h | h
    ·exact h
    ·obtain ⟨c', r', e⟩ := same_prefix i _ _ him h heq
     exact absurd e (minmax_no_prefix _ _ _ _)
   obtain ⟨v2, hv2, t2, rfl⟩ := hpx.get (i := i) (b := (maxL (compsS x) (compsS y))[i]) (List.getElem?_eq_getElem hix)
   have hc2 : (maxL (compsS x) (compsS y))[i]? = some (maxL (compsS x) (compsS y))[i] := List.getElem?_eq_getElem hix
   generalize (maxL (compsS x) (compsS y))[i] = c2 at *
   refine q_cons <| q_if <| q_tcmp <| q_name C' S22 (by walk_at "lk") <| q_sub <| q_name C' S22 (by walk_at "lk") <| q_name C' S22 (by walk_at "lk") <| q_item (S22.get (.tail _ (.tail _ max))) (by exact Int.natCast_nonneg _) (by lia) (by rw [Int.toNat_natCast]; exact hv2) <| q_nes <| q_tbool ?_
   cases hne : (c != c2) with
   | false =>
    refine if_n (by decide) ?_
    have hce : c = c2 := by simpa using hne
    refine q_nil <| q_nil <| hL _ _ ⟨_, _, S22, _, _, rfl, rfl, fun j hj => ?_⟩
    rcases Nat.lt_succ_iff_lt_or_eq.mp hj with h | rfl
    ·exact heq j h
    ·rw [hc, hc2, hce]
   | true =>
    refine if_p rfl ?_
    have hce : c ≠ c2 := by simpa using hne
    refine q_cons <| q_assign <| q_sub <| q_name C' S22 (by walk_at "lk") <| q_sliceE <| q_ep0 <| q_ep <| q_name C' S22 (by walk_at "lk") ⟨s, g', _, _, S22, fun sl s23 S23 _ => q_sliceT S23 (S23.get (.tail _ (.tail _ (.tail _ mam)))) (S23.get (.head _)) .none (.int _ _) (by simp; lia) fun a s24 S24 => ?_⟩
    refine q_store C' S24 (by walk_at "up") fun s25 S25 => q_cons <| q_break <| hL _ _ <| hC _ _ ⟨rfl, a, pm.take i, 0, _, _, _, S25, ?_, ?_, .tail _ (.tail _ (.tail _ (.tail _ mS2)))⟩
    ·rw [sp_upto _ _ (by lia)]; exact .head _
    ·rw [← comPre_minmax, comPre_take i _ _ (by with_reducible exact Nat.le_of_lt (by assumption)) heq (.inr (by rw [hc, hc2]; simpa using hce))]
     exact hpm.take i
  ·rintro m1 r_1 s22 ⟨ui, uc, hr, rfl, heq⟩ S22
   rw [hr] at S22
   refine hC _ _ ⟨rfl, am, pm, nmn, _, _, _, S22, mam, ?_, mS2⟩
   rw [hml] at heq
   rw [← comPre_minmax, comPre_take _ _ _ (Nat.le_refl _) heq (.inl rfl), List.take_length]
   exact hpm
 rintro _ s21 ⟨rfl, cl, cv, cn, R3, ui, uc, S21, mcl, hcv, mS3⟩
 refine q_cons <| q_assign <| q_ifexp <| q_tval <| q_name C' S21 (by walk_at "lk") <| q_tbool ?_
 refine if_p rfl ?_
 refine q_nameX S21 hoS' mS3 fS lS <| q_store C' S21 (by walk_at "up") fun s22 S22 => ?_
 have hpl3 : (comPre (compsS x) (compsS y)).length ≤ 301 := Nat.le_trans (comPre_pre _ _).length_le hcxl
 have hpb : ∀ c ∈ comPre (compsS x) (compsS y), c.length ≤ 300 := fun c hc => hcx c ((comPre_pre _ _).subset hc)
 have hj := join_le slash 300 _ hpb
 have hj2 : (Txt.join slash (comPre (compsS x) (compsS y))).length ≤ 100000 := by
  have : Txt.join slash (comPre (compsS x) (compsS y)) = Str.join slash (comPre (compsS x) (compsS y)) := StrLaws.glued_eq_join _ _
  rw [this]
  have h1 : slash.length = 1 := rfl
  rw [h1] at hj
  lia
 refine q_cons <| q_ret <| q_binop <| q_name C' S22 (by walk_at "lk") <| q_join <| q_nameX S22 hoS' mS3 fS lS ⟨slash, t7, rfl, q_name C' S22 (by walk_at "lk") ⟨cl, cv, cn, _, s, g', _, _, _, rfl, S22.get mcl, hcv, (by unfold JoinOk; rw [StrLaws.joinFits (B := 300) hpb (by have h1 : slash.length = 1 := rfl; rw [h1]; lia)]; rfl), S22, fun t' s23 S23 =>
  q_saddL S23 (by have h1 : slash.length = 1 := rfl; rw [h1]; lia) fun t'' s24 S24 => hR _ _ ⟨_, _, S24, fun S25 => k _ _ (S25.sub (List.sublist_append_right _ _))⟩⟩⟩
theorem lookup_relabel_cell {env : Env} : ∀ {names : List (Str × NameKind)} {x : Str}, names.lookup x = some .cell →
  (names.map fun (n, k) => if (k == NameKind.free && env.scope.kind == .function && env.kindOf n == some .cell) then (n, NameKind.cell) else (n, k)).lookup x = some .cell
 | [], _, h => by simp at h
 | (n, k) :: r, x, h => by
  have ih := @lookup_relabel_cell env r x
  show List.lookup x ((if (k == NameKind.free && env.scope.kind == .function && env.kindOf n == some .cell) = true then (n, NameKind.cell) else (n, k)) :: _) = _
  cases hx : x == n with
  | true =>
   simp only [List.lookup_cons, hx] at h
   cases h
   rw [if_neg (by rw [show (NameKind.cell == NameKind.free) = false from rfl]; simp)]
   simp only [List.lookup_cons, hx]
  | false =>
   simp only [List.lookup_cons, hx] at h
   split
   ·simp only [List.lookup_cons, hx]; exact ih h
   ·simp only [List.lookup_cons, hx]; exact ih h
noncomputable abbrev cellO (v : Option Value) : Obj := { cls := .type "cell", data := .cell v }
noncomputable abbrev emptyD : Obj := { cls := .type "dict", data := .dict #[] }
section
variable {prog : Program} {w : World} {A : Around} {E : VP} {s0 s : Shared} {g : Heap} {L : Addr} {m : SM} {rest : LD}
theorem newEnvX {scope : Scope} {env : Env} {cl : List (Str × Addr)} {x : Str} {Q : Env → Shared → Prop} (hc1 : ∀ n, cellsFrom n scope.names cl = (x, n) :: cl) (hc2 : ∀ h, pushCells h scope.names = h.push (cellO none))
  (h : Q { scope := scope, locals := s.heap.objs.size, globals := env.globals, cells := (x, s.heap.objs.size + 1) :: cl, qual := env.qual, func := none, code := env.code, frame := env.frame, builtins := env.builtins } { s with heap := (s.heap.push emptyD).push (cellO none) }) :
  wpAny (model prog w) A (newFunctionEnv scope env.globals cl [] env.qual none .none (some env)) Q E s := by
 simp only [newFunctionEnv, Option.isSome_some, if_true]
 refine wpAny_bind (wpAny_alloc ?_)
 refine wpAny_bind (wpAny_layCells _ (fun name kind cells => by cases hkc : kind == NameKind.cell <;> simp [hkc]) _ _ _ _ ?_)
 rw [hc1, hc2]
 simp only [List.forIn_nil]
 refine wpAny_bind (wpAny_pure ?_)
 refine wpAny_pure ?_
 have : (s.heap.push emptyD).objs.size = s.heap.objs.size + 1 := Heap.size_push ..
 show Q { scope := scope, locals := s.heap.objs.size, globals := env.globals, cells := (x, (s.heap.push emptyD).objs.size) :: cl, qual := env.qual, func := none, code := env.code, frame := env.frame, builtins := env.builtins } _
 rw [this]
 exact h
noncomputable def XTurn (prog : Program) (w : World) (A : Around) (s0 : Shared) (g : Heap) (L : Addr) (m : SM) (env : Env) (x : Str) (scope : Scope) (cl : List (Str × Addr)) (elt : Expr)
  (i : Nat) (v : Value) (Ji : List Value → List (Addr × Obj) → Prop) (J : Nat → List Value → List (Addr × Obj) → Prop) : Prop :=
 ∀ ys r_1 I it C oC c oc D s_1, Ji ys r_1 → ys.length ≤ i → oc.data = .cell (some v) → Stt s0 g L m ((I, it) :: (C, oC) :: (c, oc) :: (D, lst ys) :: r_1) s_1 →
  WP (model prog w) A (eval elt (compEnvC scope ((x, c) :: cl) C env)) (fun y s3 => ∃ r_2, And (Stt s0 g L m ((I, it) :: (C, oC) :: (c, oc) :: (D, lst ys) :: r_2) s3) (J (i + 1) (ys ++ [y]) r_2)) NE s_1
theorem comp_blockX {env : Env} {x : Str} {scope : Scope} {cl : List (Str × Addr)} {elt iter : Expr} {px pos : Pos} {J : Nat → List Value → List (Addr × Obj) → Prop} {n : Nat} {iv : Value}
  {RR : Value → Addr → Result → Shared → Prop}
  (K : CSrc prog w A s0 g L m (XTurn prog w A s0 g L m env x scope cl elt) J n iv s)
  (hc1 : ∀ n, cellsFrom n scope.names cl = (x, n) :: cl) (hc2 : ∀ h, pushCells h scope.names = h.push (cellO none)) (hkind : scope.kind = .function) (hx : scope.names.lookup x = some .cell)
  (done : ∀ D C ys r s', J n ys r → ys.length ≤ n → Stt s0 g L m ((C, emptyD) :: (D, lst ys) :: r) s' → RR (.ref D) C (.ok .next) s') :
  wpAny (model prog w) A (newList []) (fun acc s3 => wpAny (model prog w) A (newFunctionEnv scope env.globals cl [] env.qual none .none (some env)) (fun cenv s4 =>
   codeAny (model prog w) A (.compStart (.ListComp elt [⟨.Name x px, iter, [], 0⟩] scope pos) 0 iv acc { cenv with scope := relabel scope env }) (RR acc cenv.locals) s4) E s3) E s := by
 refine byG fun GG hGG => ?_
 obtain ⟨I, it0, fp, P, St, rest, rfl, W, hsz, hlive, S, hst, hfp, hkeep, h0, turn⟩ := K.src
 refine hGG ?_
 clear hGG GG
 refine wpAny_newObj_type (newEnvX hc1 hc2 ?_)
 dsimp only
 have SD := S.push (lst []) s.toks
 generalize hH2 : s.heap.push { cls := .type "list", dict := none, data := .seq ([] : List Value).toArray } = H2
 have hH2' : s.heap.push (lst []) = H2 := hH2
 rw [hH2'] at SD
 have SE := SD.push emptyD s.toks
 have SF := SE.push (cellO none) s.toks
 dsimp only at SE SF
 have hz3 : (H2.push emptyD).objs.size = H2.objs.size + 1 := Heap.size_push ..
 rw [hz3] at SF
 generalize hh1 : (H2.push emptyD).push (cellO none) = h_1 at SF ⊢
 have old2 : ∀ b o, H2.get? b = some o → h_1.get? b = some o := fun b o e => by rw [← hh1]; exact Heap.get?_push_of_some _ (Heap.get?_push_of_some _ e)
 generalize hD' : s.heap.objs.size = D at *
 generalize hC' : H2.objs.size = C at *
 have S_1 : Stt s0 g L m ((I, it0) :: (C, emptyD) :: (C + 1, cellO none) :: (D, lst []) :: rest) { s with heap := h_1 } :=
  (SF.perm (((List.Perm.swap _ _ _).trans (.refl _)))).perm (List.perm_middle (a := (I, it0)) (l₁ := [(C, emptyD), (C + 1, cellO none), (D, lst [])])).symm
 have hst1 : St 0 h_1 := W.frame _ _ _ hst fun b _ o e => old2 b o (hH2' ▸ Heap.get?_push_of_some _ e)
 have hIf : I ∈ fp := W.sub I (List.mem_singleton.mpr rfl)
 have lt2 : D < C := by rw [← hC', ← hH2, Heap.size_push, hD']; exact Nat.lt_succ_self _
 have hCf : C + 1 ∉ fp := fun hm => Nat.lt_irrefl _ (Nat.lt_trans (hfp _ hm) (Nat.lt_succ_of_lt lt2))
 have hDf : D ∉ fp := fun hm => Nat.lt_irrefl _ (hfp _ hm)
 have loop : codeAny (model prog w) A (.compLoop (.ListComp elt [⟨.Name x px, iter, [], 0⟩] scope pos) 0 (.ref I) (.ref D) (compEnvC scope ((x, C + 1) :: cl) C env)) (RR (.ref D) C) { s with heap := h_1 } := by
  refine loop_tests
   (fun k s' => Ex6 fun it i ys oc v0 r => An7 (i ≤ n) (k = n + 1 - i) (ys.length ≤ i) (St i s'.heap) (oc.data = .cell v0) (Stt s0 g L m ((I, it) :: (C, emptyD) :: (C + 1, oc) :: (D, lst ys) :: r) s') (J i ys r)) ?_ (n + 1)
   ⟨it0, 0, [], _, none, rest, Nat.zero_le _, rfl, Nat.le_refl _, hst1, rfl, S_1, h0⟩
  rintro k s' hJJ PT ET hPT
  refine byG fun GG hGG => ?_
  obtain ⟨it, i, ys, oc, v0, r, hi, rfl, hyl, hst', hoc, S', hJ⟩ := hJJ
  refine hGG ?_
  clear hGG GG
  by_cases hlt : i < n
  ·refine W.item i _ _ _ hlt hst' fun v h_2 tk2 hPv hst2 hk_2 => ?_
   obtain ⟨it2, e_2⟩ := hlive _ _ hst2
   have S_2 := S'.walked tk2 hk_2 e_2
   refine wpAny_assign_Name (wpAny_storeName_cell (compEnv_kind hkind) (lookup_relabel_cell hx) (c := C + 1) (by simp [compEnvC]) ⟨oc, S_2.get (.tail _ (.tail _ (.head _))), hoc⟩ fun h_3 hv_3 hs3 => ?_)
   obtain ⟨oc3, eC3, hoc3⟩ := hv_3
   have S_3 := S_2.setAt tk2 (.tail (.tail .head)) hs3 eC3
   have hst3 : St (i + 1) h_3 := W.frame _ _ _ hst2 fun b hb o e => hs3.extBut b o (fun q => hCf (by have q' : b = C + 1 := q; rw [← q']; exact hb)) e
   have keepSt : ∀ {s5 r_2 ys2}, Stt s0 g L m ((I, it2) :: (C, emptyD) :: (C + 1, oc3) :: (D, lst ys) :: r_2) s5 → J (i + 1) ys2 r_2 → St (i + 1) s5.heap := fun {s5 r_2 ys2} S5 hJ5 => by
    refine W.frame _ _ _ hst3 fun b hb o e => ?_
    by_cases hbI : b = I
    ·subst hbI
     have := S_3.get (.head _)
     rw [e] at this; cases this
     exact S5.get (.head _)
    ·cases hg : g.get? b with
     | some o0 =>
      have := S_3.base hg
      rw [e] at this; cases this
      exact S5.base hg
     | none =>
      obtain ⟨o0, ho0⟩ := hkeep b hb hbI hg
      have := S_3.get (.tail _ (.tail _ (.tail _ (.tail _ (ho0 _ _ _ hJ)))))
      rw [e] at this; cases this
      exact S5.get (.tail _ (.tail _ (.tail _ (.tail _ (ho0 _ _ _ hJ5)))))
   refine wpAny_tests_nil ?_
   simp only [if_true]
   refine wpAny_mono (turn i v hlt hPv ys r I it2 C emptyD (C + 1) oc3 D _ hJ hyl hoc3 S_3).run (fun y s5 h_5 => ?_) fun _ _ e => e.elim
   obtain ⟨r_2, S5, hJ5⟩ := h_5
   have hst5 := keepSt S5 hJ5
   refine append_at (hsz := by show ys.toArray.size ≤ sizeLine; rw [List.size_toArray]; exact Nat.le_trans (Nat.le_trans hyl hi) hsz) (S5.get (.tail _ (.tail _ (.tail _ (.head _))))) fun h_6 hs6 hD6 => ?_
   have S6 := S5.setAt s5.toks (.tail (.tail (.tail .head))) hs6 (hD6.trans (congrArg some (lst_snoc ys y)))
   exact hPT (n + 1 - (i + 1)) _ (by with_reducible exact n21 (by assumption)) ⟨it2, i + 1, ys ++ [y], oc3, _, r_2, hlt, rfl, by rw [List.length_append, List.length_singleton]; exact Nat.succ_le_succ hyl,
    W.frame _ _ _ hst5 fun b hb o e => hs6.extBut b o (fun q => hDf (q ▸ hb)) e, hoc3, S6, hJ5⟩
  ·obtain rfl : i = n := Nat.le_antisymm hi (Nat.not_lt.mp hlt)
   refine W.done _ _ _ hst' fun h_2 tk2 hk_2 => ?_
   exact done _ _ ys r _ hJ hyl ((S'.dropB tk2 hk_2).sub (List.Sublist.cons_cons _ (List.sublist_cons_self _ _)))
 exact codeAny_compStart_list loop (W.self 0 _ _ _ hst1 loop)
theorem nsO_empty : NsO emptyD (fun _ => none) := by
 obtain ⟨o, e, h⟩ := nsO (Heap.Ns.new ({ objs := #[] } : Heap) (.type "dict"))
 have : (({ objs := #[] } : Heap).push emptyD).get? 0 = some emptyD := rfl
 have e' : (({ objs := #[] } : Heap).push emptyD).get? 0 = some o := e
 rw [this] at e'
 cases e'
 exact h
inductive PCompX (prog : Program) (w : World) (A : Around) (env : Env) (elt : Expr) (x : Str) (scope : Scope) (cl : List (Str × Addr)) (Q : VP) (E : VP) (xv : Value) (s_1 : Shared) : Prop
 | mk (s0 : Shared) (g : Heap) (L : Addr) (m : SM) (J : Nat → List Value → List (Addr × Obj) → Prop) (n : Nat) (h1 : wpAny (model prog w) A (pyIter xv) (fun iv s_2 => CSrc prog w A s0 g L m (XTurn prog w A s0 g L m env x scope cl elt) J n iv s_2) E s_1) (h2 : ∀ D ys r s', J n ys r → ys.length ≤ n → Stt s0 g L m ((D, lst ys) :: r) s' → Q (.ref D) s') : PCompX prog w A env elt x scope cl Q E xv s_1
theorem q_compX {env : Env} {elt iter : Expr} {x : Str} {px : Pos} {scope : Scope} {cl : List (Str × Addr)} {pos : Pos} {Q : VP}
  (hclos : closureFor scope env = pure cl)
  (h : WP (model prog w) A (eval iter env) (PCompX prog w A env elt x scope cl Q E) E s)
  (hc1 : ∀ n, cellsFrom n scope.names cl = (x, n) :: cl := by intro _; exact rfl) (hc2 : ∀ h, pushCells h scope.names = h.push (cellO none) := by intro _; exact rfl) (hkind : scope.kind = .function := by exact rfl)
  (hnames : (scope.names.all fun y => y.2 != .local || scope.names.lookup y.1 == some .local) = true := by exact rfl) (hx : scope.names.lookup x = some .cell := by exact rfl)
  (hs : ∀ x, foldedSetIterable iter env x = pure x := by intro _; exact rfl) :
  WP (model prog w) A (eval (.ListComp elt [⟨.Name x px, iter, [], 0⟩] scope pos) env) Q E s := by
 refine ⟨?_⟩
 rw [eval_ListComp]
 simp only [List.all_eq_true] at hnames
 refine wpAny_comprehension_free (use := none) rfl hs hclos hkind (fun y hy hl => by simpa [hl] using hnames y hy) (wpAny_mono h.run (fun xv s_1 h_1 => ?_) fun _ _ e => e)
 refine byG fun GG hGG => ?_
 obtain ⟨s0, g, L, m, J, n, hsrc, fin⟩ := h_1
 refine hGG ?_
 clear hGG GG
 refine wpAny_mono hsrc (fun iv s_2 K => comp_blockX K hc1 hc2 hkind hx ?_) fun _ _ e => e
 intro D C ys r s' hJ hyl S'
 exact ⟨_, nsO_empty.ns (S'.get (.head _)), fun h' hs' => fin D ys r _ hJ hyl (S'.drop s'.toks hs')⟩
end
end
theorem xor_low (x s : Nat) : Builtin.bitXor (x : Int) ((x / 2 ^ s * 2 ^ s : Nat) : Int) = ((x % 2 ^ s : Nat) : Int) := by
 have hy : x / 2 ^ s * 2 ^ s = (x >>> s) <<< s := by rw [Nat.shiftRight_eq_div_pow, Nat.shiftLeft_eq]
 have h1 : x &&& (x / 2 ^ s * 2 ^ s) = x / 2 ^ s * 2 ^ s := by
  rw [hy]; apply Nat.eq_of_testBit_eq; intro i
  simp only [Nat.testBit_and, Nat.testBit_shiftLeft, Nat.testBit_shiftRight]
  by_cases h : i ≥ s
  ·have : s + (i - s) = i := by lia
   simp [h, this]
  ·simp [h]
 have h2 : x ||| (x / 2 ^ s * 2 ^ s) = x := by
  rw [hy]; apply Nat.eq_of_testBit_eq; intro i
  simp only [Nat.testBit_or, Nat.testBit_shiftLeft, Nat.testBit_shiftRight]
  by_cases h : i ≥ s
  ·have : s + (i - s) = i := by lia
   simp [h, this]
  ·simp [h]
 have e1 : Builtin.bitAnd (x : Int) ((x / 2 ^ s * 2 ^ s : Nat) : Int) = ((x / 2 ^ s * 2 ^ s : Nat) : Int) := by
  rw [bitAnd_pp (by exact Int.natCast_nonneg _) (by exact Int.natCast_nonneg _), Int.toNat_natCast, Int.toNat_natCast, h1]
 have e2 : Builtin.bitOr (x : Int) ((x / 2 ^ s * 2 ^ s : Nat) : Int) = (x : Int) := by
  unfold Builtin.bitOr
  rw [bitAnd_nn (by unfold Builtin.bitNot; lia) (by unfold Builtin.bitNot; lia)]
  have a1 : ∀ n : Nat, Builtin.bitNot (Builtin.bitNot (n : Int)) = n := fun n => by unfold Builtin.bitNot; lia
  rw [a1, a1, a1, Int.toNat_natCast, Int.toNat_natCast, h2]
 unfold Builtin.bitXor
 rw [e1, e2]
 have := Nat.div_add_mod x (2 ^ s)
 rw [Nat.mul_comm] at this
 lia
noncomputable def digs (n a : Nat) : Nat → List Int
 | 0 => []
 | c + 1 => ((a % 2 ^ n : Nat) : Int) :: digs n (a / 2 ^ n) c
noncomputable def digCnt (n a : Nat) : Nat := (Builtin.Int.intBits (a : Int) + n - 1) / n
theorem digit_low (x n i sh : Nat) (h : n * i + n ≤ sh) : x % 2 ^ sh / 2 ^ (n * i) % 2 ^ n = x / 2 ^ (n * i) % 2 ^ n := by
 have e : 2 ^ sh = 2 ^ (n * i) * 2 ^ (sh - n * i) := by rw [← Nat.pow_add]; congr 1; lia
 rw [e, Nat.mod_mul_right_div_self, Nat.mod_mod_of_dvd]
 exact Nat.pow_dvd_pow 2 (by lia)
theorem digs_get (n : Nat) : ∀ (c a i : Nat), i < c → (digs n a c)[i]? = some ((a / 2 ^ (n * i) % 2 ^ n : Nat) : Int)
 | 0, _, _, h => absurd h (Nat.not_lt_zero _)
 | c + 1, a, 0, _ => by simp [digs]
 | c + 1, a, i + 1, h => by
  rw [digs, List.getElem?_cons_succ, digs_get n c _ i (by lia), Nat.div_div_eq_div_mul, ← Nat.pow_add, show n + n * i = n * (i + 1) by rw [Nat.mul_add]; lia]
theorem digs_length (n : Nat) : ∀ (c a : Nat), (digs n a c).length = c
 | 0, _ => rfl
 | c + 1, a => by rw [digs, List.length_cons, digs_length n c]
theorem all2_of {α β : Type} {R : α → β → Prop} {as : List α} {bs : List β} (h : as.length = bs.length) (f : ∀ i, i < bs.length → ∃ a b, as[i]? = some a ∧ bs[i]? = some b ∧ R a b) : All2 R as bs := by
 induction as generalizing bs with
 | nil => cases bs with
  | nil => exact .nil
  | cons => cases h
 | cons x as ih => cases bs with
  | nil => cases h
  | cons y bs =>
   obtain ⟨a, b, e1, e2, r⟩ := f 0 (Nat.succ_pos _)
   cases e1; cases e2
   exact .cons r (ih (Nat.succ.inj h) fun i hi => f (i + 1) (Nat.succ_lt_succ hi))
theorem cnt_bound (n a : Nat) (hn : 1 ≤ n) : a < 2 ^ (n * digCnt n a) := by
 have h1 : a < 2 ^ Builtin.Int.intBits (a : Int) := by
  unfold Builtin.Int.intBits
  split
  ·rename_i h; have : a = 0 := by simpa using h
   subst this; exact Nat.two_pow_pos _
  ·rw [Int.natAbs_natCast]; exact Nat.lt_log2_self
 refine Nat.lt_of_lt_of_le h1 (Nat.pow_le_pow_right (by lia) ?_)
 unfold digCnt
 have := Nat.div_add_mod (Builtin.Int.intBits (a : Int) + n - 1) n
 have := Nat.mod_lt (Builtin.Int.intBits (a : Int) + n - 1) (show n > 0 by lia)
 lia
theorem hd161 (w : World) : codeHdIn (hK w.params) 161 157 = true := by kernel_rfl
theorem int2_spec {w : World} {A : Around} {env : Env} {g base : Heap} {outer : List Env} {nm : List Str} {G : SV} {s0 s : Shared} {m : SM} {tb news : LD}
  {E : VP} {a n : Nat} {t u : Tok} {Q : VP} :
  (hK w.params).In g → ∀ (C : Fm w A env g base outer nm G) (S : Stt s0 g env.locals m (tb ++ news) s) (hd : A.depth + 50 < recursionLimit) (hT : Tb 157 "_int2digits.<locals>.inner" 153 4 tb)
  (hn : 1 ≤ n) (hn7 : n ≤ 7) (ha : a < 2 ^ 20)
  (k : ∀ tb' dl ds kk nw s', Tb 157 "_int2digits.<locals>.inner" 153 4 tb' → Stt s0 g env.locals m (tb' ++ (dl, W.listOf ds.toArray kk) :: nw ++ news) s' → All2 Vi ds (digs n a (digCnt n a)) → Q (.ref dl) s'), WP (model PySem.Challenge.rw_rt0104_01.row.prog w) A (call (.ref 162) [.int a t, .int n u]) Q E s := by
 k_fill
 intro X C S hd hT hn hn7 ha k
 refine q_defC0 C (sub := tb) S ["a"] [.int a t] [some (.int a t)] [("len", .builtin "len")] [("a", .int a t), ("n", .int n u)] [("n", .int n u)] (fun z => [("inner", z + 2), ("a_digits", z + 1), ("n", z)])
  (by k_is) (by k_is) (by lia) (BindsTo.of_eq rfl) (Nat.le_of_ble_eq_true rfl) rfl rfl rfl (by decide +kernel) (fun z => rfl) (by decide) rfl (fun z x hx => by
   rcases List.mem_cons.mp hx with rfl | hx
   ·exact .inl rfl
   ·rw [List.mem_singleton.mp hx]; exact .inr ⟨rfl, rfl⟩) rfl rfl rfl ?_
 intro g' cz env' s_1 cells hx hx' C' hcq Cc Y S_1
 obtain ⟨oI, oA, oN, rfl, hoI, hoA, hoN⟩ := Y.three
 replace S_1 : Stt s g' env'.locals (lcs ["a"] [some (.int a t)]) ((cz + 2, oI) :: (cz + 1, oA) :: (cz, oN) :: tb) s_1 := S_1
 replace hoI : oI.data = .cell none := hoI
 replace hoA : oA.data = .cell none := hoA
 replace hoN : oN.data = .cell (some (.int n u)) := hoN
 have fI := Cc.at (x := "inner") (c := cz + 2) (by walk_at "mem")
 have fA := Cc.at (x := "a_digits") (c := cz + 1) (by walk_at "mem")
 have fN := Cc.at (x := "n") (c := cz) (by walk_at "mem")
 have lI : env'.cells.lookup ("inner" : Str) = some (cz + 2) := by rw [Cc.cells]; exact rfl
 have lA : env'.cells.lookup ("a_digits" : Str) = some (cz + 1) := by rw [Cc.cells]; exact rfl
 have lN : env'.cells.lookup ("n" : Str) = some cz := by rw [Cc.cells]; exact rfl
 have hbl : Builtin.Int.intBits (a : Int) ≤ 20 := by
  unfold Builtin.Int.intBits
  split
  ·lia
  ·rename_i h0
   have h1 : a ≠ 0 := fun e => h0 (by simp [e])
   have := (Nat.log2_lt h1).mpr ha
   simp only [Int.natAbs_natCast]; lia
 have hcnt : digCnt n a ≤ 1000 := by
  unfold digCnt
  exact Nat.le_trans (Nat.div_le_self _ _) (by lia)
 refine q_cons <| q_assign <| q_binop <| q_list <| q_ic <| q_int S_1 fun t_2 s_2 S_2 => q_i0 ⟨_, _, _, _, S_2, Nat.le_of_ble_eq_true rfl, fun zl s3 S_3 =>
  q_binop <| q_binop <| q_binop <| q_bitlen <| q_name C' S_3 (by walk_at "lk") ⟨_, _, _, _, _, _, _, rfl, S_3, fun t_4 s4 S4 => q_nameX S4 hoN (by walk_at "mem") fN lN <| q_add S4 fun t5 s5 S5 =>
   q_int S5 fun t6 s6 S6 => q_msub S6 fun t7 s7 S7 => q_nameX S7 hoN (by walk_at "mem") fN lN <| q_fdiv C' S7 (by lia) (by with_reducible exact n40 (by assumption) (by decide)) fun t8 s8 S8 => ?_⟩⟩
 rw [show ((Builtin.Int.intBits (a : Int) : Nat) : Int) + (n : Int) - 1 = ((Builtin.Int.intBits (a : Int) + n - 1 : Nat) : Int) by lia, show ((Builtin.Int.intBits (a : Int) + n - 1 : Nat) : Int) / (n : Int) = (digCnt n a : Int) by unfold digCnt; lia]
 refine q_lmul S8 (S8.get List.mem_cons_self) (by exact Int.natCast_nonneg _) (by with_reducible exact n41 (by assumption) (by decide)) fun dl s9 S9 => ?_
 rw [Int.toNat_natCast] at S9
 replace S9 := S9.sub (.cons_cons _ (List.sublist_cons_self _ _))
 refine q_storeX2 S9 hoA fA lA fun oA s10 hoA S10 => ?_
 replace S10 := S10.perm (news' := tb ++ ((dl, W.listOf (List.replicate (digCnt n a) (.int 0 t_2)).toArray 0) :: (cz + 2, oI) :: (cz + 1, oA) :: (cz, oN) :: [])) (List.perm_append_comm (l₁ := tb) (l₂ := [_, _, _, _]))
 refine q_cons <| q_nest C' S10 hT (hcq.1) (by unfold qualnameIn; rw [hcq.2, fI.2]; rfl) (closureFor_eq (cl := [("n", cz), ("inner", cz + 2), ("a_digits", cz + 1)]) Cc.cells rfl) (codeHd_of_K C'.X (hd161 w)) fun f doc pm c' ctv tb' s11 hT' hcr S11 => ?_
 generalize hfo : fnMade _ _ _ _ _ _ doc pm c' ctv = fo at S11
 have hdlT : ∀ p ∈ (cz + 2, oI) :: (f, fo) :: (cz + 1, oA) :: (cz, oN) :: tb', p.1 ≠ dl := fun p hp e => by
  have nd := S11.nd
  simp only [List.map_append, List.map_cons, List.map_nil, List.nodup_append, List.nodup_cons, List.mem_cons, List.not_mem_nil, or_false, not_or] at nd
  rcases List.mem_cons.mp hp with rfl | hp
  ·exact nd.2.1.2.1.1 e.symm
  ·rcases List.mem_cons.mp hp with rfl | hp
   ·exact nd.2.1.1.1 e
   ·rcases List.mem_cons.mp hp with rfl | hp
    ·exact nd.2.1.2.1.2.1 e.symm
    ·rcases List.mem_cons.mp hp with rfl | hp
     ·exact nd.2.1.2.1.2.2 e.symm
     ·exact nd.2.2 p.1 (List.mem_map_of_mem hp) dl (.inr (.inl rfl)) e
 replace S11 := S11.perm (news' := (cz + 2, oI) :: (f, fo) :: (dl, W.listOf (List.replicate (digCnt n a) (.int 0 t_2)).toArray 0) :: (cz + 1, oA) :: (cz, oN) :: tb') (by
  refine List.Perm.trans ?_ (List.perm_append_comm (l₂ := tb'))
  exact List.perm_middle (l₁ := [_, _]) |>.symm)
 have hdI : cz + 2 ≠ dl := hdlT _ (.head _)
 have hdR : ∀ p ∈ (f, fo) :: (cz + 1, oA) :: (cz, oN) :: tb', p.1 ≠ dl := fun p hp => hdlT p (.tail _ hp)
 clear hdlT
 refine q_storeX0 S11 hoI fI lI fun oI s12 hoI S12 => ?_
 have hdlT : ∀ p ∈ (cz + 2, oI) :: (f, fo) :: (cz + 1, oA) :: (cz, oN) :: tb', p.1 ≠ dl := fun p hp => by
  rcases List.mem_cons.mp hp with rfl | hp
  ·exact hdI
  ·exact hdR _ hp
 have inner : ∀ (fuel : Nat) {A : Around} {env : Env} {g base : Heap} {outer : List Env} {nm : List Str} {G : SV} {s0 s : Shared} {m : SM} {news : LD} {E : VP} {Q : VP}
   (C : Fm w A env g base outer nm G) (ds : List Value) (kk : Nat) (x L R : Nat) (t u v : Tok) (S : Stt s0 g env.locals m ((dl, W.listOf ds.toArray kk) :: news) s)
   (hH : ∀ p ∈ (cz + 2, oI) :: (f, fo) :: (cz + 1, oA) :: (cz, oN) :: tb', s.heap.get? p.1 = some p.2) (hd : A.depth + fuel + 5 < recursionLimit) (hLR : L < R) (hf : R ≤ L + fuel) (hR : R ≤ ds.length) (hds : ds.length ≤ 1000) (hx : x < 2 ^ 20) (hx2 : x < 2 ^ (n * (R - L)))
   (k : ∀ (ds' : List Value) s', (ds'.length = ds.length ∧ (∀ i, i < R - L → ∃ t, ds'[L + i]? = some (Value.int ((x / 2 ^ (n * i) % 2 ^ n : Nat) : Int) t)) ∧ ∀ i, (i < L ∨ R ≤ i) → ds'[i]? = ds[i]?) → Stt s0 g env.locals m ((dl, W.listOf ds'.toArray kk) :: news) s' → Q .none s'),
   WP (model PySem.Challenge.rw_rt0104_01.row.prog w) A (call (.ref f) [.int x t, .int L u, .int R v]) Q E s := by
  intro fuel
  induction fuel with
  | zero => intros; lia
  | succ fuel ih =>
   intro A env g base outer nm G s0 s m news E Q C ds kk x L R t u v S hH hd hLR hf hR hds hx hx2 k
   have hfh := hH (f, fo) (by walk_at "mem")
   refine q_clo C (sub := [(dl, W.listOf ds.toArray kk)]) (rest := news) S ["x", "L", "R", "mid", "shift", "upper", "lower"] [.int x t, .int L u, .int R v] [some (.int x t), some (.int L u), some (.int R v), none, none, none, none] []
    hfh (by rw [← hfo]) (hcr _ fun p hp => hH p (by simp [hp])) (by lia) (BindsTo.of_eq rfl) (Nat.le_of_ble_eq_true rfl) rfl (by decide +kernel) (by decide +kernel) rfl rfl rfl ?_
   intro g' env' s_1 hx1 hx1' C' hcells hkO S_1
   have hg : ∀ p ∈ (cz + 2, oI) :: (f, fo) :: (cz + 1, oA) :: (cz, oN) :: tb', g'.get? p.1 = some p.2 := fun p hp => hx1 _ _ (hH p hp) (by simpa using hdlT p hp)
   have kA : env'.kindOf ("a_digits" : Str) = some .free := by rw [hkO]; exact rfl
   have kI : env'.kindOf ("inner" : Str) = some .free := by rw [hkO]; exact rfl
   have kN : env'.kindOf ("n" : Str) = some .free := by rw [hkO]; exact rfl
   have lA : env'.cells.lookup ("a_digits" : Str) = some (cz + 1) := by rw [hcells]; exact rfl
   have lI : env'.cells.lookup ("inner" : Str) = some (cz + 2) := by rw [hcells]; exact rfl
   have lN : env'.cells.lookup ("n" : Str) = some cz := by rw [hcells]; exact rfl
   have gA := hg (cz + 1, oA) (by walk_at "mem")
   have gI := hg (cz + 2, oI) (by walk_at "mem")
   have gN := hg (cz, oN) (by walk_at "mem")
   have hin : ∀ {s_2 : Shared} {m2 : SM} {n_2 : LD}, Stt s g' env'.locals m2 n_2 s_2 → ∀ p ∈ (cz + 2, oI) :: (f, fo) :: (cz + 1, oA) :: (cz, oN) :: tb', s_2.heap.get? p.1 = some p.2 := fun S p hp => S.base (hg p hp)
   refine q_cons <| q_if <| q_tcmp <| q_binop <| q_name C' S_1 (by walk_at "lk") <| q_int S_1 fun t_2 s_2 S_2 => q_add S_2 fun t_3 s3 S_3 => q_name C' S_3 (by walk_at "lk") <| q_eqi <| q_tbool ?_
   by_cases hb : L + 1 = R
   ·rw [show ((L : Int) + 1 == (R : Int)) = true from beq_iff_eq.mpr (by lia), if_pos rfl]
    subst hb
    refine q_cons <| q_asub <| q_name C' S_3 (by walk_at "lk") <| q_nameF C' (S_3.base gA) hoA kA lA <| q_name C' S_3 (by walk_at "lk") <| q_setL S_3 (S_3.get (by walk_at "mem")) (by exact Int.natCast_nonneg _) (by lia) hds (by walk_at "ch") fun s4 S4 =>
     q_cons <| q_ret0 ⟨_, _, S4, fun S5 => ?_⟩
    rw [Int.toNat_natCast] at S5
    refine k _ _ ⟨by simp, fun i hi => ?_, fun i hi => ?_⟩ S5
    ·obtain rfl : i = 0 := by lia
     refine ⟨t, ?_⟩
     rw [Nat.add_zero, List.getElem?_set_self (by lia), Nat.mul_zero, Nat.pow_zero, Nat.div_one, Nat.mod_eq_of_lt (by simpa using hx2)]
    ·rw [List.getElem?_set_ne (by lia)]
   ·rw [show ((L : Int) + 1 == (R : Int)) = false from beq_eq_false_iff_ne.mpr (by lia), if_neg Bool.false_ne_true]
    generalize hM : (L + R) / 2 = M
    have hLM : L < M := by lia
    have hMR : M < R := by lia
    refine q_nil ?_
    refine q_cons <| q_assign <| q_binop <| q_binop <| q_name C' S_3 (by walk_at "lk") <| q_name C' S_3 (by walk_at "lk") <| q_add S_3 fun t_4 s4 S4 => q_int S4 fun t5 s5 S5 => q_rsh S5 (by lia) fun t6 s6 S6 => ?_
    rw [show ((L : Int) + (R : Int)) / 2 ^ (1 : Int).toNat = (M : Int) by simp; lia]
    refine q_store C' S6 (by walk_at "up") fun s7 S7 => ?_
    refine q_cons <| q_assign <| q_binop <| q_binop <| q_name C' S7 (by walk_at "lk") <| q_name C' S7 (by walk_at "lk") <| q_msub S7 fun t8 s8 S8 => q_nameF C' (S8.base gN) hoN kN lN <| q_mul S8 (by with_reducible exact n29 (by assumption) (by decide)) fun t9 s9 S9 => ?_
    rw [show ((M : Int) - (L : Int)) * (n : Int) = ((n * (M - L) : Nat) : Int) by
     rw [Int.natCast_mul, Int.mul_comm, Int.natCast_sub (by with_reducible exact Nat.le_of_lt (by assumption))]]
    refine q_store C' S9 (by walk_at "up") fun s10 S10 => ?_
    generalize hsh : n * (M - L) = sh at S10 ⊢
    refine q_cons <| q_assign <| q_binop <| q_name C' S10 (by walk_at "lk") <| q_name C' S10 (by walk_at "lk") <| q_rsh S10 (by exact Int.natCast_nonneg _) fun t_1 s_1 S_1 => ?_
    rw [Int.toNat_natCast, show (x : Int) / 2 ^ sh = ((x / 2 ^ sh : Nat) : Int) by simp]
    refine q_store C' S_1 (by walk_at "up") fun s_2 S_2 => ?_
    have hsh2 : sh < 2 ^ 20 := by
     have h1 : M - L ≤ 1000 := by with_reducible exact n27 (by assumption) (by assumption) (by assumption)
     have := Nat.mul_le_mul hn7 h1; lia
    have hup : x / 2 ^ sh ≤ x := Nat.div_le_self _ _
    refine q_cons <| q_assign <| q_binop <| q_name C' S_2 (by walk_at "lk") <| q_binop <| q_name C' S_2 (by walk_at "lk") <| q_name C' S_2 (by walk_at "lk") <| q_lsh S_2 (by rw [Int.natAbs_natCast]; exact Nat.lt_of_le_of_lt hup (by lia)) (by exact Int.natCast_nonneg _) (by lia) fun t_3 s3 S_3 => ?_
    rw [Int.toNat_natCast, show ((x / 2 ^ sh : Nat) : Int) * 2 ^ sh = ((x / 2 ^ sh * 2 ^ sh : Nat) : Int) by simp]
    refine q_xor S_3 fun t_4 s4 S4 => ?_
    rw [xor_low]
    refine q_store C' S4 (by walk_at "up") fun s5 S5 => ?_
    have hlow : x % 2 ^ sh < 2 ^ sh := Nat.mod_lt _ (Nat.two_pow_pos _)
    have hlow2 : x % 2 ^ sh ≤ x := Nat.mod_le _ _
    refine q_cons <| q_expr C' <| q_call <| q_nameF C' (S5.base gI) hoI kI lI <| q_cwF ⟨_, _, _, _, by rw [S5.base (hg (f, fo) (by walk_at "mem")), ← hfo]⟩ <| q_ic <| q_name C' S5 (by walk_at "lk") <| q_ic <| q_name C' S5 (by walk_at "lk") <| q_ic <| q_name C' S5 (by walk_at "lk") <| q_i0
     ⟨⟨_, _, _, _, by rw [S5.base (hg (f, fo) (by walk_at "mem")), ← hfo]⟩, ih C' ds kk _ _ _ _ _ _ S5 (hin S5) (by rw [show (A.deeper env').depth = A.depth + 1 from rfl]; lia) hLM (by lia) (by lia) hds (by lia) (by rw [hsh]; exact hlow) fun ds1 s6 hd_1 S6 => ?_⟩
    refine q_cons <| q_expr C' <| q_call <| q_nameF C' (S6.base gI) hoI kI lI <| q_cwF ⟨_, _, _, _, by rw [S6.base (hg (f, fo) (by walk_at "mem")), ← hfo]⟩ <| q_ic <| q_name C' S6 (by walk_at "lk") <| q_ic <| q_name C' S6 (by walk_at "lk") <| q_ic <| q_name C' S6 (by walk_at "lk") <| q_i0
     ⟨⟨_, _, _, _, by rw [S6.base (hg (f, fo) (by walk_at "mem")), ← hfo]⟩, ih C' ds1 kk _ _ _ _ _ _ S6 (hin S6) (by rw [show (A.deeper env').depth = A.depth + 1 from rfl]; lia) hMR (by lia) (by lia) (by lia) (by lia) ?_ fun ds2 s7 hd_2 S7 => q_nil ⟨_, _, S7, fun S8 => k _ _ ⟨by lia, ?_, ?_⟩ S8⟩⟩
    ·rw [Nat.div_lt_iff_lt_mul (Nat.two_pow_pos _), ← Nat.pow_add, ← hsh, ← Nat.mul_add, show R - M + (M - L) = R - L by with_reducible exact n7 (by assumption) (by assumption)]; exact hx2
    ·intro i hi
     by_cases hiM : i < M - L
     ·obtain ⟨t, e⟩ := hd_1.2.1 i hiM
      refine ⟨t, ?_⟩
      rw [hd_2.2.2 _ (.inl (by lia)), e, digit_low]
      rw [← hsh]
      have : n * (i + 1) ≤ n * (M - L) := Nat.mul_le_mul_left n hiM
      rw [Nat.mul_add] at this; lia
     ·obtain ⟨t, e⟩ := hd_2.2.1 (i - (M - L)) (by with_reducible exact n3 (by assumption) (by assumption) (by assumption))
      refine ⟨t, ?_⟩
      rw [show L + i = M + (i - (M - L)) by with_reducible exact n23 (by assumption) (by assumption), e, Nat.div_div_eq_div_mul, ← Nat.pow_add, ← hsh, ← Nat.mul_add, show M - L + (i - (M - L)) = i by lia]
    ·intro i hi
     rw [hd_2.2.2 i (by lia), hd_1.2.2 i (by lia)]
 have hH : ∀ p ∈ (cz + 2, oI) :: (f, fo) :: (cz + 1, oA) :: (cz, oN) :: tb', s12.heap.get? p.1 = some p.2 := fun p hp => S12.get (by
  simp only [List.mem_cons] at hp ⊢
  rcases hp with h | h | h | h | h <;> simp [h])
 have hlt := cnt_bound n a hn
 refine q_cons <| q_cut (fun fl s3 => fl = .next ∧ ∃ ds, All2 Vi ds (digs n a (digCnt n a)) ∧ Stt s g' env'.locals (lcs ["a"] [some (.int a t)]) ((dl, W.listOf ds.toArray 0) :: (cz + 2, oI) :: (f, fo) :: (cz + 1, oA) :: (cz, oN) :: tb') s3) ?_ ?_
 ·replace S12 := S12.perm (news' := (dl, W.listOf (List.replicate (digCnt n a) (.int 0 t_2)).toArray 0) :: (cz + 2, oI) :: (f, fo) :: (cz + 1, oA) :: (cz, oN) :: tb') (List.perm_middle (l₁ := [_, _])).symm
  refine q_if <| q_tval <| q_name C' S12 (by walk_at "lk") <| q_truthInt ?_
  by_cases ha0 : a = 0
  ·subst ha0
   have hc0 : digCnt n 0 = 0 := by unfold digCnt; rw [show Builtin.Int.intBits ((0 : Nat) : Int) = 0 by rfl]; exact Nat.div_eq_of_lt (by lia)
   rw [hc0] at S12 ⊢
   rw [show (((0 : Nat) : Int) != 0) = false by rfl, if_neg Bool.false_ne_true]
   exact q_nil ⟨rfl, _, .nil, S12⟩
  ·rw [show ((a : Int) != 0) = true by simp; exact ha0, if_pos rfl]
   have hc1 : 0 < digCnt n a := Nat.pos_of_ne_zero fun e => by rw [e] at hlt; simp at hlt; exact ha0 hlt
   refine q_cons <| q_expr C' <| q_call <| q_nameX S12 hoI (by walk_at "mem") fI lI <| q_cwF ⟨_, _, _, _, by rw [S12.get (by walk_at "mem"), ← hfo]⟩ <| q_ic <| q_name C' S12 (by walk_at "lk") <| q_ic <| q_int S12 fun t_3 s3 S_3 => q_ic <| q_call <|
    q_glob C' S_3 (by walk_at "mem") <| q_cwB <| q_ic <| q_nameX S_3 hoA (by walk_at "mem") fA lA <| q_i0 <| q_len S_3 (S_3.get (by walk_at "mem")) (by simp; with_reducible exact Nat.lt_of_le_of_lt (by assumption) (by decide)) fun t_4 s4 S4 _ => q_i0 ⟨⟨_, _, _, _, by rw [S4.get (by walk_at "mem"), ← hfo]⟩, ?_⟩
   rw [List.length_replicate]
   refine inner (digCnt n a) C' _ 0 a 0 (digCnt n a) t t_3 t_4 S4 (fun p hp => S4.get (.tail _ hp)) ?_ hc1 (by lia) (by simp) (by simp; with_reducible assumption) ha (by simpa using hlt) fun ds' s5 hds' S5 => q_nil ⟨rfl, ds', ?_, S5⟩
   ·have : digCnt n a ≤ 26 := by
     unfold digCnt
     exact Nat.le_trans (Nat.div_le_self _ _) (by lia)
    rw [show (A.deeper env').depth = A.depth + 1 from rfl]; lia
   ·refine all2_of (by rw [digs_length, hds'.1, List.length_replicate]) fun i hi => ?_
    rw [digs_length] at hi
    obtain ⟨t, e⟩ := hds'.2.1 i (by lia)
    exact ⟨_, _, by rw [Nat.zero_add] at e; exact e, digs_get n _ a i hi, t, rfl⟩
 ·rintro _ s3 ⟨rfl, ds, hds, S_3⟩
  refine q_cons <| q_ret <| q_nameX S_3 hoA (by walk_at "mem") fA lA ⟨_, tb' ++ (dl, W.listOf ds.toArray 0) :: [(cz + 2, oI), (f, fo), (cz + 1, oA), (cz, oN)], S_3.perm (List.perm_append_comm (l₁ := tb') (l₂ := [_, _, _, _, _])), fun S4 => k _ _ _ _ [(cz + 2, oI), (f, fo), (cz + 1, oA), (cz, oN)] _ hT' (by simpa using S4) hds⟩
noncomputable def valN (n : Nat) : List Nat → Nat
 | [] => 0
 | d :: r => d + 2 ^ n * valN n r
theorem valN_append (n : Nat) : ∀ (xs ys : List Nat), valN n (xs ++ ys) = valN n xs + 2 ^ (n * xs.length) * valN n ys
 | [], ys => by simp [valN]
 | x :: xs, ys => by
  rw [List.cons_append, valN, valN_append n xs, valN, List.length_cons, show n * (xs.length + 1) = n + n * xs.length by rw [Nat.mul_add]; lia, Nat.pow_add, Nat.mul_add, Nat.mul_assoc, Nat.add_assoc]
theorem valN_lt (n : Nat) : ∀ (xs : List Nat), (∀ x ∈ xs, x < 2 ^ n) → valN n xs < 2 ^ (n * xs.length)
 | [], _ => by simp [valN]
 | x :: xs, h => by
  have ih := valN_lt n xs fun y hy => h y (.tail _ hy)
  have hx := h x (.head _)
  rw [valN, List.length_cons, Nat.mul_add, Nat.mul_one, Nat.add_comm (n * xs.length) n, Nat.pow_add]
  calc x + 2 ^ n * valN n xs < 2 ^ n + 2 ^ n * valN n xs := by lia
   _ = 2 ^ n * (valN n xs + 1) := by rw [Nat.mul_add]; lia
   _ ≤ _ := Nat.mul_le_mul_left _ ih
theorem hd168 (w : World) : codeHdIn (hK w.params) 168 164 = true := by kernel_rfl
theorem dig2_spec {w : World} {A : Around} {env : Env} {g base : Heap} {outer : List Env} {nm : List Str} {G : SV} {s0 s : Shared} {m : SM} {tb news : LD}
  {E : VP} {dn : List Nat} {n : Nat} {dv : Value} {u : Tok} {Q : VP} :
  (hK w.params).In g → ∀ (C : Fm w A env g base outer nm G) (S : Stt s0 g env.locals m (tb ++ news) s) (hd : A.depth + 50 < recursionLimit) (hT : Tb 164 "_digits2int.<locals>.inner" 168 4 tb)
  (hl : LI s.heap dv (dn.map fun (d : Nat) => ((d : Nat) : Int))) (hdl : ∀ da, dv = .ref da → da ∉ tb.map (·.1)) (hn7 : n ≤ 7) (hln : dn.length ≤ 26) (hnl : n * dn.length ≤ 60) (hdn : ∀ d ∈ dn, d < 2 ^ n)
  (k : ∀ tb' t nw s', Tb 164 "_digits2int.<locals>.inner" 168 4 tb' → Stt s0 g env.locals m (tb' ++ nw ++ news) s' → Q (.int (valN n dn : Nat) t) s'), WP (model PySem.Challenge.rw_rt0104_01.row.prog w) A (call (.ref 169) [dv, .int n u]) Q E s := by
 k_fill
 intro X C S hd hT hl hdl hn7 hln hnl hdn k
 refine q_defC0 C (sub := tb) S [] [] [] [("len", .builtin "len")] [("digits", dv), ("n", .int n u)] [("digits", dv), ("n", .int n u)] (fun z => [("inner", z + 2), ("n", z + 1), ("digits", z)])
  (by k_is) (by k_is) (by lia) (BindsTo.of_eq rfl) (Nat.le_of_ble_eq_true rfl) rfl rfl rfl (by decide +kernel) (fun z => rfl) (by decide) rfl (fun z x hx => by
   rcases List.mem_cons.mp hx with rfl | hx
   ·exact .inr ⟨rfl, rfl⟩
   ·rw [List.mem_singleton.mp hx]; exact .inr ⟨rfl, rfl⟩) rfl rfl rfl ?_
 intro g' cz env' s_1 cells hx hx' C' hcq Cc Y S_1
 refine byG fun GG hGG => ?_
 obtain ⟨oI, oN, oD, rfl, hoI, hoN, hoD⟩ := Y.three
 obtain ⟨da, dvs, dk, rfl, hdo, hdall⟩ := hl
 refine hGG ?_
 clear hGG GG
 replace S_1 : Stt s g' env'.locals (lcs [] []) ((cz + 2, oI) :: (cz + 1, oN) :: (cz, oD) :: tb) s_1 := S_1
 replace hoI : oI.data = .cell none := hoI
 replace hoD : oD.data = .cell (some (.ref da)) := hoD
 replace hoN : oN.data = .cell (some (.int n u)) := hoN
 have hdg : g'.get? da = some (W.listOf dvs.toArray dk) := hx _ _ hdo (hdl _ rfl)
 have hdlen : dvs.length = dn.length := by have := hdall.length; simpa using this
 have fI := Cc.at (x := "inner") (c := cz + 2) (by walk_at "mem")
 have fD := Cc.at (x := "digits") (c := cz) (by walk_at "mem")
 have fN := Cc.at (x := "n") (c := cz + 1) (by walk_at "mem")
 have lI : env'.cells.lookup ("inner" : Str) = some (cz + 2) := by rw [Cc.cells]; exact rfl
 have lD : env'.cells.lookup ("digits" : Str) = some cz := by rw [Cc.cells]; exact rfl
 have lN : env'.cells.lookup ("n" : Str) = some (cz + 1) := by rw [Cc.cells]; exact rfl
 replace S_1 := S_1.perm (news' := tb ++ ((cz + 2, oI) :: (cz + 1, oN) :: (cz, oD) :: [])) (List.perm_append_comm (l₁ := tb) (l₂ := [_, _, _]))
 refine q_cons <| q_nest C' S_1 hT (hcq.1) (by unfold qualnameIn; rw [hcq.2, fI.2]; rfl) (closureFor_eq (cl := [("n", cz + 1), ("inner", cz + 2), ("digits", cz)]) Cc.cells rfl) (codeHd_of_K C'.X (hd168 w)) fun f doc pm c' ctv tb' s11 hT' hcr S11 => ?_
 generalize hfo : fnMade _ _ _ _ _ _ doc pm c' ctv = fo at S11
 replace S11 := S11.perm (news' := (cz + 2, oI) :: (f, fo) :: (cz + 1, oN) :: (cz, oD) :: tb') (by
  refine List.Perm.trans ?_ (List.perm_append_comm (l₂ := tb'))
  exact List.Perm.swap _ _ _)
 refine q_storeX0 S11 hoI fI lI fun oI s12 hoI S12 => ?_
 have inner : ∀ (fuel : Nat) {A : Around} {env : Env} {g base : Heap} {outer : List Env} {nm : List Str} {G : SV} {s0 s : Shared} {m : SM} {news : LD} {E : VP} {Q : VP}
   (C : Fm w A env g base outer nm G) (L R : Nat) (u v : Tok) (S : Stt s0 g env.locals m news s)
   (hH : ∀ p ∈ (da, W.listOf dvs.toArray dk) :: (cz + 2, oI) :: (f, fo) :: (cz + 1, oN) :: (cz, oD) :: tb', s.heap.get? p.1 = some p.2) (hd : A.depth + fuel + 5 < recursionLimit) (hLR : L < R) (hf : R ≤ L + fuel) (hR : R ≤ dn.length)
   (k : ∀ t s', Stt s0 g env.locals m news s' → Q (.int (valN n ((dn.drop L).take (R - L)) : Nat) t) s'),
   WP (model PySem.Challenge.rw_rt0104_01.row.prog w) A (call (.ref f) [.int L u, .int R v]) Q E s := by
  intro fuel
  induction fuel with
  | zero => intros; lia
  | succ fuel ih =>
   intro A env g base outer nm G s0 s m news E Q C L R u v S hH hd hLR hf hR k
   have hfh := hH (f, fo) (by walk_at "mem")
   refine q_clo C (sub := []) (rest := news) S ["L", "R", "mid", "shift"] [.int L u, .int R v] [some (.int L u), some (.int R v), none, none] []
    hfh (by rw [← hfo]) (hcr _ fun p hp => hH p (by simp [hp])) (by lia) (BindsTo.of_eq rfl) (Nat.le_of_ble_eq_true rfl) rfl (by decide +kernel) (by decide +kernel) rfl rfl rfl ?_
   intro g' env' s_1 hx1 hx1' C' hcells hkO S_1
   have hg : ∀ p ∈ (da, W.listOf dvs.toArray dk) :: (cz + 2, oI) :: (f, fo) :: (cz + 1, oN) :: (cz, oD) :: tb', g'.get? p.1 = some p.2 := fun p hp => hx1 _ _ (hH p hp) (by simp)
   have kD : env'.kindOf ("digits" : Str) = some .free := by rw [hkO]; exact rfl
   have kI : env'.kindOf ("inner" : Str) = some .free := by rw [hkO]; exact rfl
   have kN : env'.kindOf ("n" : Str) = some .free := by rw [hkO]; exact rfl
   have lD : env'.cells.lookup ("digits" : Str) = some cz := by rw [hcells]; exact rfl
   have lI : env'.cells.lookup ("inner" : Str) = some (cz + 2) := by rw [hcells]; exact rfl
   have lN : env'.cells.lookup ("n" : Str) = some (cz + 1) := by rw [hcells]; exact rfl
   have gD := hg (cz, oD) (by walk_at "mem")
   have gI := hg (cz + 2, oI) (by walk_at "mem")
   have gN := hg (cz + 1, oN) (by walk_at "mem")
   have gL := hg (da, W.listOf dvs.toArray dk) (by walk_at "mem")
   have gF := hg (f, fo) (by walk_at "mem")
   have hin : ∀ {s_2 : Shared} {m2 : SM} {n_2 : LD}, Stt s g' env'.locals m2 n_2 s_2 → ∀ p ∈ (da, W.listOf dvs.toArray dk) :: (cz + 2, oI) :: (f, fo) :: (cz + 1, oN) :: (cz, oD) :: tb', s_2.heap.get? p.1 = some p.2 := fun S p hp => S.base (hg p hp)
   refine q_cons <| q_if <| q_tcmp <| q_binop <| q_name C' S_1 (by walk_at "lk") <| q_int S_1 fun t_2 s_2 S_2 => q_add S_2 fun t_3 s3 S_3 => q_name C' S_3 (by walk_at "lk") <| q_eqi <| q_tbool ?_
   by_cases hb : L + 1 = R
   ·rw [show ((L : Int) + 1 == (R : Int)) = true from beq_iff_eq.mpr (by lia), if_pos rfl]
    subst hb
    obtain ⟨_, hdv, td, rfl⟩ := hdall.get (i := L) (b := ((dn[L]'(by lia) : Nat) : Int)) (by rw [List.getElem?_map, List.getElem?_eq_getElem (by lia)]; rfl)
    refine q_cons <| q_ret <| q_sub <| q_nameF C' (S_3.base gD) hoD kD lD <| q_name C' S_3 (by walk_at "lk") <| q_item (S_3.base gL) (by exact Int.natCast_nonneg _) (by lia) (by rw [Int.toNat_natCast]; exact hdv) ⟨_, _, S_3, fun S4 => ?_⟩
    have := k td _ S4
    rw [show L + 1 - L = 1 by lia, List.drop_eq_getElem_cons (by lia), List.take_succ_cons, List.take_zero, valN, valN, Nat.mul_zero, Nat.add_zero] at this
    exact this
   ·rw [show ((L : Int) + 1 == (R : Int)) = false from beq_eq_false_iff_ne.mpr (by lia), if_neg Bool.false_ne_true]
    generalize hM : (L + R) / 2 = M
    have hLM : L < M := by lia
    have hMR : M < R := by lia
    refine q_nil ?_
    refine q_cons <| q_assign <| q_binop <| q_binop <| q_name C' S_3 (by walk_at "lk") <| q_name C' S_3 (by walk_at "lk") <| q_add S_3 fun t_4 s4 S4 => q_int S4 fun t5 s5 S5 => q_rsh S5 (by lia) fun t6 s6 S6 => ?_
    rw [show ((L : Int) + (R : Int)) / 2 ^ (1 : Int).toNat = (M : Int) by simp; lia]
    refine q_store C' S6 (by walk_at "up") fun s7 S7 => ?_
    refine q_cons <| q_assign <| q_binop <| q_binop <| q_name C' S7 (by walk_at "lk") <| q_name C' S7 (by walk_at "lk") <| q_msub S7 fun t8 s8 S8 => q_nameF C' (S8.base gN) hoN kN lN <| q_mul S8 (by with_reducible exact n29 (by assumption) (by decide)) fun t9 s9 S9 => ?_
    rw [show ((M : Int) - (L : Int)) * (n : Int) = ((n * (M - L) : Nat) : Int) by
     rw [Int.natCast_mul, Int.mul_comm, Int.natCast_sub (by with_reducible exact Nat.le_of_lt (by assumption))]]
    refine q_store C' S9 (by walk_at "up") fun s10 S10 => ?_
    generalize hsh : n * (M - L) = sh at S10 ⊢
    have hsh2 : sh < 2 ^ 20 := by
     have h1 : M - L ≤ 26 := by with_reducible exact n27 (by assumption) (by assumption) (by assumption)
     have := Nat.mul_le_mul hn7 h1; lia
    refine q_cons <| q_ret <| q_binop <| q_binop <| q_call <| q_nameF C' (S10.base gI) hoI kI lI <| q_cwF ⟨_, _, _, _, by rw [S10.base gF, ← hfo]⟩ <| q_ic <| q_name C' S10 (by walk_at "lk") <| q_ic <| q_name C' S10 (by walk_at "lk") <| q_i0
     ⟨⟨_, _, _, _, by rw [S10.base gF, ← hfo]⟩, ih C' _ _ _ _ S10 (hin S10) (by rw [show (A.deeper env').depth = A.depth + 1 from rfl]; lia) hMR (by lia) (by with_reducible assumption) fun t11 s11 S11 => ?_⟩
    have hv1 : valN n ((dn.drop M).take (R - M)) < 2 ^ 60 := by
     refine Nat.lt_of_lt_of_le (valN_lt n _ fun x hx => hdn x (List.mem_of_mem_drop (List.mem_of_mem_take hx))) (Nat.pow_le_pow_right (by lia) (Nat.le_trans (Nat.mul_le_mul_left n ?_) hnl))
     simp; exact n9
    refine q_name C' S11 (by walk_at "lk") <| q_lsh S11 (by rw [Int.natAbs_natCast]; lia) (by exact Int.natCast_nonneg _) (by lia) fun t12 s12 S12 => ?_
    rw [Int.toNat_natCast, show ((valN n ((dn.drop M).take (R - M)) : Nat) : Int) * 2 ^ sh = ((valN n ((dn.drop M).take (R - M)) * 2 ^ sh : Nat) : Int) by simp]
    refine q_call <| q_nameF C' (S12.base gI) hoI kI lI <| q_cwF ⟨_, _, _, _, by rw [S12.base gF, ← hfo]⟩ <| q_ic <| q_name C' S12 (by walk_at "lk") <| q_ic <| q_name C' S12 (by walk_at "lk") <| q_i0
     ⟨⟨_, _, _, _, by rw [S12.base gF, ← hfo]⟩, ih C' _ _ _ _ S12 (hin S12) (by rw [show (A.deeper env').depth = A.depth + 1 from rfl]; lia) hLM (by lia) (by lia) fun t13 s13 S13 => q_add S13 fun t14 s14 S14 => ⟨_, _, S14, fun S15 => ?_⟩⟩
    have := k t14 _ S15
    have e : (dn.drop L).take (R - L) = (dn.drop L).take (M - L) ++ (dn.drop M).take (R - M) := by
     rw [show R - L = (M - L) + (R - M) by with_reducible exact n8 (by assumption) (by assumption), List.take_add, List.drop_drop, show L + (M - L) = M by lia]
    rw [e, valN_append, List.length_take, List.length_drop, Nat.min_eq_left (by with_reducible exact n11 (by assumption) (by assumption)), hsh] at this
    rw [show ((valN n ((dn.drop M).take (R - M)) * 2 ^ sh : Nat) : Int) + ((valN n ((dn.drop L).take (M - L)) : Nat) : Int) = ((valN n ((dn.drop L).take (M - L)) + 2 ^ sh * valN n ((dn.drop M).take (R - M)) : Nat) : Int) by
     rw [Int.natCast_add, Nat.mul_comm (2 ^ sh), Int.add_comm]]
    exact this
 have hH : ∀ {s_2 : Shared} {m2 : SM}, Stt s g' env'.locals m2 ((cz + 2, oI) :: (f, fo) :: (cz + 1, oN) :: (cz, oD) :: tb') s_2 → ∀ p ∈ (da, W.listOf dvs.toArray dk) :: (cz + 2, oI) :: (f, fo) :: (cz + 1, oN) :: (cz, oD) :: tb', s_2.heap.get? p.1 = some p.2 := fun S p hp => by
  rcases List.mem_cons.mp hp with rfl | hp
  ·exact S.base hdg
  ·exact S.get hp
 refine q_cons <| q_ret <| q_ifexp <| q_tval <| q_nameX S12 hoD (by walk_at "mem") fD lD <| q_truthy S12 (S12.base hdg) (by lia) fun s13 S13 _ => ?_
 have fin : ∀ t s3, Stt s g' env'.locals (lcs [] []) ((cz + 2, oI) :: (f, fo) :: (cz + 1, oN) :: (cz, oD) :: tb') s3 → ∃ m' news', Stt s g' env'.locals m' news' s3 ∧ (Stt s0 g env.locals m (news' ++ news) s3 → Q (.int (valN n dn : Nat) t) s3) := fun t s3 S_3 =>
  ⟨_, tb' ++ [(cz + 2, oI), (f, fo), (cz + 1, oN), (cz, oD)], S_3.perm (List.perm_append_comm (l₁ := tb') (l₂ := [_, _, _, _])), fun S4 => k tb' t _ _ hT' S4⟩
 by_cases h0 : dn.length = 0
 ·have e1 : dvs.isEmpty = true := by rw [List.isEmpty_iff_length_eq_zero]; lia
  rw [e1]
  refine q_int S13 fun t s3 S_3 => ?_
  have := fin t s3 S_3
  have e0 : dn = [] := List.length_eq_zero_iff.mp h0
  rw [e0] at this
  exact let ⟨a, b, c, d⟩ := this; ⟨a, b, c, d⟩
 ·have e1 : dvs.isEmpty = false := by rw [Bool.eq_false_iff]; intro h; rw [List.isEmpty_iff_length_eq_zero] at h; lia
  rw [e1]
  refine q_call <| q_nameX S13 hoI (by walk_at "mem") fI lI <| q_cwF ⟨_, _, _, _, by rw [S13.get (a := f) (o := fo) (by walk_at "mem"), ← hfo]⟩ <| q_ic <| q_int S13 fun t_3 s3 S_3 => q_ic <| q_call <|
    q_glob C' S_3 (by walk_at "mem") <| q_cwB <| q_ic <| q_nameX S_3 hoD (by walk_at "mem") fD lD <| q_i0 <| q_len S_3 (S_3.base hdg) (by lia) fun t_4 s4 S4 _ => q_i0 ⟨⟨_, _, _, _, by rw [S4.get (a := f) (o := fo) (by walk_at "mem"), ← hfo]⟩, ?_⟩
  rw [hdlen]
  refine inner dn.length C' 0 dn.length t_3 t_4 S4 (hH S4) (by rw [show (A.deeper env').depth = A.depth + 1 from rfl]; lia) (by with_reducible exact Nat.pos_of_ne_zero (by assumption)) (by lia) (by lia) fun t s5 S5 => ?_
  rw [List.drop_zero, Nat.sub_zero, List.take_length]
  exact let ⟨a, b, c, d⟩ := fin t s5 S5; ⟨a, b, c, d⟩
noncomputable def digsN (n a : Nat) : Nat → List Nat
 | 0 => []
 | c + 1 => a % 2 ^ n :: digsN n (a / 2 ^ n) c
theorem digs_N (n : Nat) : ∀ (c a : Nat), digs n a c = (digsN n a c).map fun (d : Nat) => ((d : Nat) : Int)
 | 0, _ => rfl
 | c + 1, a => by rw [digs, digsN, List.map_cons, digs_N n c]
theorem digsN_lt (n : Nat) : ∀ (c a : Nat), ∀ d ∈ digsN n a c, d < 2 ^ n
 | 0, _, _, h => by simp [digsN] at h
 | c + 1, a, d, h => by
  rcases List.mem_cons.mp h with rfl | h
  ·exact Nat.mod_lt _ (Nat.two_pow_pos _)
  ·exact digsN_lt n c _ d h
theorem digsN_length (n : Nat) : ∀ (c a : Nat), (digsN n a c).length = c
 | 0, _ => rfl
 | c + 1, a => by rw [digsN, List.length_cons, digsN_length n c]
theorem valN_digs (n : Nat) : ∀ (c a : Nat), a < 2 ^ (n * c) → valN n (digsN n a c) = a
 | 0, a, h => by simp at h; simp [digsN, valN, h]
 | c + 1, a, h => by
  rw [digsN, valN, valN_digs n c (a / 2 ^ n)]
  ·exact Nat.mod_add_div a (2 ^ n)
  ·rw [Nat.div_lt_iff_lt_mul (Nat.two_pow_pos _), ← Nat.pow_add]
   rw [Nat.mul_add, Nat.mul_one] at h; exact h
theorem div21_spec {w : World} {A : Around} {env : Env} {g base : Heap} {outer : List Env} {nm : List Str} {G : SV} {s0 s : Shared} {m : SM} {news : LD}
  {E : VP} {a b n : Nat} {t u v : Tok} {Q : VP} :
  (hK w.params).In g → ∀ (C : Fm w A env g base outer nm G) (S : Stt s0 g env.locals m news s) (hd : A.depth + 10 < recursionLimit) (ha : a < 2 ^ 20) (hb : 0 < b) (hb7 : b ≤ 7)
  (k : ∀ r t u s', Stt s0 g env.locals m ((r, tupObj [.int (a / b : Nat) t, .int (a % b : Nat) u]) :: news) s' → Q (.ref r) s'), WP (model PySem.Challenge.rw_rt0104_01.row.prog w) A (call (.ref 148) [.int a t, .int b u, .int n v]) Q E s := by
 k_fill
 intro X C S hd ha hb hb7 k
 refine q_def C (sub := []) S ["a", "b", "n", "pad", "half_n", "mask", "b1", "b2", "q1", "r", "q2"] [.int a t, .int b u, .int n v] [some (.int a t), some (.int b u), some (.int n v), none, none, none, none, none, none, none, none] [("_DIV_LIMIT", .int 4000 378), ("divmod", .builtin "divmod")] (by k_is) (by k_is) (by lia) (BindsTo.of_eq rfl) (Nat.le_of_ble_eq_true rfl) rfl (by decide +kernel) (by decide +kernel) rfl rfl rfl ?_
 intro g' env' s_1 hx hx' C' S_1
 have hbl : Builtin.Int.intBits (a : Int) ≤ 20 := by
  unfold Builtin.Int.intBits
  split
  ·lia
  ·rename_i h0
   have h1 : a ≠ 0 := fun e => h0 (by simp [e])
   have := (Nat.log2_lt h1).mpr ha
   simp only [Int.natAbs_natCast]; lia
 refine q_cons <| q_if <| q_tcmp <| q_binop <| q_bitlen <| q_name C' S_1 (by walk_at "lk") ⟨_, _, _, _, _, _, _, rfl, S_1, fun t_2 s_2 S_2 => q_name C' S_2 (by walk_at "lk") <| q_msub S_2 fun t_3 s3 S_3 => q_glob C' S_3 (by walk_at "mem") <| q_lei <| q_tbool ?_⟩
 rw [show decide (((Builtin.Int.intBits (a : Int) : Nat) : Int) - (n : Int) ≤ 4000) = true by simp; lia, if_pos rfl]
 refine q_cons <| q_ret <| q_call <| q_glob C' S_3 (by walk_at "mem") <| q_cwB <| q_ic <| q_name C' S_3 (by walk_at "lk") <| q_ic <| q_name C' S_3 (by walk_at "lk") <| q_i0 <| q_divmod S_3 (by lia) (by with_reducible exact n40 (by assumption) (by decide)) fun r t_4 u_4 s4 S4 => ⟨_, _, S4, fun S5 => ?_⟩
 rw [show (a : Int) / (b : Int) = ((a / b : Nat) : Int) by simp, show (a : Int) % (b : Int) = ((a % b : Nat) : Int) by simp] at S5
 exact k _ _ _ _ S5
theorem dmp_spec {w : World} {A : Around} {env : Env} {g base : Heap} {outer : List Env} {nm : List Str} {G : SV} {s0 s : Shared} {m : SM} {ta tb news : LD}
  {E : VP} {a b : Nat} {t u : Tok} {Q : VP} :
  (hK w.params).In g → ∀ (C : Fm w A env g base outer nm G) (S : Stt s0 g env.locals m ((ta ++ tb) ++ news) s) (hd : A.depth + 60 < recursionLimit) (hTa : Tb 157 "_int2digits.<locals>.inner" 153 4 ta) (hTb : Tb 164 "_digits2int.<locals>.inner" 168 4 tb)
  (ha : a < 2 ^ 20) (hb : 0 < b) (hb7 : b ≤ 7)
  (k : ∀ ta tb r t u nw s', Tb 157 "_int2digits.<locals>.inner" 153 4 ta → Tb 164 "_digits2int.<locals>.inner" 168 4 tb → Stt s0 g env.locals m ((ta ++ tb) ++ (r, tupObj [.int (a / b : Nat) t, .int (a % b : Nat) u]) :: nw ++ news) s' → Q (.ref r) s'),
  WP (model PySem.Challenge.rw_rt0104_01.row.prog w) A (call (.ref 176) [.int a t, .int b u]) Q E s := by
 k_fill
 intro X C S hd hTa hTb ha hb hb7 k
 refine q_def C (sub := ta ++ tb) S ["a", "b", "n", "a_digits", "r", "q_digits", "a_digit", "q_digit", "q"] [.int a t, .int b u] [some (.int a t), some (.int b u), none, none, none, none, none, none, none]
  [("_int2digits", .ref 162), ("reversed", .type "reversed"), ("_div2n1n", .ref 148), ("_digits2int", .ref 169)] (by k_is) (by k_is) (by lia) (BindsTo.of_eq rfl) (Nat.le_of_ble_eq_true rfl) rfl (by decide +kernel) (by decide +kernel) rfl rfl rfl ?_
 intro g' env' s_1 hx hx' C' S_1
 generalize hN : Builtin.Int.intBits (b : Int) = n
 have hn1 : 1 ≤ n ∧ n ≤ 3 := by
  rw [← hN]
  rcases (by lia : b = 1 ∨ b = 2 ∨ b = 3 ∨ b = 4 ∨ b = 5 ∨ b = 6 ∨ b = 7) with rfl | rfl | rfl | rfl | rfl | rfl | rfl <;> decide
 have hD : ∀ A : Around, A.depth + 60 < recursionLimit → (A.deeper env').depth + 55 < recursionLimit := fun A h => by rw [show (A.deeper env').depth = A.depth + 1 from rfl]; lia
 have hd' := hD A hd
 refine q_cons <| q_assign <| q_bitlen <| q_name C' S_1 (by walk_at "lk") ⟨_, _, _, _, _, _, _, rfl, S_1, fun t_2 s_2 S_2 => ?_⟩
 rw [hN]
 refine q_store C' S_2 (by walk_at "up") fun s3 S_3 => ?_
 refine q_cons <| q_assign <| q_call <| q_glob C' S_3 (by walk_at "mem") <| q_cwK C' S_3 (by k_is) <| q_ic <| q_name C' S_3 (by walk_at "lk") <| q_ic <| q_name C' S_3 (by walk_at "lk") <| q_i0 ⟨⟨_, _, _, S_3⟩, int2_spec C'.X C' S_3 (by with_reducible exact n36 (by assumption) (by decide)) hTa hn1.1 (by lia) ha fun ta' dl ds kk nw s4 hTa' S4 hds => q_store C' S4 (by walk_at "up") fun s5 S5 => ?_⟩
 refine q_cons <| q_assign <| q_int S5 fun t6 s6 S6 => q_store C' S6 (by walk_at "up") fun s7 S7 => ?_
 refine q_cons <| q_assign <| q_list <| q_i0 ⟨_, _, _, _, S7, Nat.le_of_ble_eq_true rfl, fun ql s8 S8 => q_store C' S8 (by walk_at "up") fun s9 S9 => ?_⟩
 have hp : ((ql, W.listOf [].toArray 0) :: (dl, W.listOf ds.toArray kk) :: (nw ++ (ta' ++ tb))).Perm ((ql, W.listOf [].toArray 0) :: (ta' ++ (dl, W.listOf ds.toArray kk) :: nw ++ tb)) := by
  refine .cons _ ?_
  rw [List.append_assoc, List.cons_append]
  refine List.Perm.trans (.cons _ ?_) List.perm_middle.symm
  rw [← List.append_assoc, ← List.append_assoc]
  exact List.Perm.append_right _ List.perm_append_comm
 replace S9 := S9.perm hp
 rw [digs_N] at hds
 generalize hDD : digsN n a (digCnt n a) = D at hds
 have hDv : valN n D = a := by rw [← hDD]; exact valN_digs n _ a (cnt_bound n a hn1.1)
 have hDl : ∀ d ∈ D, d < 2 ^ n := by rw [← hDD]; exact digsN_lt n _ a
 have hbl : Builtin.Int.intBits (a : Int) ≤ 20 := by
  unfold Builtin.Int.intBits
  split
  ·lia
  ·rename_i h0
   have h1 : a ≠ 0 := fun e => h0 (by simp [e])
   have := (Nat.log2_lt h1).mpr ha
   simp only [Int.natAbs_natCast]; lia
 have hDc : D.length ≤ 22 := by
  rw [← hDD, digsN_length]
  unfold digCnt
  exact Nat.le_trans (Nat.div_le_self _ _) (by lia)
 have hDn : n * D.length ≤ 22 := by
  rw [← hDD, digsN_length]
  unfold digCnt
  exact Nat.le_trans (Nat.mul_div_le _ _) (by lia)
 have hdsl : ds.length = D.length := by have := hds.length; simpa using this
 have h2n : 2 ^ n ≤ 8 := by
  have := Nat.pow_le_pow_right (show 0 < 2 by lia) hn1.2
  with_reducible assumption
 generalize hrest : nw ++ (ta' ++ tb) = rs at *
 refine q_cons <| q_forRev C' (by walk_at "mem") <| q_call <| q_glob C' S9 (by walk_at "mem") <| q_cwT <| q_ic <| q_name C' S9 (by walk_at "lk") <| q_i0 <| q_reversed S9 (S9.get (by walk_at "mem")) fun I s10 S10 => ?_
 refine ⟨s, I, dl, W.listOf ds.toArray kk, ds, fun i m r => Ex7 fun qvs (qs : List Nat) qk tr u1 u2 u3 => An6 (r = (ql, W.listOf qvs.toArray qk) :: (dl, W.listOf ds.toArray kk) :: rs) (All2 Vi qvs (qs.map fun (d : Nat) => ((d : Nat) : Int))) (qs.length = i) (∀ q ∈ qs, q < 2 ^ n) (valN n qs.reverse = valN n (D.drop (D.length - i)) / b) (m = lcs ["a", "b", "n", "a_digits", "r", "q_digits", "a_digit", "q_digit", "q"] [some (.int a t), some (.int b u), some (.int n t_2), some (.ref dl), some (.int (valN n (D.drop (D.length - i)) % b : Nat) tr), some (.ref ql), u1, u2, u3]),
  _, _, rfl, rfl, ⟨_, rfl⟩, S10, .inr ?_, ?_, ?_, ?_⟩
 ·rintro i m r ⟨qvs, qs, qk, tr, u1, u2, u3, rfl, _⟩; simp
 ·refine ⟨[], [], 0, t6, none, none, none, rfl, .nil, rfl, by simp, ?_, ?_⟩
  ·rw [Nat.sub_zero, List.drop_length]; simp [valN]
  ·rw [Nat.sub_zero, List.drop_length]; simp [valN]
 ·rintro i v m1 r_1 I2 it s11 hi hv ⟨qvs, qs, qk, tr, u1, u2, u3, rfl, hq, hqi, hql, hqv, rfl⟩ S11
  rw [hdsl] at hi hv
  obtain ⟨d', hd', td, rfl⟩ := hds.get' hv
  rw [List.getElem?_map, List.getElem?_eq_getElem (by with_reducible exact n17 (by assumption))] at hd'
  simp only [Option.map_some, Option.some.injEq] at hd'
  subst hd'
  have hdr : D.drop (D.length - (i + 1)) = D[D.length - 1 - i]'(by with_reducible exact n17 (by assumption)) :: D.drop (D.length - i) := by
   rw [show D.length - (i + 1) = D.length - 1 - i by lia, List.drop_eq_getElem_cons (by with_reducible exact n17 (by assumption)), show D.length - 1 - i + 1 = D.length - i by with_reducible exact n16 (by assumption)]
  have hdlt := hDl _ (List.getElem_mem (show D.length - 1 - i < D.length by with_reducible exact n17 (by assumption)))
  generalize hdd : D[D.length - 1 - i]'(by with_reducible exact n17 (by assumption)) = d at *
  generalize hV : valN n (D.drop (D.length - i)) = V at *
  have hVr : V % b < b := Nat.mod_lt _ hb
  rw [(show Up "a_digit" (some (.int (d : Int) td)) ["a", "b", "n", "a_digits", "r", "q_digits", "a_digit", "q_digit", "q"] _ [some (.int a t), some (.int b u), some (.int n t_2), some (.ref dl), some (.int (V % b : Nat) tr), some (.ref ql), some (.int (d : Int) td), u2, u3] by walk_at "up").eq C'.nd] at S11
  refine q_cons <| q_unpack2 C'.hh <| q_call <| q_glob C' S11 (by walk_at "mem") <| q_cwK C' S11 (by k_is) <| q_ic <| q_binop <| q_binop <| q_name C' S11 (by walk_at "lk") <| q_name C' S11 (by walk_at "lk") <| q_lsh S11 (by rw [Int.natAbs_natCast]; lia) (by exact Int.natCast_nonneg _) (by lia) fun t12 s12 S12 => ?_
  rw [Int.toNat_natCast, show ((V % b : Nat) : Int) * 2 ^ n = ((V % b * 2 ^ n : Nat) : Int) by simp]
  refine q_name C' S12 (by walk_at "lk") <| q_add S12 fun t13 s13 S13 => ?_
  rw [show ((V % b * 2 ^ n : Nat) : Int) + (d : Int) = ((V % b * 2 ^ n + d : Nat) : Int) by simp]
  have hb1 : V % b * 2 ^ n + d < b * 2 ^ n := by
   have : (V % b + 1) * 2 ^ n ≤ b * 2 ^ n := Nat.mul_le_mul_right _ hVr
   rw [Nat.add_mul] at this; lia
  have hb2 : b * 2 ^ n ≤ 7 * 8 := Nat.mul_le_mul hb7 h2n
  refine q_ic <| q_name C' S13 (by walk_at "lk") <| q_ic <| q_name C' S13 (by walk_at "lk") <| q_i0 ⟨⟨_, _, _, S13⟩, div21_spec C'.X C' S13 (by with_reducible exact n36 (by assumption) (by decide)) (by lia) hb hb7 fun tp t14 u14 s14 S14 =>
   ⟨_, _, _, _, _, _, _, _, rfl, S14, S14.get (.head _), fun s15 S15 _ => q_store C' S15 (by walk_at "up") fun s16 S16 => q_store C' S16 (by walk_at "up") fun s17 S17 => ?_⟩⟩
  replace S17 := S17.sub (List.sublist_cons_self _ _)
  have hqlen := hq.length
  rw [List.length_map] at hqlen
  refine q_cons <| q_expr C' <| q_append <| q_name C' S17 (by walk_at "lk") ⟨ql, _, qk, rfl, S17.get (by walk_at "mem"), q_name C' S17 (by walk_at "lk") ⟨_, _, _, _, qvs, qk, _, S17, by lia, S17.get (by walk_at "mem"), .tail .head, fun s18 S18 =>
   q_nil ⟨_, _, S18, _, qs ++ [(V % b * 2 ^ n + d) / b], _, u14, some (.int (d : Int) td), some (.int ((V % b * 2 ^ n + d) / b : Nat) t14), u3, rfl, ?_, by rw [List.length_append, hqi]; rfl, ?_, ?_, ?_⟩⟩⟩
  ·rw [List.map_append]; exact hq.snoc ⟨_, rfl⟩
  ·intro q hqm
   rcases List.mem_append.mp hqm with h | h
   ·exact hql q h
   ·rw [List.mem_singleton.mp h, Nat.div_lt_iff_lt_mul hb, Nat.mul_comm (2 ^ n)]; exact hb1
  ·rw [List.reverse_append, List.reverse_singleton, List.singleton_append, valN, hqv, hdr, valN, hV]
   have e : d + 2 ^ n * V = (V % b * 2 ^ n + d) + b * (2 ^ n * (V / b)) := by
    have h1 := Nat.mod_add_div V b
    have h2 : 2 ^ n * V = 2 ^ n * (V % b) + 2 ^ n * (b * (V / b)) := by rw [← Nat.mul_add, h1]
    rw [h2, Nat.mul_comm (V % b), Nat.mul_left_comm b]; lia
   rw [e, Nat.add_mul_div_left _ _ hb]
  ·rw [hdr, valN, hV]
   have e : d + 2 ^ n * V = (V % b * 2 ^ n + d) + b * (2 ^ n * (V / b)) := by
    have h1 := Nat.mod_add_div V b
    have h2 : 2 ^ n * V = 2 ^ n * (V % b) + 2 ^ n * (b * (V / b)) := by rw [← Nat.mul_add, h1]
    rw [h2, Nat.mul_comm (V % b), Nat.mul_left_comm b]; lia
   rw [e, Nat.add_mul_mod_self_left]
 ·rintro m1 r_1 s11 ⟨qvs, qs, qk, tr, u1, u2, u3, rfl, hq, hqi, hql, hqv, rfl⟩ S11
  rw [hdsl] at hqi hqv S11
  rw [Nat.sub_self, List.drop_zero, hDv] at hqv S11
  have hqlen := hq.length
  rw [List.length_map] at hqlen
  refine q_cons <| q_expr C' <| q_reverse <| q_name C' S11 (by walk_at "lk") ⟨_, _, _, _, _, ql, qvs, qk, _, rfl, S11, by lia, S11.get (by walk_at "mem"), .head, fun s12 S12 => ?_⟩
  subst hrest
  have hp2 : (tb ++ ((ql, W.listOf qvs.reverse.toArray qk) :: (dl, W.listOf ds.toArray kk) :: (nw ++ ta'))).Perm ((ql, W.listOf qvs.reverse.toArray qk) :: (dl, W.listOf ds.toArray kk) :: (nw ++ (ta' ++ tb))) := by
   refine List.perm_append_comm.trans ?_
   rw [List.cons_append, List.cons_append, List.append_assoc]
  replace S12 := S12.perm hp2
  have hndq : ql ∉ tb.map (·.1) := fun h => by
   have nd := S12.nd
   simp only [List.map_append, List.nodup_append, List.map_cons] at nd
   exact nd.2.2 ql h ql (.head _) rfl
  refine q_cons <| q_assign <| q_call <| q_glob C' S12 (by walk_at "mem") <| q_cwK C' S12 (by k_is) <| q_ic <| q_name C' S12 (by walk_at "lk") <| q_ic <| q_name C' S12 (by walk_at "lk") <| q_i0 ⟨⟨_, _, _, S12⟩,
   dig2_spec (dn := qs.reverse) C'.X C' S12 (by with_reducible exact n36 (by assumption) (by decide)) hTb ⟨ql, qvs.reverse, qk, rfl, S12.get (by simp), by rw [List.map_reverse]; exact hq.reverse⟩ (fun da e => by cases e; exact hndq) (by lia) (by rw [List.length_reverse]; lia) (by
    rw [List.length_reverse]; rw [hqi]; with_reducible exact Nat.le_trans (by assumption) (by decide)) (fun d h => hql d (List.mem_reverse.mp h)) fun tb' t13 nw' s13 hTb' S13 => q_store C' S13 (by walk_at "up") fun s14 S14 => ?_⟩
  rw [hqv] at S14
  refine q_cons <| q_ret <| q_tuple <| q_ic <| q_name C' S14 (by walk_at "lk") <| q_ic <| q_name C' S14 (by walk_at "lk") <| q_i0 ⟨_, _, _, _, S14, Nat.le_of_ble_eq_true rfl, fun tp s15 S15 =>
   ⟨_, (ta' ++ tb') ++ (tp, tupObj [.int (a / b : Nat) t13, .int (a % b : Nat) tr]) :: (nw' ++ (ql, W.listOf qvs.reverse.toArray qk) :: (dl, W.listOf ds.toArray kk) :: nw), S15.perm ?_, fun S16 => k ta' tb' tp _ _ (nw' ++ (ql, W.listOf qvs.reverse.toArray qk) :: (dl, W.listOf ds.toArray kk) :: nw) _ hTa' hTb' S16⟩⟩
  refine List.perm_middle.trans (.cons _ ?_)
  have e : tb' ++ nw' ++ (ql, W.listOf qvs.reverse.toArray qk) :: (dl, W.listOf ds.toArray kk) :: (nw ++ ta') = (tb' ++ (nw' ++ (ql, W.listOf qvs.reverse.toArray qk) :: (dl, W.listOf ds.toArray kk) :: nw)) ++ ta' := by simp
  rw [e, List.append_assoc ta']
  exact List.perm_append_comm
theorem idm_spec {w : World} {A : Around} {env : Env} {g base : Heap} {outer : List Env} {nm : List Str} {G : SV} {s0 s : Shared} {m : SM} {ta tb news : LD}
  {E : VP} {a b : Nat} {t u : Tok} {Q : VP} :
  (hK w.params).In g → ∀ (C : Fm w A env g base outer nm G) (S : Stt s0 g env.locals m ((ta ++ tb) ++ news) s) (hd : A.depth + 70 < recursionLimit) (hTa : Tb 157 "_int2digits.<locals>.inner" 153 4 ta) (hTb : Tb 164 "_digits2int.<locals>.inner" 168 4 tb)
  (ha : a < 2 ^ 20) (hb : 0 < b) (hb7 : b ≤ 7)
  (k : ∀ ta tb r t u nw s', Tb 157 "_int2digits.<locals>.inner" 153 4 ta → Tb 164 "_digits2int.<locals>.inner" 168 4 tb → Stt s0 g env.locals m ((ta ++ tb) ++ (r, tupObj [.int (a / b : Nat) t, .int (a % b : Nat) u]) :: nw ++ news) s' → Q (.ref r) s'),
  WP (model PySem.Challenge.rw_rt0104_01.row.prog w) A (call (.ref 183) [.int a t, .int b u]) Q E s := by
 k_fill
 intro X C S hd hTa hTb ha hb hb7 k
 refine q_def C (sub := ta ++ tb) S ["a", "b", "q", "r"] [.int a t, .int b u] [some (.int a t), some (.int b u), none, none]
  [("_divmod_pos", .ref 176)] (by k_is) (by k_is) (by lia) (BindsTo.of_eq rfl) (Nat.le_of_ble_eq_true rfl) rfl (by decide +kernel) (by decide +kernel) rfl rfl rfl ?_
 intro g' env' s_1 hx hx' C' S_1
 replace S_1 : Stt s g' env'.locals (lcs ["a", "b", "q", "r"] [some (.int a t), some (.int b u), none, none]) ((ta ++ tb) ++ []) s_1 := by rw [List.append_nil]; exact S_1
 refine q_cons <| q_if <| q_tcmp <| q_name C' S_1 (by walk_at "lk") <| q_int S_1 fun t_2 s_2 S_2 => q_eqi <| q_tbool ?_
 rw [show ((b : Int) == 0) = false from beq_eq_false_iff_ne.mpr (by lia), if_neg Bool.false_ne_true]
 refine q_cons <| q_if <| q_tcmp <| q_name C' S_2 (by walk_at "lk") <| q_int S_2 fun t_3 s3 S_3 => q_lti <| q_tbool ?_
 rw [show decide ((b : Int) < 0) = false by simp, if_neg Bool.false_ne_true]
 refine q_cons <| q_if <| q_tcmp <| q_name C' S_3 (by walk_at "lk") <| q_int S_3 fun t_4 s4 S4 => q_lti <| q_tbool ?_
 rw [show decide ((a : Int) < 0) = false by simp, if_neg Bool.false_ne_true]
 refine q_cons <| q_ret <| q_call <| q_glob C' S4 (by walk_at "mem") <| q_cwK C' S4 (by k_is) <| q_ic <| q_name C' S4 (by walk_at "lk") <| q_ic <| q_name C' S4 (by walk_at "lk") <| q_i0 ⟨⟨_, _, _, S4⟩,
  dmp_spec C'.X C' S4 (by rw [show (A.deeper env').depth = A.depth + 1 from rfl]; lia) hTa hTb ha hb hb7 fun ta' tb' r t5 u_5 nw s5 hTa' hTb' S5 => ⟨_, _, S5, fun S6 => k _ _ _ _ _ nw _ hTa' hTb' (by simpa using S6)⟩⟩
section
variable {prog : Program} {w : World} {A : Around} {env : Env} {g base : Heap} {outer : List Env} {nm : List Str} {G : SV}
 {E : VP} {s0 s : Shared} {L : Addr} {m : SM} {news news' rest : LD}
theorem q_range3 (S : Stt s0 g env.locals m news s) {a b c : Int} {t u v : Tok} {Q : VP} (hc : c ≠ 0) (hc2 : c.natAbs < 1000) (h : ∀ r s', Stt s0 g env.locals m ((r, rangeObj a b c t u v) :: news) s' → Q (.ref r) s') : WP (model prog w) A (call (.type "range") [.int a t, .int b u, .int c v]) Q E s :=
 ⟨call_range_3 hc (h _ _ (S.push _ _)) (Or.inl (PyProof.noPylong_small (by lia)))⟩
inductive PForD (prog : Program) (w : World) (A : Around) (env : Env) (g : Heap) (x : Str) (body : List Stmt) (Q : FP) (xv : Value) (s_1 : Shared) : Prop
 | mk (s0 : Shared) (l : Addr) (n : Nat) (t : Tok) (u : Tok) (v : Tok) (J : Nat → (SM) → List (Addr × Obj) → Prop) (m : SM) (rest : LD) (h1 : xv = .ref l) (h2 : Stt s0 g env.locals m rest s_1) (h3 : s_1.heap.get? l = some (rangeObj (n : Int) 0 (-1) t u v)) (h4 : n < 2 ^ 60) (h5 : J 0 m rest) (h6 : (∀ i t m1 r_1 I it s_2, i < n → J i m1 r_1 → Stt s0 g env.locals (fun y => if y = x then some (.int ((n - i : Nat) : Int) t) else m1 y) ((I, it) :: r_1) s_2 →
    WP (model prog w) A (execs body env) (LPost s0 g env.locals I it (J (i + 1)) Q) NE s_2)) (h7 : (∀ m1 r_1 s_2, J n m1 r_1 → Stt s0 g env.locals m1 r_1 s_2 → Q .next s_2)) : PForD prog w A env g x body Q xv s_1
theorem q_forD (C : Fm w A env g base outer nm G) {x : Str} {px pos : Pos} {iter : Expr} {body : List Stmt} {Q : FP} (hx : x ∈ nm)
  (h : WP (model prog w) A (eval iter env) (PForD prog w A env g x body Q) NE s)
  (hs : ∀ x, foldedSetIterable iter env x = pure x := by intro _; exact rfl) :
  WP (model prog w) A (exec (.For (.Name x px) iter body [] pos) env) Q NE s := by
 refine ⟨wpAny_For (wpAny_mono h.run (fun xv s_1 h_1 => ?_) fun _ _ e => e) hs⟩
 obtain ⟨s0, l, n, t, u, v, J, m, rest, rfl, S, hr, hb, h0, turn, done⟩ := h_1
 have hr' : IsRange s_1.heap l (n : Int) 0 (-1) t u v := hr
 have hsz : Builtin.Range.rangeSize (n : Int) 0 (-1) = (n : Int) := by
  unfold Builtin.Range.rangeSize
  simp
  intro h; lia
 have hsm : Builtin.Range.small (n : Int) 0 (-1) = true := by
  unfold Builtin.Range.small
  rw [hsz]
  simp [Builtin.Range.rangeFitsLong]
  lia
 refine wpAny_pyIter_range hr' hsm ?_
 rw [hsz]
 have S' := S.push { cls := .type "range_iterator", data := .fields #[rawInt n, rawInt n, rawInt (-1)] } s_1.toks
 refine for_walk C (Walks.range C.hh s_1.heap.objs.size n (-1) n) hx S' (by simpa using Heap.get?_push_size _ rfl)
  (fun i h e => ⟨_, e⟩) ?_ J ?_ h0 ?_ ?_
 ·intro hm
  exact (S'.led _ (.head _)).2.1 (List.mem_singleton.mp hm).symm
 ·intro b hb hbI hg
  exact absurd (List.mem_singleton.mp hb) hbI
 ·rintro i _ m1 r_1 it s_2 hi ⟨t, rfl⟩ hJ S_2
  rw [show (n : Int) + (i : Int) * -1 = ((n - i : Nat) : Int) by lia] at S_2
  exact (turn i t m1 r_1 _ it s_2 hi hJ S_2).run
 ·exact done
end
theorem pull2 {α : Type} {a b : α} {X Y : List α} : (a :: b :: (X ++ Y)).Perm (X ++ a :: b :: Y) := (List.perm_middle.trans (.cons _ List.perm_middle)).symm
theorem swapP {α : Type} {T N E : List α} : (T ++ (N ++ E)).Perm (N ++ (T ++ E)) := by
 rw [← List.append_assoc, ← List.append_assoc]; exact List.perm_append_comm.append_right _
noncomputable def cdn (ln : Nat → Nat) (N c : Nat) : Nat → Nat
 | 0 => c
 | i + 1 => cdn ln N c i / ln (N - i)
noncomputable def dgt (ln : Nat → Nat) (N c k : Nat) : Nat := cdn ln N c (N - k) % ln k
noncomputable def insRow (row : List Int) (d : Nat) (k : Int) : List Int := row.take d ++ [k] ++ row.drop d
noncomputable def ordN (up dg : Nat → Nat) : Nat → List (List Int)
 | 0 => [[]]
 | i + 1 => ordN up dg i ++ [insRow (wAt (ordN up dg i) ((up (i + 1) : Nat) : Int)) (dg (i + 1)) ((i + 1 : Nat) : Int)]
theorem ordN_length (up dg : Nat → Nat) : ∀ i, (ordN up dg i).length = i + 1
 | 0 => rfl
 | i + 1 => by rw [ordN, List.length_append, ordN_length]; rfl
theorem cdn_le (ln : Nat → Nat) (N c : Nat) : ∀ i, cdn ln N c i ≤ c
 | 0 => Nat.le_refl _
 | i + 1 => Nat.le_trans (Nat.div_le_self _ _) (cdn_le ln N c i)
theorem Tb.noSeq {P : Addr} {qual : Str} {ln co : Nat} {tb : LD} (h : Tb P qual ln co tb) {p : Addr × Obj} (hp : p ∈ tb) {vs : Array Value} {n : Nat} : p.2.data ≠ .seq vs n := by
 cases h with
 | new => rw [List.mem_singleton.mp hp]; exact fun e => nomatch e
 | made hd _ =>
  rcases List.mem_cons.mp hp with rfl | hp
  ·exact fun e => nomatch e
  ·rw [List.mem_singleton.mp hp, hd]; exact fun e => nomatch e
theorem orders_spec {w : World} {A : Around} {env : Env} {g base : Heap} {outer : List Env} {nm : List Str} {G : SV} {s0 s : Shared} {m : SM} {ta tb news : LD}
  {E : VP} {av lv : Value} {N code : Nat} {up : Nat → Nat} {rows : List (List Int)} {t : Tok} {Q : VP} :
  (hK w.params).In g → ∀ (C : Fm w A env g base outer nm G) (S : Stt s0 g env.locals m ((ta ++ tb) ++ news) s) (hd : A.depth + 80 < recursionLimit) (hTa : Tb 157 "_int2digits.<locals>.inner" 153 4 ta) (hTb : Tb 164 "_digits2int.<locals>.inner" 168 4 tb)
  (ha : LI s.heap av ((List.range N).map fun i => ((up (i + 1) : Nat) : Int))) (hl : LLI s.heap lv rows)
  (hN : N ≤ 6) (hrl : rows.length = N + 1) (hup : ∀ k, 1 ≤ k → k ≤ N → up k < k ∧ (wAt rows (k : Nat)).length = (wAt rows (up k : Nat)).length + 1) (h0 : (wAt rows (0 : Nat)).length = 0) (h7 : ∀ k : Nat, k ≤ N → (wAt rows k).length ≤ 7) (hc : code < 2 ^ 20)
  (k : ∀ ta tb r ov t nw s', Tb 157 "_int2digits.<locals>.inner" 153 4 ta → Tb 164 "_digits2int.<locals>.inner" 168 4 tb → Stt s0 g env.locals m ((ta ++ tb) ++ nw ++ news) s' →
   (r, tupObj [ov, .int (cdn (fun k => (wAt rows (k : Nat)).length) N code N : Nat) t]) ∈ nw → LsLI (ld nw) ov (ordN up (dgt (fun k => (wAt rows (k : Nat)).length) N code) N) → Q (.ref r) s'),
  WP (model PySem.Challenge.rw_rt0104_01.row.prog w) A (call (.ref 322) [av, lv, .int code t]) Q E s := by
 k_fill
 intro X C S hd hTa hTb ha hl hN hrl hup h0 h7 hc k
 refine q_def C (sub := ta ++ tb) S ["above", "lines", "code", "digits", "k", "digit", "orders", "row"] [av, lv, .int code t] [some av, some lv, some (.int code t), none, none, none, none, none]
  [("range", .type "range"), ("len", .builtin "len"), ("int_divmod", .ref 183)] (by k_is) (by k_is) (by lia) (BindsTo.of_eq rfl) (Nat.le_of_ble_eq_true rfl) rfl (by decide +kernel) (by decide +kernel) rfl rfl rfl ?_
 intro g' env' s_1 hx hx' C' S_1
 refine q_abs fun PR hR => ?_
 obtain ⟨aa, avs, an, rfl, hao, haall⟩ := ha
 obtain ⟨la, lvs, ln, rfl, hlo, hall⟩ := hl
 generalize hLN : (fun k : Nat => (wAt rows (k : Nat)).length) = LN at *
 have eLN : ∀ k : Nat, (wAt rows (k : Nat)).length = LN k := fun k => by rw [← hLN]
 have off : ∀ {a : Addr} {vs : Array Value} {n : Nat}, s.heap.get? a = some (W.listOf vs n) → a ∉ (ta ++ tb).map (·.1) := fun {a vs n} e h => by
  obtain ⟨p, hp, rfl⟩ := List.mem_map.mp h
  have := (S.led p (List.mem_append_left _ hp)).1
  rw [e] at this
  exact (List.mem_append.mp hp).elim (fun hp => hTa.noSeq hp (by rw [← Option.some.inj this])) fun hp => hTb.noSeq hp (by rw [← Option.some.inj this])
 have hag := hx _ _ hao (off hao)
 have hlg := hx _ _ hlo (off hlo)
 have hlen := hall.length
 have halen := haall.length
 simp only [List.length_map, List.length_range] at halen
 have hlenK : ∀ k : Nat, 1 ≤ k → k ≤ N → 0 < LN k ∧ LN k ≤ 7 := fun k h1 h2 => by
  have := (hup k h1 h2).2
  rw [eLN] at this
  have h := h7 k h2
  rw [eLN] at h
  lia
 have hD : (A.deeper env').depth = A.depth + 1 := rfl
 refine q_cons <| q_assign <| q_list <| q_i0 ⟨_, _, _, _, S_1, Nat.le_of_ble_eq_true rfl, fun dgl s_2 S_2 => q_store C' S_2 (by walk_at "up") fun s3 S_3 => ?_⟩
 refine q_cons <| q_forD C' (by walk_at "mem") <| q_call <| q_glob C' S_3 (by walk_at "mem") <| q_cwT <| q_ic <| q_call <| q_glob C' S_3 (by walk_at "mem") <| q_cwB <| q_ic <| q_name C' S_3 (by walk_at "lk") <| q_i0 <|
  q_len S_3 (S_3.base hag) (by lia) fun t_4 s4 S4 _ => q_ic <| q_int S4 fun t5 s5 S5 => q_ic <| q_unop <| q_int S5 fun t6 s6 S6 => q_neg S6 fun t7 s7 S7 => q_i0 <| q_range3 S7 (by decide) (by decide) fun rg s8 S8 => ?_
 rw [halen] at S8
 refine ⟨s, rg, N, t_4, t5, t7, fun i m r => Ex8 fun dvs dk ta tb ex tc u1 u2 => An5 (r = (dgl, W.listOf dvs.toArray dk) :: ((ta ++ tb) ++ ex)) (Tb 157 "_int2digits.<locals>.inner" 153 4 ta) (Tb 164 "_digits2int.<locals>.inner" 168 4 tb) (All2 Vi dvs ((List.range i).map fun j => ((dgt LN N code (N - j) : Nat) : Int))) (m = lcs ["above", "lines", "code", "digits", "k", "digit", "orders", "row"] [some (.ref aa), some (.ref la), some (.int (cdn LN N code i : Nat) tc), some (.ref dgl), u1, u2, none, none]),
  _, _, rfl, S8.sub (List.sublist_cons_self _ _), S8.get (.head _), by with_reducible exact Nat.lt_of_le_of_lt (by assumption) (by decide), ?_, ?_, ?_⟩
 ·exact ⟨[], 0, ta, tb, [], t, none, none, by rw [List.append_nil], hTa, hTb, .nil, rfl⟩
 ·rintro i tk m1 r_1 I it s9 hi hJJ S9
  refine q_abs fun PL hL => ?_
  obtain ⟨dvs, dk, ta, tb, ex, tc, u1, u2, rfl, hTa, hTb, hdv, rfl⟩ := hJJ
  rw [(show Up "k" (some (.int ((N - i : Nat) : Int) tk)) ["above", "lines", "code", "digits", "k", "digit", "orders", "row"] _ [some (.ref aa), some (.ref la), some (.int (cdn LN N code i : Nat) tc), some (.ref dgl), some (.int ((N - i : Nat) : Int) tk), u2, none, none] by walk_at "up").eq C'.nd] at S9
  obtain ⟨_, hrv, ra, rvs, rn, rfl, hro, hrall⟩ := hall.at (k := ((N - i : Nat) : Int)) (by exact Int.natCast_nonneg _) (by lia)
  have hrg := hx _ _ hro (off hro)
  have hrl2 := hrall.length
  rw [eLN] at hrl2
  obtain ⟨hk1, hk2⟩ := hlenK (N - i) (by lia) (by lia)
  have hcl := cdn_le LN N code i
  have hdl := hdv.length
  simp only [List.length_map, List.length_range] at hdl
  replace S9 := S9.perm (pull2.symm : ((ta ++ tb) ++ (I, it) :: (dgl, W.listOf dvs.toArray dk) :: ex).Perm _)
  refine q_cons <| q_unpack2 C'.hh <| q_call <| q_glob C' S9 (by walk_at "mem") <| q_cwK C' S9 (by k_is) <| q_ic <| q_name C' S9 (by walk_at "lk") <| q_ic <| q_call <| q_glob C' S9 (by walk_at "mem") <| q_cwB <| q_ic <| q_sub <|
   q_name C' S9 (by walk_at "lk") <| q_name C' S9 (by walk_at "lk") <| q_item (S9.base hlg) (by exact Int.natCast_nonneg _) (by lia) hrv <| q_i0 <| q_len S9 (S9.base hrg) (by lia) fun t10 s10 S10 _ => ?_
  rw [hrl2]
  refine q_i0 ⟨⟨_, _, _, S10⟩, idm_spec C'.X C' S10 (by with_reducible exact n35 (by assumption) (by assumption) (by decide)) hTa hTb (by lia) hk1 hk2 fun ta' tb' tp t11 u11 nw s11 hTa' hTb' S11 => ⟨_, _, _, _, _, _, _, _, rfl, S11, S11.get (List.mem_append_left _ (List.mem_append_right _ (.head _))), fun s12 S12 _ => ?_⟩⟩
  replace S12 := S12.perm pull2
  refine q_store C' S12 (by walk_at "up") fun s13 S13 => q_store C' S13 (by walk_at "up") fun s14 S14 => ?_
  refine q_cons <| q_expr C' <| q_append <| q_name C' S14 (by walk_at "lk") ⟨dgl, _, dk, rfl, S14.get (by walk_at "mem"), q_name C' S14 (by walk_at "lk") ⟨_, _, _, _, dvs, dk, _, S14, by lia, S14.get (by walk_at "mem"), .tail .head, fun s15 S15 =>
   q_nil <| hL _ _ ⟨_, _, S15, _, _, ta', tb', _, t11, some (.int ((N - i : Nat) : Int) tk), some (.int (cdn LN N code i % LN (N - i) : Nat) u11), by rw [List.append_assoc], hTa', hTb', ?_, rfl⟩⟩⟩
  rw [List.range_succ, List.map_append, List.map_singleton]
  refine hdv.snoc ⟨u11, ?_⟩
  unfold dgt
  rw [show N - (N - i) = i by with_reducible exact n10 (by assumption)]
 ·rintro m1 r_1 s9 ⟨dvs, dk, ta, tb, ex, tc, u1, u2, rfl, hTa, hTb, hdv, rfl⟩ S9
  have hdl := hdv.length
  simp only [List.length_map, List.length_range] at hdl
  refine q_cons <| q_assign <| q_list <| q_ic <| q_list <| q_i0 ⟨_, _, _, _, S9, Nat.le_of_ble_eq_true rfl, fun a0 s10 S10 => q_i0 ⟨_, _, _, _, S10, Nat.le_of_ble_eq_true rfl, fun orl s11 S11 => q_store C' S11 (by walk_at "up") fun s12 S12 => ?_⟩⟩
  generalize hR0 : (dgl, W.listOf dvs.toArray dk) :: ((ta ++ tb) ++ ex) = R0 at S12
  have hdm : (dgl, W.listOf dvs.toArray dk) ∈ R0 := by rw [← hR0]; exact .head _
  refine q_cons <| q_forR C' (by walk_at "mem") <| q_call <| q_glob C' S12 (by walk_at "mem") <| q_cwT <| q_ic <| q_int S12 fun t_1 s_1 S_1 => q_ic <| q_call <| q_glob C' S_1 (by walk_at "mem") <| q_cwB <| q_ic <| q_name C' S_1 (by walk_at "lk") <| q_i0 <|
   q_len S_1 (S_1.base hlg) (by lia) fun t_2 s_2 S_2 _ => q_i0 <| q_range2 S_2 fun rg t u v s3 S_3 => ?_
  have hrowlen : ∀ i, ∀ j : Nat, j ≤ i → i ≤ N → (wAt (ordN up (dgt LN N code) i) (j : Nat)).length = LN j := by
    intro i
    induction i with
    | zero =>
     intro j hj _
     obtain rfl : j = 0 := by lia
     have := h0
     rw [eLN] at this
     rw [this]; rfl
    | succ i ih =>
     intro j hj hi
     rw [ordN]
     by_cases hji : j = i + 1
     ·subst hji
      have hu := hup (i + 1) (by lia) hi
      have ihu := ih (up (i + 1)) (by lia) (by lia)
      rw [eLN, eLN] at hu
      have hd : dgt LN N code (i + 1) < LN (i + 1) := Nat.mod_lt _ (hlenK (i + 1) (by lia) hi).1
      rw [wAt, Int.toNat_natCast, List.getD_eq_getElem?_getD, List.getElem?_append_right (by rw [ordN_length]; with_reducible assumption), ordN_length, Nat.sub_self]
      simp only [List.getElem?_cons_zero, Option.getD_some, insRow, List.length_append, List.length_take, List.length_drop, List.length_singleton]
      with_reducible exact n5a (by assumption) (by assumption) (by assumption)
     ·rw [wAt, Int.toNat_natCast, List.getD_eq_getElem?_getD, List.getElem?_append_left (by rw [ordN_length]; lia), ← List.getD_eq_getElem?_getD]
      exact ih j (by lia) (by lia)
  refine ⟨s, rg, 1, ((lvs.length : Nat) : Int), N, _, _, _, fun i m r => Ex6 fun ovs ok nw u2 u3 u4 => An3 (r = (orl, W.listOf ovs.toArray ok) :: (nw ++ R0)) (All2 (LsI (ld nw)) ovs (ordN up (dgt LN N code) i)) (m = lcs ["above", "lines", "code", "digits", "k", "digit", "orders", "row"] [some (.ref aa), some (.ref la), some (.int (cdn LN N code N : Nat) tc), some (.ref dgl), u2, u3, some (.ref orl), u4]),
   _, _, rfl, S_3.sub (List.sublist_cons_self _ _), S_3.get (.head _), ⟨by lia, by lia, by lia, by with_reducible exact Nat.lt_of_le_of_lt (by assumption) (by decide)⟩, ?_, ?_, ?_⟩
  ·exact ⟨_, _, [(a0, W.listOf [].toArray 0)], _, _, _, rfl, .cons ⟨a0, [], 0, rfl, .head _, .nil⟩ .nil, rfl⟩
  ·rintro i tk m1 r_1 I it s13 hi hJJ S13
   refine q_abs fun PL hL => ?_
   obtain ⟨ovs, ok, nw, u2, u3, u4, rfl, ho, rfl⟩ := hJJ
   rw [show (1 : Int) + (i : Int) = ((i + 1 : Nat) : Int) by lia] at S13
   rw [(show Up "k" (some (.int ((i + 1 : Nat) : Int) tk)) ["above", "lines", "code", "digits", "k", "digit", "orders", "row"] _ [some (.ref aa), some (.ref la), some (.int (cdn LN N code N : Nat) tc), some (.ref dgl), some (.int ((i + 1 : Nat) : Int) tk), u3, some (.ref orl), u4] by walk_at "up").eq C'.nd] at S13
   have hu := (hup (i + 1) (by lia) (by lia)).1
   have hu2 := (hup (i + 1) (by lia) (by lia)).2
   rw [eLN, eLN] at hu2
   have hol := ho.length
   rw [ordN_length] at hol
   obtain ⟨_, hav, tu, rfl⟩ := haall.get (i := i) (b := ((up (i + 1) : Nat) : Int)) (by simp [hi])
   obtain ⟨_, hov, ra, rvs, rn, rfl, hrm, hrall⟩ := ho.at (k := ((up (i + 1) : Nat) : Int)) (by exact Int.natCast_nonneg _) (by rw [ordN_length]; with_reducible exact n37 (by assumption))
   have hrl := hrowlen i (up (i + 1)) (by lia) (by with_reducible exact Nat.le_of_lt (by assumption))
   have hrvl := hrall.length
   rw [hrl] at hrvl
   have hd1 : dgt LN N code (i + 1) < LN (i + 1) := Nat.mod_lt _ (hlenK (i + 1) (by lia) (by lia)).1
   have hk7 := (hlenK (i + 1) (by lia) (by lia)).2
   obtain ⟨_, hdv1, td, rfl⟩ := hdv.get (i := N - (i + 1)) (b := ((dgt LN N code (i + 1) : Nat) : Int)) (by
    rw [List.getElem?_map, List.getElem?_range (by with_reducible exact n19 (by assumption))]
    simp only [Option.map_some]
    rw [show N - (N - (i + 1)) = i + 1 by with_reducible exact n10a (by assumption)])
   generalize hDG : dgt LN N code (i + 1) = d at *
   refine q_cons <| q_assign <| q_sub <| q_name C' S13 (by walk_at "lk") <| q_sub <| q_name C' S13 (by walk_at "lk") <| q_binop <| q_name C' S13 (by walk_at "lk") <| q_int S13 fun t14 s14 S14 => q_msub S14 fun t15 s15 S15 =>
    q_item (S15.base hag) (by lia) (by lia) (by rw [show (((i + 1 : Nat) : Int) - 1).toNat = i by lia]; exact hav) <| q_item (S15.get (by walk_at "mem")) (by exact Int.natCast_nonneg _) (by lia) hov <| q_store C' S15 (by walk_at "up") fun s16 S16 => ?_
   refine q_cons <| q_assign <| q_sub <| q_name C' S16 (by walk_at "lk") <| q_unop <| q_name C' S16 (by walk_at "lk") <| q_neg S16 fun t17 s17 S17 => q_itemNeg (S17.get (.tail _ (.tail _ (List.mem_append_right _ hdm)))) (by lia) (by lia) (by lia)
    (by rw [show (-((i + 1 : Nat) : Int) + (dvs.length : Int)).toNat = N - (i + 1) by with_reducible exact n24 (by assumption) (by assumption)]; exact hdv1) <| q_store C' S17 (by walk_at "up") fun s18 S18 => ?_
   refine q_cons <| q_expr C' <| q_append <| q_name C' S18 (by walk_at "lk") ⟨orl, _, ok, rfl, S18.get (by walk_at "mem"), q_binop <| q_binop <| q_sub <| q_name C' S18 (by walk_at "lk") <| q_sliceE <| q_ep0 <| q_ep <| q_name C' S18 (by walk_at "lk") ⟨_, _, _, _, S18, fun sl s19 S19 _ =>
    q_sliceT S19 (S19.get (.tail _ (.tail _ (.tail _ (List.mem_append_left _ hrm))))) (S19.get (.head _)) .none (.int _ _) (by simp; lia) fun x1 s20 S20 => ?_⟩⟩
   rw [sp_upto _ _ (by lia)] at S20
   refine q_list <| q_ic <| q_name C' S20 (by walk_at "lk") <| q_i0 ⟨_, _, _, _, S20, Nat.le_of_ble_eq_true rfl, fun x2 s21 S21 => q_ladd S21 (S21.get (.tail _ (.head _))) (S21.get (.head _)) (by simp; lia) fun x3 s22 S22 =>
    q_sub <| q_name C' S22 (by walk_at "lk") <| q_sliceE <| q_ep <| q_name C' S22 (by walk_at "lk") <| q_ep0 ⟨_, _, _, _, S22, fun sl2 s23 S23 _ =>
     q_sliceT S23 (S23.get (.tail _ (.tail _ (.tail _ (.tail _ (.tail _ (.tail _ (.tail _ (List.mem_append_left _ hrm))))))))) (S23.get (.head _)) (.int _ _) .none (by simp; lia) fun x4 s24 S24 => ?_⟩⟩
   rw [sp_from _ _ (by lia)] at S24
   refine q_ladd S24 (S24.get (.tail _ (.tail _ (.head _)))) (S24.get (.head _)) (by simp; lia) fun x5 s25 S25 => ⟨_, _, _, _, ovs, ok, _, S25, by lia, S25.get (by walk_at "mem"), .tail (.tail (.tail (.tail (.tail (.tail (.tail (.tail .head))))))), fun s26 S26 => q_nil ?_⟩
   refine hL _ _ ⟨_, _, (S26.sub (.cons_cons _ (.cons _ (.cons _ (.cons _ (.cons _ (.cons _ (.cons _ (List.Sublist.refl _)))))))) : Stt _ _ _ _ ((x5, W.listOf _ 0) :: (I, it) :: _ :: (nw ++ R0)) _).perm (List.perm_middle (l₁ := [_, _])), _, _, (x5, _) :: nw, _, _, _, rfl, ?_, rfl⟩
   rw [ordN, hDG]
   refine (ho.mono fun a b h => h.up fun _ _ x => .tail _ x).snoc ⟨x5, _, _, rfl, .head _, ?_⟩
   exact ((hrall.take d).append (.cons ⟨tk, rfl⟩ .nil)).append (hrall.drop d)
  ·rintro m1 r_1 s13 ⟨ovs, ok, nw, u2, u3, u4, rfl, ho, rfl⟩ S13
   subst hR0
   refine q_cons <| q_ret <| q_tuple <| q_ic <| q_name C' S13 (by walk_at "lk") <| q_ic <| q_name C' S13 (by walk_at "lk") <| q_i0 ⟨_, _, _, _, S13, Nat.le_of_ble_eq_true rfl, fun tp s14 S14 =>
    hR _ _ ⟨_, (ta ++ tb) ++ ((tp, tupObj [.ref orl, .int (cdn LN N code N : Nat) tc]) :: (orl, W.listOf ovs.toArray ok) :: (nw ++ (dgl, W.listOf dvs.toArray dk) :: ex)), S14.perm (pull2.symm.trans (.cons _ (.cons _ ?_))), fun S15 =>
     k ta tb tp _ _ _ _ hTa hTb S15 (.head _) ⟨orl, ovs, ok, rfl, .tail _ (.head _), ho.mono fun a b h => h.up fun _ _ x => .tail _ (.tail _ (List.mem_append_left _ x))⟩⟩⟩
   have e1 : nw ++ (dgl, W.listOf dvs.toArray dk) :: ex = (nw ++ [(dgl, W.listOf dvs.toArray dk)]) ++ ex := by simp
   have e2 : nw ++ (dgl, W.listOf dvs.toArray dk) :: ((ta ++ tb) ++ ex) = (nw ++ [(dgl, W.listOf dvs.toArray dk)]) ++ ((ta ++ tb) ++ ex) := by simp
   rw [e1, e2]
   exact swapP
noncomputable def freedRow (row ord : List Int) (k : Int) : List Int := row.filter fun j => (ord.take (ord.idxOf k)).contains j
noncomputable def freedOf (rows ords : List (List Int)) : List (List Int) := [] :: (List.range (rows.length - 1)).map fun i => freedRow (wAt rows ((i + 1 : Nat) : Int)) (wAt ords ((i + 1 : Nat) : Int)) ((i + 1 : Nat) : Int)
theorem all2_filter {R : Value → Int → Prop} {p : Value → Bool} {q : Int → Bool} (h : ∀ v b, R v b → p v = q b) {vs : List Value} {bs : List Int} (x : All2 R vs bs) : All2 R (vs.filter p) (bs.filter q) := by
 induction x with
 | nil => exact .nil
 | @cons a b _ _ x _ ih =>
  have := h a b x
  by_cases hq : q b = true
  ·rw [List.filter_cons_of_pos hq, List.filter_cons_of_pos (this.trans hq)]; exact .cons x ih
  ·rw [List.filter_cons_of_neg hq, List.filter_cons_of_neg (by rw [this]; exact hq)]; exact ih
noncomputable def hitV (l : List Int) : Value → Bool
 | .int j _ => l.contains j
 | _ => false
theorem filter_t {α : Type} {p : α → Bool} {v : α} (h : p v = true) : [v].filter p = [v] := by simp [h]
theorem filter_f {α : Type} {p : α → Bool} {v : α} (h : ¬ p v = true) : [v].filter p = [] := by simp [h]
theorem freed_spec {w : World} {A : Around} {env : Env} {g base : Heap} {outer : List Env} {nm : List Str} {G : SV} {s0 s : Shared} {m : SM} {news : LD}
  {E : VP} {lv ov : Value} {rows ords : List (List Int)} {Q : VP} :
  (hK w.params).In g → ∀ (C : Fm w A env g base outer nm G) (S : Stt s0 g env.locals m news s) (hd : A.depth + 10 < recursionLimit)
  (hl : LLI s.heap lv rows) (ho : LLI s.heap ov ords) (h1 : 1 ≤ rows.length) (hn : rows.length ≤ 7) (hr : ∀ r ∈ rows, r.length ≤ 7) (hol : ords.length = rows.length) (hor : ∀ r ∈ ords, r.length ≤ 7)
  (hin : ∀ i : Nat, i + 1 < rows.length → ((i + 1 : Nat) : Int) ∈ wAt ords ((i + 1 : Nat) : Int))
  (k : ∀ v nw s', Stt s0 g env.locals m (nw ++ news) s' → LsLI (ld nw) v (freedOf rows ords) → Q v s'), WP (model PySem.Challenge.rw_rt0104_01.row.prog w) A (call (.ref 327) [lv, ov]) Q E s := by
 k_fill
 intro X C S hd hl ho h1 hn hr hol hor hin k
 refine q_defC C (sub := []) S ["lines", "orders", "waits", "k"] [lv, ov] [some lv, some ov, none, none] [("range", .type "range"), ("len", .builtin "len")] [("lines", lv), ("orders", ov)] [] (fun n => [("ahead", n)])
  (by k_is) (by k_is) (by lia) (BindsTo.of_eq rfl) (Nat.le_of_ble_eq_true rfl) rfl rfl rfl (by decide +kernel) (fun n => rfl) (by decide) rfl (fun n x hx => .inl (by
   rcases List.mem_cons.mp hx with rfl | hx
   ·exact rfl
   ·rw [List.mem_singleton.mp hx]; exact rfl)) rfl rfl rfl ?_
 intro g' ca env' s_1 cells hx hx' C' Cc Y S_1
 obtain ⟨co, rfl, hco⟩ := Y.one
 replace hco : ∃ cv, co.data = .cell cv := ⟨_, hco⟩
 have hcf := Cc.at (.head _)
 have hcl : env'.cells.lookup ("ahead" : Str) = some ca := by rw [Cc.cells]; exact rfl
 refine byG fun GG hGG => ?_
 obtain ⟨la, lvs, ln, rfl, hlo, hall⟩ := hl
 obtain ⟨oa, ovs, on, rfl, hoo, hoall⟩ := ho
 refine hGG ?_
 clear hGG GG
 have hlg := hx _ _ hlo (by simp)
 have hog := hx _ _ hoo (by simp)
 have hlen := hall.length
 have holen := hoall.length
 refine q_cons <| q_assign <| q_list <| q_ic <| q_list <| q_i0 ⟨_, _, _, _, S_1, Nat.le_of_ble_eq_true rfl, fun a0 s5 S5 => q_i0 ⟨_, _, _, _, S5, Nat.le_of_ble_eq_true rfl, fun wl s6 S6 => q_store C' S6 (by walk_at "up") fun s7 S7 => ?_⟩⟩
 refine q_cons <| q_forR C' (by walk_at "mem") <| q_call <| q_glob C' S7 (by walk_at "mem") <| q_cwT <| q_ic <| q_int S7 fun t_1 s_1 S_1 => q_ic <| q_call <| q_glob C' S_1 (by walk_at "mem") <| q_cwB <| q_ic <| q_name C' S_1 (by walk_at "lk") <| q_i0 <|
  q_len S_1 (S_1.base hlg) (by lia) fun t_2 s_2 S_2 _ => q_i0 <| q_range2 S_2 fun rg t u v s3 S_3 => ?_
 have S4 := (S_3.sub (List.sublist_cons_self _ _)).perm (news' := (ca, co) :: (wl, W.listOf [.ref a0].toArray 0) :: [(a0, W.listOf [].toArray 0)]) (List.perm_middle (l₁ := [_, _])).symm
 have hclos : ∀ sc : Scope, closL [(("ahead" : Str), ca)] sc.names [] = some [(("ahead" : Str), ca)] → closureFor sc env' = pure [(("ahead" : Str), ca)] := fun sc h => closureFor_eq Cc.cells h
 refine ⟨s, rg, 1, ((lvs.length : Nat) : Int), rows.length - 1, _, _, _, fun i m r => Ex5 fun wvs wn nw co u => An4 (r = (ca, co) :: (wl, W.listOf wvs.toArray wn) :: nw) (∃ cv, co.data = .cell cv) (All2 (LsI (ld nw)) wvs ([] :: (List.range i).map fun i => freedRow (wAt rows ((i + 1 : Nat) : Int)) (wAt ords ((i + 1 : Nat) : Int)) ((i + 1 : Nat) : Int))) (m = lcs ["lines", "orders", "waits", "k"] [some (.ref la), some (.ref oa), some (.ref wl), u]), _, _, rfl, S4, S_3.get (.head _), ⟨by lia, by lia, by lia, by with_reducible exact n28 (by assumption) (by decide)⟩, ?_, ?_, ?_⟩
 ·exact ⟨_, _, _, _, none, rfl, hco, .cons ⟨a0, [], 0, rfl, by simp, .nil⟩ .nil, rfl⟩
 ·rintro i t m1 r_1 I it s5 hi ⟨wvs, wn, nw, co, u, rfl, ⟨cv, hco⟩, hw, rfl⟩ S5
  rw [show (1 : Int) + (i : Int) = ((i + 1 : Nat) : Int) by lia] at S5
  rw [(show Up "k" (some (.int ((i + 1 : Nat) : Int) t)) ["lines", "orders", "waits", "k"] _ [some (.ref la), some (.ref oa), some (.ref wl), some (.int ((i + 1 : Nat) : Int) t)] by walk_at "up").eq C'.nd] at S5
  generalize hK : ((i + 1 : Nat) : Int) = K at *
  have hK0 : 0 ≤ K := by lia
  have hKl : K < rows.length := by lia
  refine byG fun GG hGG => ?_
  obtain ⟨_, hov, oa1, ovs1, on1, rfl, ho1, hoall1⟩ := hoall.at (k := K) hK0 (by lia)
  obtain ⟨_, hlv, la1, lvs1, ln1, rfl, hl1, hlall1⟩ := hall.at (k := K) hK0 (by with_reducible assumption)
  refine hGG ?_
  clear hGG GG
  have ho1g := hx _ _ ho1 (by simp)
  have hl1g := hx _ _ hl1 (by simp)
  have hmemK : K ∈ wAt ords K := by have := hin i (by lia); rwa [hK] at this
  have hwr : ∀ (l : List (List Int)), (∀ r ∈ l, r.length ≤ 7) → (wAt l K).length ≤ 7 := fun l h => by
   rw [wAt, List.getD_eq_getElem?_getD]
   cases e : l[K.toNat]? with
   | none => simp
   | some r => exact h r (List.mem_of_getElem? e)
  have ho7 := hwr ords hor
  have hr7 := hwr rows hr
  have hol1 := hoall1.length
  have hll1 := hlall1.length
  have hil := List.idxOf_lt_length_iff.mpr hmemK
  refine q_cons <| q_assign <| q_sub <| q_sub <| q_name C' S5 (by walk_at "lk") <| q_name C' S5 (by walk_at "lk") <| q_item (S5.base hog) hK0 (by lia) hov <|
   q_sliceE <| q_ep0 <| q_ep <| q_index <| q_sub <| q_name C' S5 (by walk_at "lk") <| q_name C' S5 (by walk_at "lk") <| q_item (S5.base hog) hK0 (by lia) hov
    ⟨_, _, _, _, rfl, S5.base ho1g, hoall1, by lia, q_name C' S5 (by walk_at "lk") ⟨_, _, _, _, _, _, _, S5, rfl, hmemK, S5.base ho1g, fun t6 s6 S6 =>
     ⟨s, g', _, _, S6, fun sl s7 S7 _ => q_sliceT S7 (S7.base ho1g) (S7.get List.mem_cons_self) .none (.int _ _) (by simp; lia) fun ah s8 S8 => ?_⟩⟩⟩
  rw [sp_upto _ _ (by lia)] at S8
  replace S8 := S8.sub (List.Sublist.cons_cons _ (List.sublist_cons_self _ _))
  refine q_storeX2 S8 hco hcf hcl fun co' s9 hco' S9 => ?_
  have hwl := hw.length
  simp only [List.length_cons, List.length_map, List.length_range] at hwl
  generalize hahd : (wAt ords K).take ((wAt ords K).idxOf K) = ahd
  have hahA : All2 Vi (ovs1.take ((wAt ords K).idxOf K)) ahd := hahd ▸ hoall1.take _
  generalize ovs1.take ((wAt ords K).idxOf K) = avs at *
  refine q_cons <| q_expr C' <| q_append <| q_name C' S9 (by walk_at "lk") ⟨wl, _, wn, rfl, S9.get (by walk_at "mem"), q_comp (hclos _ rfl) <| q_sub <| q_name C' S9 (by walk_at "lk") <| q_name C' S9 (by walk_at "lk") <|
   q_item (S9.base hlg) hK0 (by lia) hlv ⟨s, g', _, _, fun q ys r => r = (ah, W.listOf avs.toArray 0) :: (I, it) :: (ca, co') :: (wl, W.listOf wvs.toArray wn) :: nw ∧
    ys = (lvs1.take q).filter (hitV ahd), _, src_seq C'.hh ⟨.inl rfl, _, rfl⟩ S9 (.inl hl1g) (by rw [hll1]; exact Nat.le_trans hr7 (by decide)) ⟨rfl, rfl⟩ ?_, ?_⟩⟩
  ·rintro q v hv ys r_1 I2 it2 Cc2 oC mC D s10 ⟨rfl, rfl⟩ hyl hoC hm S10
   obtain ⟨jj, hjj, tj, rfl⟩ := hlall1.get' hv
   have hsn : lvs1.take (q + 1) = lvs1.take q ++ [.int jj tj] := by rw [List.take_add_one, hv]; rfl
   refine q_tests1 <| q_tcmp <| q_nameO S10 hoC hm (by walk_at "mem") <| q_nameC S10 hco' (by walk_at "mem") hcf <| q_in (S10.get (by walk_at "mem")) hahA <| q_tbool ?_
   by_cases hc : ahd.contains jj = true
   ·refine if_p hc ?_
    exact q_nameO S10 hoC hm (by walk_at "mem") ⟨_, S10, rfl, by rw [hsn, List.filter_append, filter_t (p := hitV ahd) (v := .int jj tj) hc]⟩
   ·refine if_n hc ?_
    exact ⟨_, S10, rfl, by rw [hsn, List.filter_append, filter_f (p := hitV ahd) (v := .int jj tj) hc, List.append_nil]⟩
  ·rintro D ys r s10 ⟨rfl, rfl⟩ hyl S10
   refine ⟨_, _, _, _, wvs, wn, _, S10, by lia, S10.get (by walk_at "mem"), .tail (.tail (.tail (.tail .head))), fun s11 S11 => q_nil ⟨_, _, (S11.sub (.cons_cons _ (.cons _ (List.Sublist.refl _)))).perm (List.perm_middle (l₁ := [_, _, _])), wvs ++ [.ref D], wn + 1, _, co', _, rfl, ⟨_, hco'⟩, ?_, rfl⟩⟩
   rw [List.range_succ, List.map_append, List.map_singleton, hK, ← List.cons_append]
   refine (hw.mono fun a b h => h.up fun _ _ x => .tail _ x).snoc ⟨D, _, _, rfl, .head _, ?_⟩
   rw [freedRow, hahd, List.take_of_length_le (Nat.le_refl _)]
   refine all2_filter ?_ hlall1
   rintro _ b ⟨t, rfl⟩; rfl
 ·rintro m1 r_1 s_2 ⟨wvs, wn, nw, co', u, rfl, ⟨cv, hco'⟩, hw, rfl⟩ S_2
  refine q_cons <| q_ret <| q_name C' S_2 (by walk_at "lk") ⟨_, (wl, W.listOf wvs.toArray wn) :: nw, S_2.sub (List.sublist_cons_self _ _), fun S9 => ?_⟩
  exact k _ _ _ S9 ⟨wl, wvs, wn, rfl, .head _, hw.mono fun a b h => h.up fun _ _ x => .tail _ x⟩
noncomputable def codeOf (rows ws : List (List Int)) : Int := ((rows.zip ws).drop 1).foldl (fun c p => c * p.1.length + p.2.length) 0
theorem zip_get {α β : Type} {as : List α} {bs : List β} {i : Nat} {a : α} {b : β} (ha : as[i]? = some a) (hb : bs[i]? = some b) : (as.zip bs)[i]? = some (a, b) := by
 rw [List.getElem?_zip_eq_some]; exact ⟨ha, hb⟩
theorem code_spec {w : World} {A : Around} {env : Env} {g base : Heap} {outer : List Env} {nm : List Str} {G : SV} {s0 s : Shared} {m : SM} {news : LD}
  {E : VP} {lv wv : Value} {rows ws : List (List Int)} {Q : VP} :
  (hK w.params).In g → ∀ (C : Fm w A env g base outer nm G) (S : Stt s0 g env.locals m news s) (hd : A.depth + 10 < recursionLimit)
  (hl : LLI s.heap lv rows) (hw : LLI s.heap wv ws) (h1 : 1 ≤ rows.length) (hn : rows.length ≤ 7) (hlw : ws.length = rows.length) (hr : ∀ r ∈ rows, r.length ≤ 7) (hrw : ∀ r ∈ ws, r.length ≤ 7)
  (k : ∀ t s', Stt s0 g env.locals m news s' → Q (.int (codeOf rows ws) t) s'), WP (model PySem.Challenge.rw_rt0104_01.row.prog w) A (call (.ref 315) [lv, wv]) Q E s := by
 k_fill
 intro X C S hd hl hw h1 hn hlw hr hrw k
 refine q_def C (sub := []) S ["lines", "waits", "code", "k"] [lv, wv] [some lv, some wv, none, none] [("len", .builtin "len"), ("range", .type "range")] (by k_is) (by k_is) (by lia) (BindsTo.of_eq rfl) (Nat.le_of_ble_eq_true rfl) rfl (by decide +kernel) (by decide +kernel) rfl rfl rfl ?_
 intro g' env' s_1 hx hx' C' S_1
 refine q_abs fun PR hR => ?_
 refine byG fun GG hGG => ?_
 obtain ⟨la, lvs, ln, rfl, hlo, hall⟩ := hl
 obtain ⟨wa, wvs, wn, rfl, hwo, hwall⟩ := hw
 refine hGG ?_
 clear hGG GG
 have hlg := hx _ _ hlo (by simp)
 have hwg := hx _ _ hwo (by simp)
 have hlen := hall.length
 have hwlen := hwall.length
 refine q_cons <| q_assign <| q_int S_1 fun t_1 s_2 S_2 => q_store C' S_2 (by walk_at "up") fun s3 S_3 => ?_
 refine q_cons <| q_forR C' (by walk_at "mem") <| q_call <| q_glob C' S_3 (by walk_at "mem") <| q_cwT <| q_ic <| q_int S_3 fun t_4 s4 S4 => q_ic <|
  q_call <| q_glob C' S4 (by walk_at "mem") <| q_cwB <| q_ic <| q_name C' S4 (by walk_at "lk") <| q_i0 <| q_len S4 (S4.base hlg) (by lia) fun t5 s5 S5 _ => q_i0 <| q_range2 S5 fun ra ta tb tc s6 S6 => ?_
 refine ⟨s, ra, 1, _, lvs.length - 1, ta, tb, tc, fun i m r => r = [] ∧ ∃ t u, m = lcs ["lines", "waits", "code", "k"] [some (.ref la), some (.ref wa), some (.int ((((rows.zip ws).drop 1).take i).foldl (fun c p => c * (p.1.length : Int) + p.2.length) 0) t), u], _, _, rfl, S6.sub (List.sublist_cons_self _ _), S6.get List.mem_cons_self, ?_, ⟨rfl, t_1, none, rfl⟩, ?_, ?_⟩
 ·lia
 ·rintro i t m1 r_1 I it s7 hi hJJ S7
  refine q_abs fun PL hL => ?_
  obtain ⟨rfl, tu, u, rfl⟩ := hJJ
  rw [(show Up "k" (some (.int (1 + (i : Int)) t)) ["lines", "waits", "code", "k"] _ [some (.ref la), some (.ref wa), some (.int ((((rows.zip ws).drop 1).take i).foldl (fun c p => c * (p.1.length : Int) + p.2.length) 0) tu), some (.int (1 + (i : Int)) t)] by walk_at "up").eq C'.nd] at S7
  refine byG fun GG hGG => ?_
  obtain ⟨_, hv, b, bvs, bn, rfl, hbo, hball⟩ := hall.at (k := 1 + (i : Int)) (by lia) (by lia)
  obtain ⟨_, hv2, c, cvs, cn, rfl, hco, hcall⟩ := hwall.at (k := 1 + (i : Int)) (by lia) (by lia)
  refine hGG ?_
  clear hGG GG
  have hbg := hx _ _ hbo (by simp)
  have hcg := hx _ _ hco (by simp)
  have e1 := hball.length
  have e2 := hcall.length
  have hi1 : (1 + (i : Int)).toNat = 1 + i := by lia
  have g1 : rows[1 + i]? = some (wAt rows (1 + (i : Int))) := by
   rw [wAt, hi1, List.getD_eq_getElem?_getD, List.getElem?_eq_getElem (by lia)]; rfl
  have g2 : ws[1 + i]? = some (wAt ws (1 + (i : Int))) := by
   rw [wAt, hi1, List.getD_eq_getElem?_getD, List.getElem?_eq_getElem (by lia)]; rfl
  have l1 := hr _ (List.mem_of_getElem? g1)
  have l2 := hrw _ (List.mem_of_getElem? g2)
  refine q_cons <| q_assign <| q_binop <| q_binop <| q_name C' S7 (by walk_at "lk") <| q_call <| q_glob C' S7 (by walk_at "mem") <| q_cwB <| q_ic <|
   q_sub <| q_name C' S7 (by walk_at "lk") <| q_name C' S7 (by walk_at "lk") <| q_item (S7.base hlg) (by lia) (by lia) hv <| q_i0 <| q_len S7 (S7.base hbg) (by lia) fun t8 s8 S8 _ => q_mul S8 (by lia) fun t9 s9 S9 =>
   q_call <| q_glob C' S9 (by walk_at "mem") <| q_cwB <| q_ic <| q_sub <| q_name C' S9 (by walk_at "lk") <| q_name C' S9 (by walk_at "lk") <| q_item (S9.base hwg) (by lia) (by lia) hv2 <| q_i0 <|
   q_len S9 (S9.base hcg) (by lia) fun t8 s8 S8 _ => q_add S8 fun t9 s9 S9 => q_store C' S9 (by walk_at "up") fun s9 S9 => q_nil <| hL _ _ ⟨_, _, S9, rfl, t9, some (.int (1 + (i : Int)) t), ?_⟩
  have g3 : ((rows.zip ws).drop 1)[i]? = some (wAt rows (1 + (i : Int)), wAt ws (1 + (i : Int))) := by
   rw [List.getElem?_drop]; exact zip_get g1 g2
  rw [List.take_add_one, g3]
  simp [e1, e2]
 ·rintro m1 r_1 s6 ⟨rfl, t, u, rfl⟩ S6
  refine q_cons <| q_ret <| q_name C' S6 (by walk_at "lk") <| hR _ _ ⟨_, [], S6.sub (List.nil_sublist _), fun S7 => ?_⟩
  have := k t _ S7
  rw [List.take_of_length_le (by simp [hlen, hlw])]
  exact this
noncomputable def ringT (ws : List (List Int)) (k j i : Int) : Bool := ((wAt ws j).contains i == (wAt ws k).contains j) && ((wAt ws j).contains i != (wAt ws k).contains i)
noncomputable def ring3 (rows ws : List (List Int)) (k j : Int) : Bool := (wAt rows j).dropLast.any fun i => ringT ws k j i
noncomputable def ring2 (rows ws : List (List Int)) (k : Int) : Bool := (wAt rows k).dropLast.any fun j => ring3 rows ws k j
noncomputable def ringB (rows ws : List (List Int)) : Bool := (List.range (rows.length - 1)).any fun (i : Nat) => ring2 rows ws (1 + (i : Int))
theorem ring_spec {w : World} {A : Around} {env : Env} {g base : Heap} {outer : List Env} {nm : List Str} {G : SV} {s0 s : Shared} {m : SM} {news : LD}
  {E : VP} {lv wv : Value} {rows ws : List (List Int)} {Q : VP} :
  (hK w.params).In g → ∀ (C : Fm w A env g base outer nm G) (S : Stt s0 g env.locals m news s) (hd : A.depth + 10 < recursionLimit)
  (hl : LLI s.heap lv rows) (hw : LLI s.heap wv ws) (h1 : 1 ≤ rows.length) (hn : rows.length ≤ 7) (hlw : ws.length = rows.length) (hr : ∀ r ∈ rows, r.length ≤ 7 ∧ ∀ j ∈ r, 0 ≤ j ∧ j < rows.length)
  (k : ∀ s', Stt s0 g env.locals m news s' → Q (.bool (ringB rows ws)) s'), WP (model PySem.Challenge.rw_rt0104_01.row.prog w) A (call (.ref 303) [lv, wv]) Q E s := by
 k_fill
 intro X C S hd hl hw h1 hn hlw hr k
 refine q_def C (sub := []) S ["lines", "waits", "k", "j", "i", "upper"] [lv, wv] [some lv, some wv, none, none, none, none] [("len", .builtin "len"), ("range", .type "range")] (by k_is) (by k_is) (by lia) (BindsTo.of_eq rfl) (Nat.le_of_ble_eq_true rfl) rfl (by decide +kernel) (by decide +kernel) rfl rfl rfl ?_
 intro g' env' s_1 hx hx' C' S_1
 refine q_abs fun PR hR => ?_
 refine byG fun GG hGG => ?_
 obtain ⟨la, lvs, ln, rfl, hlo, hall⟩ := hl
 obtain ⟨wa, wvs, wn, rfl, hwo, hwall⟩ := hw
 refine hGG ?_
 clear hGG GG
 have hlg := hx _ _ hlo (by simp)
 have hwg := hx _ _ hwo (by simp)
 have hlen := hall.length
 have hwlen := hwall.length
 have row_len : ∀ (kk : Int), 0 ≤ kk → kk < rows.length → (wAt rows kk).length ≤ 7 ∧ ∀ j ∈ wAt rows kk, 0 ≤ j ∧ j < rows.length := fun kk h0 hk => by
  have : rows[kk.toNat]? = some (wAt rows kk) := by
   rw [wAt, List.getD_eq_getElem?_getD, List.getElem?_eq_getElem (by lia)]; rfl
  exact hr _ (List.mem_of_getElem? this)
 refine q_cons <| q_forR C' (by walk_at "mem") <| q_call <| q_glob C' S_1 (by walk_at "mem") <| q_cwT <| q_ic <| q_int S_1 fun t_4 s4 S4 => q_ic <|
  q_call <| q_glob C' S4 (by walk_at "mem") <| q_cwB <| q_ic <| q_name C' S4 (by walk_at "lk") <| q_i0 <| q_len S4 (S4.base hlg) (by lia) fun t5 s5 S5 _ => q_i0 <| q_range2 S5 fun ra ta tb tc s6 S6 => ?_
 refine ⟨s, ra, 1, _, lvs.length - 1, ta, tb, tc, fun i m r => (r = [] ∧ ∃ a b c d, m = lcs ["lines", "waits", "k", "j", "i", "upper"] [some (.ref la), some (.ref wa), a, b, c, d]) ∧ ((List.range (rows.length - 1)).take i).any (fun (i : Nat) => ring2 rows ws (1 + (i : Int))) = false, _, _, rfl, S6.sub (List.sublist_cons_self _ _), S6.get List.mem_cons_self, ?_, ⟨⟨rfl, none, none, none, none, rfl⟩, rfl⟩, ?_, ?_⟩
 ·lia
 ·rintro i t m1 r_1 I it s7 hi hJJ S7
  refine q_abs fun PL hL => ?_
  refine byG fun GG hGG => ?_
  obtain ⟨⟨rfl, a, b, c, d, rfl⟩, hno⟩ := hJJ
  refine hGG ?_
  clear hGG GG
  rw [(show Up "k" (some (.int (1 + (i : Int)) t)) ["lines", "waits", "k", "j", "i", "upper"] _ [some (.ref la), some (.ref wa), some (.int (1 + (i : Int)) t), b, c, d] by walk_at "up").eq C'.nd] at S7
  have hik : ((List.range (rows.length - 1)))[i]? = some i := by rw [List.getElem?_range (by lia)]
  generalize hkk : 1 + (i : Int) = kk at S7
  have hk0 : 0 ≤ kk ∧ kk < rows.length := by lia
  refine byG fun GG hGG => ?_
  obtain ⟨_, hv, ka, kvs, kn, rfl, hko, hkall⟩ := hall.at hk0.1 hk0.2
  obtain ⟨_, hv2, wka, wkvs, wkn, rfl, hwko, hwkall⟩ := hwall.at (k := kk) (by lia) (by lia)
  refine hGG ?_
  clear hGG GG
  have hkg := hx _ _ hko (by simp)
  have hwkg := hx _ _ hwko (by simp)
  have hkl := row_len kk hk0.1 hk0.2
  have hkl' := hkall.length
  refine q_cons <| q_forL C' (by walk_at "mem") <| q_sub <| q_sub <| q_name C' S7 (by walk_at "lk") <| q_name C' S7 (by walk_at "lk") <| q_item (S7.base hlg) (by lia) (by lia) hv <|
   q_sliceE <| q_ep0 <| q_ep <| q_unop <| q_int S7 fun t8 s8 S8 => q_neg S8 fun t9 s9 S9 => ⟨s, g', _, _, S9, fun sl s10 S10 _ => q_sliceT S10 (S10.base hkg) (S10.get List.mem_cons_self) .none (.int _ _) (by simp; lia) fun jl s11 S11 => ?_⟩
  rw [sp_butlast] at S11
  replace S11 := S11.sub (List.Sublist.cons_cons _ (List.sublist_cons_self _ _))
  have hkall' := all2_dropLast hkall
  refine ⟨s, jl, W.listOf kvs.dropLast.toArray 0, kvs.dropLast, fun i m r => (r = [(jl, W.listOf kvs.dropLast.toArray 0), (I, it)] ∧ ∃ b c d, m = lcs ["lines", "waits", "k", "j", "i", "upper"] [some (.ref la), some (.ref wa), some (.int kk t), b, c, d]) ∧ ((wAt rows kk).dropLast.take i).any (fun j => ring3 rows ws kk j) = false, _, _, rfl, rfl, ⟨_, rfl⟩, S11, .inr ?_, ⟨⟨rfl, b, c, d, rfl⟩, rfl⟩, ?_, ?_⟩
  ·rintro i m r ⟨⟨rfl, _⟩, _⟩; exact List.mem_cons_self
  ·rintro j v m1 r_1 I2 it2 s12 hj hJJ S12
   refine q_abs fun PM hM => ?_
   refine byG fun GG hGG => ?_
   obtain ⟨⟨rfl, b, c, d, rfl⟩, hno2⟩ := hJJ
   obtain ⟨jj, hjj, tj, rfl⟩ := hkall'.get' hj
   refine hGG ?_
   clear hGG GG
   rw [(show Up "j" (some (.int jj tj)) ["lines", "waits", "k", "j", "i", "upper"] _ [some (.ref la), some (.ref wa), some (.int kk t), some (.int jj tj), c, d] by walk_at "up").eq C'.nd] at S12
   have hj0 := hkl.2 jj (List.dropLast_subset _ (List.mem_of_getElem? hjj))
   refine byG fun GG hGG => ?_
   obtain ⟨_, hv3, ja, jvs, jn, rfl, hjo, hjall⟩ := hall.at hj0.1 hj0.2
   obtain ⟨_, hv4, wja, wjvs, wjn, rfl, hwjo, hwjall⟩ := hwall.at (k := jj) (by lia) (by lia)
   refine hGG ?_
   clear hGG GG
   have hjg := hx _ _ hjo (by simp)
   have hwjg := hx _ _ hwjo (by simp)
   have hjl := row_len jj hj0.1 hj0.2
   have hjl' := hjall.length
   refine q_cons <| q_forL C' (by walk_at "mem") <| q_sub <| q_sub <| q_name C' S12 (by walk_at "lk") <| q_name C' S12 (by walk_at "lk") <| q_item (S12.base hlg) (by lia) (by lia) hv3 <|
    q_sliceE <| q_ep0 <| q_ep <| q_unop <| q_int S12 fun t8 s8 S8 => q_neg S8 fun t9 s9 S9 => ⟨s, g', _, _, S9, fun sl s10 S10 _ => q_sliceT S10 (S10.base hjg) (S10.get List.mem_cons_self) .none (.int _ _) (by simp; lia) fun il s13 S13 => ?_⟩
   rw [sp_butlast] at S13
   replace S13 := S13.sub (List.Sublist.cons_cons _ (List.sublist_cons_self _ _))
   have hjall' := all2_dropLast hjall
   refine ⟨s, il, W.listOf jvs.dropLast.toArray 0, jvs.dropLast, fun i m r => (r = [(il, W.listOf jvs.dropLast.toArray 0), (I2, it2), (jl, W.listOf kvs.dropLast.toArray 0), (I, it)] ∧ ∃ c d, m = lcs ["lines", "waits", "k", "j", "i", "upper"] [some (.ref la), some (.ref wa), some (.int kk t), some (.int jj tj), c, d]) ∧ ((wAt rows jj).dropLast.take i).any (fun i => ringT ws kk jj i) = false, _, _, rfl, rfl, ⟨_, rfl⟩, S13, .inr ?_, ⟨⟨rfl, c, d, rfl⟩, rfl⟩, ?_, ?_⟩
   ·rintro i m r ⟨⟨rfl, _⟩, _⟩; exact List.mem_cons_self
   ·rintro ix v m1 r_1 I_3 it_3 s14 hix hJJ S14
    refine q_abs fun PN hN => ?_
    refine byG fun GG hGG => ?_
    obtain ⟨⟨rfl, c, d, rfl⟩, hno3⟩ := hJJ
    obtain ⟨ii, hii, ti, rfl⟩ := hjall'.get' hix
    refine hGG ?_
    clear hGG GG
    rw [(show Up "i" (some (.int ii ti)) ["lines", "waits", "k", "j", "i", "upper"] _ [some (.ref la), some (.ref wa), some (.int kk t), some (.int jj tj), some (.int ii ti), d] by walk_at "up").eq C'.nd] at S14
    refine q_cons <| q_assign <| q_cmp <| q_name C' S14 (by walk_at "lk") <| q_sub <| q_name C' S14 (by walk_at "lk") <| q_name C' S14 (by walk_at "lk") <| q_item (S14.base hwg) (by lia) (by lia) hv4 <|
     q_in (S14.base hwjg) hwjall <| q_store C' S14 (by walk_at "up") fun s15 S15 => ?_
    refine q_cons <| q_if <| q_tboolop <| q_and <| q_tcmp <| q_name C' S15 (by walk_at "lk") <| q_cmp <| q_name C' S15 (by walk_at "lk") <|
     q_sub <| q_name C' S15 (by walk_at "lk") <| q_name C' S15 (by walk_at "lk") <| q_item (S15.base hwg) (by lia) (by lia) hv2 <| q_in (S15.base hwkg) hwkall <| q_eqb <| q_tbool ?_
    have miss : ringT ws kk jj ii = false → LPost s g' env'.locals I_3 it_3 (fun m r => (r = [(il, W.listOf jvs.dropLast.toArray 0), (I2, it2), (jl, W.listOf kvs.dropLast.toArray 0), (I, it)] ∧ ∃ c d, m = lcs ["lines", "waits", "k", "j", "i", "upper"] [some (.ref la), some (.ref wa), some (.int kk t), some (.int jj tj), c, d]) ∧ ((wAt rows jj).dropLast.take (ix + 1)).any (fun i => ringT ws kk jj i) = false) (fun f s => True) .next s15 := fun h => ⟨_, _, S15, ⟨rfl, _, _, rfl⟩, any_take hno3 hii h⟩
    by_cases c1 : ((wAt ws jj).contains ii == (wAt ws kk).contains jj) = true
    ·refine if_p c1 ?_
     refine q_and <| q_tcmp <| q_name C' S15 (by walk_at "lk") <| q_cmp <| q_name C' S15 (by walk_at "lk") <|
      q_sub <| q_name C' S15 (by walk_at "lk") <| q_name C' S15 (by walk_at "lk") <| q_item (S15.base hwg) (by lia) (by lia) hv2 <| q_in (S15.base hwkg) hwkall <| q_neb <| q_tbool ?_
     by_cases c2 : ((wAt ws jj).contains ii != (wAt ws kk).contains ii) = true
     ·refine if_p c2 ?_
      refine q_and0 ?_
      refine if_p rfl ?_
      refine q_cons <| q_ret <| q_cbool <| hN _ _ <| hM _ _ <| hL _ _ <| hR _ _ ⟨_, [], S15.sub (List.nil_sublist _), fun S7 => ?_⟩
      have h3 : ringT ws kk jj ii = true := by rw [ringT, c1, c2]; rfl
      have : ringB rows ws = true := any_hit hik (by rw [hkk]; exact any_hit hjj (any_hit hii h3))
      have r := k _ S7
      rw [this] at r
      exact r
     ·rw [if_neg c2, if_neg Bool.false_ne_true]
      exact q_nil (q_nil (hN _ _ (miss (by rw [ringT, Bool.eq_false_iff.mpr c2, Bool.and_false]))))
    ·rw [if_neg c1, if_neg Bool.false_ne_true]
     exact q_nil (q_nil (hN _ _ (miss (by rw [ringT, Bool.eq_false_iff.mpr c1, Bool.false_and]))))
   ·rintro m1 r_1 s14 ⟨⟨rfl, c, d, rfl⟩, hno3⟩ S14
    refine q_nil <| hM _ _ ⟨_, _, S14.sub (List.sublist_cons_self _ _), ⟨rfl, _, _, _, rfl⟩, any_take hno2 hjj ?_⟩
    rwa [List.take_of_length_le (by simp [hjl'])] at hno3
  ·rintro m1 r_1 s14 ⟨⟨rfl, b, c, d, rfl⟩, hno2⟩ S14
   refine q_nil <| hL _ _ ⟨_, _, S14.sub (List.sublist_cons_self _ _), ⟨rfl, _, _, _, _, rfl⟩, any_take hno hik ?_⟩
   rw [List.take_of_length_le (by simp [hkl'])] at hno2
   rw [hkk]; exact hno2
 ·rintro m1 r_1 s6 ⟨⟨rfl, a, b, c, d, rfl⟩, hno⟩ S6
  refine q_cons <| q_ret <| q_cbool <| hR _ _ ⟨_, [], S6.sub (List.nil_sublist _), fun S7 => ?_⟩
  have r := k _ S7
  rw [List.take_of_length_le (by simp [hlen])] at hno
  have : ringB rows ws = false := hno
  rw [this] at r
  exact r
noncomputable def marksL : List Int := [0, 1, 0, 0, 1, 1, 0, 1, 1, 0, 0, 1, 0, 1, 1]
noncomputable def bitOf (ns : List Int) (p : Nat) : Bool := (marksL.getD p 0 + (if ns.isEmpty then 0 else ns.getD (ns.length - 1 - p % ns.length) 0)) % 2 == 1
noncomputable def heldOf (b : Nat → Bool) : Nat → List Int → List Int
 | _, [] => []
 | p, j :: js => if b p then j :: heldOf b (p + 1) js else heldOf b (p + 1) js
noncomputable def waitsGo (b : Nat → Bool) : Nat → List (List Int) → List (List Int)
 | _, [] => []
 | p, r :: rs => heldOf b p r.dropLast :: waitsGo b (p + r.dropLast.length) rs
noncomputable def waitsOf (b : Nat → Bool) (rows : List (List Int)) : List (List Int) := [] :: waitsGo b 0 (rows.drop 1)
noncomputable def places (rows : List (List Int)) : Nat := (rows.map fun r => r.dropLast.length).sum
theorem heldOf_snoc (b : Nat → Bool) (j : Int) : ∀ (l : List Int) (p : Nat), heldOf b p (l ++ [j]) = heldOf b p l ++ if b (p + l.length) then [j] else []
 | [], p => by simp [heldOf]
 | x :: l, p => by
  have ih := heldOf_snoc b j l (p + 1)
  have e : p + 1 + l.length = p + (x :: l).length := by simp; lia
  rw [e] at ih
  simp only [List.cons_append, heldOf, ih]
  by_cases h : b p = true <;> simp [h]
theorem heldOf_length (b : Nat → Bool) : ∀ (l : List Int) (p : Nat), (heldOf b p l).length ≤ l.length
 | [], _ => Nat.le_refl _
 | x :: l, p => by
  have := heldOf_length b l (p + 1)
  simp only [heldOf]
  split <;> simp <;> lia
theorem waitsGo_snoc (b : Nat → Bool) (r : List Int) : ∀ (l : List (List Int)) (p : Nat), waitsGo b p (l ++ [r]) = waitsGo b p l ++ [heldOf b (p + places l) r.dropLast]
 | [], p => by simp [waitsGo, places]
 | x :: l, p => by
  have ih := waitsGo_snoc b r l (p + x.dropLast.length)
  simp only [List.cons_append, waitsGo, ih, places, List.map_cons, List.sum_cons]
  rw [show p + x.dropLast.length + (l.map fun r => r.dropLast.length).sum = p + (x.dropLast.length + (l.map fun r => r.dropLast.length).sum) by lia]
theorem places_take (l : List (List Int)) (i : Nat) (r : List Int) (h : l[i]? = some r) : places (l.take (i + 1)) = places (l.take i) + r.dropLast.length := by
 rw [List.take_add_one, h]; simp [places]
theorem places_le (l : List (List Int)) (i : Nat) : places (l.take i) ≤ places l := by
 have : l = l.take i ++ l.drop i := (List.take_append_drop i l).symm
 have e : places l = places (l.take i) + places (l.drop i) := by
  conv => lhs; rw [this]
  simp only [places, List.map_append, List.sum_append]
 lia
theorem waits_spec {w : World} {A : Around} {env : Env} {g base : Heap} {outer : List Env} {nm : List Str} {G : SV} {s0 s : Shared} {m : SM} {news : LD}
  {E : VP} {lv : Value} {sa : Addr} {svs : List Value} {ns : List Int} {rows : List (List Int)} {Q : VP} :
  (hK w.params).In g → ∀ (C : Fm w A env g base outer nm G) (S : Stt s0 g env.locals m news s) (hd : A.depth + 10 < recursionLimit)
  (hs : s.heap.IsList sa svs.toArray) (hsi : IntsAre svs ns) (hs63 : ns.length ≤ 63) (hl : LLI s.heap lv rows) (h1 : 1 ≤ rows.length) (hn : rows.length ≤ 7) (hr : ∀ r ∈ rows, r.length ≤ 7)
  (hp : places (rows.drop 1) ≤ 15)
  (k : ∀ v nw s', Stt s0 g env.locals m (nw ++ news) s' → LsLI (ld nw) v (waitsOf (bitOf ns) rows) → Q v s'), WP (model PySem.Challenge.rw_rt0104_01.row.prog w) A (call (.ref 296) [.ref sa, lv]) Q E s := by
 k_fill
 intro X C S hd hs hsi hs63 hl h1 hn hr hp k
 refine q_def C (sub := []) S ["script", "lines", "marks", "waits", "place", "line", "held", "j", "added"] [.ref sa, lv] [some (.ref sa), some lv, none, none, none, none, none, none, none] [("len", .builtin "len")] (by k_is) (by k_is) (by lia) (BindsTo.of_eq rfl) (Nat.le_of_ble_eq_true rfl) rfl (by decide +kernel) (by decide +kernel) rfl rfl rfl ?_
 intro g' env' s_1 hx hx' C' S_1
 refine q_abs fun PR hR => ?_
 obtain ⟨la, lvs, ln, rfl, hlo, hall⟩ := hl
 have hlg := hx _ _ hlo (by simp)
 have hsg : g'.IsList sa svs.toArray := hs.at fun o e => hx _ _ e (by simp)
 have hlen := hall.length
 have hslen := hsi.length
 refine q_cons <| q_assign <| q_tuple <| q_ints (by walk_at "lits") S_1 fun mvs s_2 hmv S_2 => ⟨_, _, _, _, S_2, by rw [hmv.length]; exact Nat.le_of_ble_eq_true rfl, fun mt s3 S_3 => q_store C' S_3 (by walk_at "up") fun s4 S4 => ?_⟩
 replace hmv : All2 Vi mvs marksL := hmv
 have hmlen : mvs.length = 15 := hmv.length
 refine q_cons <| q_assign <| q_list <| q_ic <| q_list <| q_i0 ⟨_, _, _, _, S4, Nat.le_of_ble_eq_true rfl, fun a0 s5 S5 => q_i0 ⟨_, _, _, _, S5, Nat.le_of_ble_eq_true rfl, fun wl s6 S6 => q_store C' S6 (by walk_at "up") fun s7 S7 => ?_⟩⟩
 refine q_cons <| q_assign <| q_int S7 fun t0 s8 S8 => q_store C' S8 (by walk_at "up") fun s9 S9 => ?_
 refine q_cons <| q_forL C' (by walk_at "mem") <| q_sub <| q_name C' S9 (by walk_at "lk") <| q_sliceE <| q_ep <| q_int S9 fun t_1 s10 S10 => q_ep0 ⟨s, g', _, _, S10, fun sl s11 S11 _ =>
  q_sliceT S11 (S11.base hlg) (S11.get List.mem_cons_self) (.int _ _) .none (by simp; lia) fun jl s12 S12 => ?_⟩
 rw [show (1 : Int) = ((1 : Nat) : Int) from rfl, sp_from lvs 1 (by lia)] at S12
 replace S12 := (S12.sub (List.Sublist.cons_cons _ (List.sublist_cons_self _ _))).perm (news' := (wl, W.listOf [.ref a0].toArray 0) :: (([(a0, W.listOf [].toArray 0)] : LD) ++ [(jl, W.listOf (lvs.drop 1).toArray 0), (mt, tupObj mvs)])) (by
  exact (List.perm_middle (l₁ := [_, _])))
 refine ⟨s, jl, W.listOf (lvs.drop 1).toArray 0, lvs.drop 1, fun i m r => Ex8 fun wvs wn nw t u1 u2 u3 u4 => An3 (r = (wl, W.listOf wvs.toArray wn) :: (nw ++ [(jl, W.listOf (lvs.drop 1).toArray 0), (mt, tupObj mvs)])) (All2 (LsI (ld nw)) wvs ([] :: waitsGo (bitOf ns) 0 ((rows.drop 1).take i))) (m = lcs ["script", "lines", "marks", "waits", "place", "line", "held", "j", "added"] [some (.ref sa), some (.ref la), some (.ref mt), some (.ref wl), some (.int (places ((rows.drop 1).take i) : Nat) t), u1, u2, u3, u4]), _, _, rfl, rfl, ⟨_, rfl⟩, S12, .inr ?_, ?_, ?_, ?_⟩
 ·rintro i m r ⟨wvs, wn, nw, t, u1, u2, u3, u4, rfl, _⟩; simp
 ·exact ⟨_, _, _, t0, none, none, none, none, rfl, .cons ⟨a0, [], 0, rfl, by simp, .nil⟩ .nil, rfl⟩
 ·rintro i v m1 r_1 I it s13 hi hJJ S13
  refine q_abs fun PL hL => ?_
  obtain ⟨wvs, wn, nw, t, u1, u2, u3, u4, rfl, hw, rfl⟩ := hJJ
  obtain ⟨row, hrow, ra, rvs, rn, rfl, hro, hrall⟩ := (hall.drop 1).get' hi
  rw [(show Up "line" (some (.ref ra)) ["script", "lines", "marks", "waits", "place", "line", "held", "j", "added"] _ [some (.ref sa), some (.ref la), some (.ref mt), some (.ref wl), some (.int (places ((rows.drop 1).take i) : Nat) t), some (.ref ra), u2, u3, u4] by walk_at "up").eq C'.nd] at S13
  have hrg := hx _ _ hro (by simp)
  have hrl := hr row (List.mem_of_mem_drop (List.mem_of_getElem? hrow))
  have hrl' := hrall.length
  have hpl := places_take _ _ _ hrow
  have hple := places_le (rows.drop 1) (i + 1)
  have hwl := hw.length
  have hwgo : (waitsGo (bitOf ns) 0 ((rows.drop 1).take i)).length ≤ 7 := by
   have : ∀ (l : List (List Int)) (p : Nat), (waitsGo (bitOf ns) p l).length = l.length := by
    intro l; induction l with
    | nil => intro p; rfl
    | cons x l ih => intro p; simp [waitsGo, ih]
   rw [this]; simp; with_reducible exact n15 (by assumption)
  generalize hP : places ((rows.drop 1).take i) = P at *
  refine q_cons <| q_assign <| q_list <| q_i0 ⟨_, _, _, _, S13, Nat.le_of_ble_eq_true rfl, fun ha s14 S14 => q_store C' S14 (by walk_at "up") fun s15 S15 => ?_⟩
  refine q_cons <| q_forL C' (by walk_at "mem") <| q_sub <| q_name C' S15 (by walk_at "lk") <| q_sliceE <| q_ep0 <| q_ep <| q_unop <| q_int S15 fun t8 s8 S8 => q_neg S8 fun t9 s9 S9 =>
   ⟨s, g', _, _, S9, fun sl s10 S10 _ => q_sliceT S10 (S10.base hrg) (S10.get List.mem_cons_self) .none (.int _ _) (by simp; lia) fun kl s16 S16 => ?_⟩
  rw [sp_butlast] at S16
  replace S16 := S16.sub (List.Sublist.cons_cons _ (List.sublist_cons_self _ _))
  replace S16 := S16.perm (List.Perm.swap _ _ _)
  have hrall' := all2_dropLast hrall
  refine ⟨s, kl, W.listOf rvs.dropLast.toArray 0, rvs.dropLast, fun q m r => Ex5 fun hvs hn t u3 u4 => An3 (r = (ha, W.listOf hvs.toArray hn) :: (kl, W.listOf rvs.dropLast.toArray 0) :: (I, it) :: (wl, W.listOf wvs.toArray wn) :: (nw ++ [(jl, W.listOf (lvs.drop 1).toArray 0), (mt, tupObj mvs)])) (All2 Vi hvs (heldOf (bitOf ns) P (row.dropLast.take q))) (m = lcs ["script", "lines", "marks", "waits", "place", "line", "held", "j", "added"] [some (.ref sa), some (.ref la), some (.ref mt), some (.ref wl), some (.int ((P + q : Nat) : Int) t), some (.ref ra), some (.ref ha), u3, u4]), _, _, rfl, rfl, ⟨_, rfl⟩, S16, .inr ?_, ?_, ?_, ?_⟩
  ·rintro i m r ⟨hvs, hn, t, u3, u4, rfl, _⟩; simp
  ·exact ⟨[], 0, t, u3, u4, rfl, .nil, rfl⟩
  ·rintro q v m1 r_1 I2 it2 s17 hq hJJ S17
   refine q_abs fun PM hM => ?_
   obtain ⟨hvs, hn, tp, u3, u4, rfl, hh, rfl⟩ := hJJ
   obtain ⟨jj, hjj, tj, rfl⟩ := hrall'.get' hq
   rw [(show Up "j" (some (.int jj tj)) ["script", "lines", "marks", "waits", "place", "line", "held", "j", "added"] _ [some (.ref sa), some (.ref la), some (.ref mt), some (.ref wl), some (.int ((P + q : Nat) : Int) tp), some (.ref ra), some (.ref ha), some (.int jj tj), u4] by walk_at "up").eq C'.nd] at S17
   have hqlt : q < row.dropLast.length := (List.getElem?_eq_some_iff.mp hjj).1
   have hP15 : P + q < 15 := by lia
   have hmt : (mt, tupObj mvs) ∈ (I2, it2) :: (ha, W.listOf hvs.toArray hn) :: (kl, W.listOf rvs.dropLast.toArray 0) :: (I, it) :: (wl, W.listOf wvs.toArray wn) :: (nw ++ [(jl, W.listOf (lvs.drop 1).toArray 0), (mt, tupObj mvs)]) := by simp
   have hhl := hh.length
   have hhl2 := heldOf_length (bitOf ns) (row.dropLast.take q) P
   simp only [List.length_take, List.length_dropLast] at hhl2 hqlt
   generalize hXX : (if ns.isEmpty then 0 else ns.getD (ns.length - 1 - (P + q) % ns.length) 0) = X
   refine q_cons <| q_assign <| q_cut (fun v s' => ∃ tx, And (v = .int X tx) (Stt s g' env'.locals (lcs ["script", "lines", "marks", "waits", "place", "line", "held", "j", "added"] [some (.ref sa), some (.ref la), some (.ref mt), some (.ref wl), some (.int ((P + q : Nat) : Int) tp), some (.ref ra), some (.ref ha), some (.int jj tj), u4]) ((I2, it2) :: (ha, W.listOf hvs.toArray hn) :: (kl, W.listOf rvs.dropLast.toArray 0) :: (I, it) :: (wl, W.listOf wvs.toArray wn) :: (nw ++ [(jl, W.listOf (lvs.drop 1).toArray 0), (mt, tupObj mvs)])) s')) ?_ ?_
   ·refine q_abs fun PC hC => ?_
    refine q_ifexp <| q_tval <| q_name C' S17 (by walk_at "lk") <| q_truthyL S17 (hsg.at fun o e => S17.base e) (by lia) fun s18 S18 _ => ?_
    by_cases he : ns.length = 0
    ·have e1 : svs.isEmpty = true := by rw [List.isEmpty_iff_length_eq_zero]; lia
     have e2 : ns.isEmpty = true := by rw [List.isEmpty_iff_length_eq_zero]; with_reducible assumption
     rw [e2, if_pos rfl] at hXX
     rw [e1]
     refine q_int S18 fun t19 s19 S19 => hC _ _ ⟨t19, by rw [hXX], S19⟩
    ·have e1 : svs.isEmpty = false := by rw [Bool.eq_false_iff]; intro h; rw [List.isEmpty_iff_length_eq_zero] at h; lia
     have e2 : ns.isEmpty = false := by rw [Bool.eq_false_iff]; intro h; rw [List.isEmpty_iff_length_eq_zero] at h; lia
     rw [e2, if_neg Bool.false_ne_true] at hXX
     rw [e1]
     have hm1 : (P + q) % ns.length < ns.length := Nat.mod_lt _ (by with_reducible exact Nat.pos_of_ne_zero (by assumption))
     obtain ⟨tv, hsv⟩ := hsi.get (ns.length - 1 - (P + q) % ns.length) X (by
      rw [← hXX, List.getD_eq_getElem?_getD, List.getElem?_eq_getElem (by with_reducible exact n17 (by assumption))]; rfl)
     refine q_sub <| q_name C' S18 (by walk_at "lk") <| q_binop <| q_unop <| q_int S18 fun t_1 s_1 S_1 => q_neg S_1 fun t_1 s_1 S_1 => q_binop <| q_name C' S_1 (by walk_at "lk") <| q_call <| q_glob C' S_1 (by walk_at "mem") <| q_cwB <| q_ic <| q_name C' S_1 (by walk_at "lk") <| q_i0 <|
      q_lenL S_1 (hsg.at fun o e => S_1.base e) (by lia) fun t_2 s_2 S_2 _ => q_mod C' S_2 (by lia) fun t_3 s3 S_3 => q_msub S_3 fun t_4 s4 S4 => ?_
     have em : ((P + q : Nat) : Int) % ((svs.length : Nat) : Int) = (((P + q) % ns.length : Nat) : Int) := by rw [hslen]; lia
     rw [em]
     refine q_itemNegL (hsg.at fun o e => S4.base e) (by lia) (by lia) (by lia) (v := .int X tv) ?_ (hC _ _ ⟨tv, rfl, S4⟩)
     rw [← hsv]; congr 1; with_reducible exact n2 (by assumption) (by assumption)
   rintro _ s18 ⟨tx, rfl, S18⟩
   refine q_store C' S18 (by walk_at "up") fun s19 S19 => ?_
   obtain ⟨_, hmx, tmx, rfl⟩ := hmv.get (i := P + q) (b := marksL.getD (P + q) 0) (by
    show marksL[P + q]? = _
    rw [List.getD_eq_getElem?_getD, List.getElem?_eq_getElem (by show _ < 15; with_reducible assumption)]; rfl)
   have hsn : row.dropLast.take (q + 1) = row.dropLast.take q ++ [jj] := by rw [List.take_add_one, hjj]; rfl
   have hlq : (row.dropLast.take q).length = q := by simp; with_reducible exact n22 (by assumption)
   have hb : ((marksL.getD (P + q) 0 + X) % 2 == 1) = bitOf ns (P + q) := by rw [bitOf, hXX]
   have hho := heldOf_snoc (bitOf ns) jj (row.dropLast.take q) P
   rw [hlq, ← hsn] at hho
   refine q_cons <| q_cut (fun f s' => f = .next ∧ ∃ hvs' hn', All2 Vi hvs' (heldOf (bitOf ns) P (row.dropLast.take (q + 1))) ∧ Stt s g' env'.locals (lcs ["script", "lines", "marks", "waits", "place", "line", "held", "j", "added"] [some (.ref sa), some (.ref la), some (.ref mt), some (.ref wl), some (.int ((P + q : Nat) : Int) tp), some (.ref ra), some (.ref ha), some (.int jj tj), some (.int X tx)]) ((I2, it2) :: (ha, W.listOf hvs'.toArray hn') :: (kl, W.listOf rvs.dropLast.toArray 0) :: (I, it) :: (wl, W.listOf wvs.toArray wn) :: (nw ++ [(jl, W.listOf (lvs.drop 1).toArray 0), (mt, tupObj mvs)])) s') ?_ ?_
   ·refine q_abs fun PC hC => ?_
    refine q_if <| q_tcmp <| q_binop <| q_binop <| q_sub <| q_name C' S19 (by walk_at "lk") <| q_name C' S19 (by walk_at "lk") <| q_tupItem (S19.get hmt) (by exact Int.natCast_nonneg _) (by lia) (by lia) (by rw [Int.toNat_natCast]; exact hmx) <|
     q_name C' S19 (by walk_at "lk") <| q_add S19 fun t_1 s_1 S_1 => q_int S_1 fun t_2 s_2 S_2 => q_mod C' S_2 (by lia) fun t_3 s3 S_3 => q_int S_3 fun t_4 s4 S4 => q_eqi <| q_tbool ?_
    rw [hb]
    by_cases hbb : bitOf ns (P + q) = true
    ·refine if_p hbb ?_
     rw [if_pos hbb] at hho
     refine q_cons <| q_expr C' <| q_append <| q_name C' S4 (by walk_at "lk") ⟨ha, _, hn, rfl, S4.get (by walk_at "mem"), q_name C' S4 (by walk_at "lk") ⟨_, _, _, _, hvs, hn, _, S4, by lia, S4.get (by walk_at "mem"), by walk_at "ch", fun s5 S5 => q_nil <| hC _ _ ⟨rfl, _, _, ?_, S5⟩⟩⟩
     rw [hho]; exact hh.snoc (vi _ _)
    ·refine if_n hbb ?_
     rw [if_neg hbb, List.append_nil] at hho
     exact q_nil <| hC _ _ ⟨rfl, _, _, hho ▸ hh, S4⟩
   rintro _ s20 ⟨rfl, hvs', hn', hh', S20⟩
   refine q_cons <| q_aug <| q_load C' S20 (by walk_at "lk") <| q_int S20 fun t_1 s_1 S_1 => q_iadd S_1 fun t_2 s_2 S_2 => q_store C' S_2 (by walk_at "up") fun s3 S_3 => q_nil <| hM _ _ ⟨_, _, S_3, hvs', hn', t_2, some (.int jj tj), some (.int X tx), rfl, hh', ?_⟩
   rw [show ((P + (q + 1) : Nat) : Int) = ((P + q : Nat) : Int) + 1 by lia]
  ·rintro m1 r_1 s14 ⟨hvs, hn, tp, u3, u4, rfl, hh, rfl⟩ S14
   have hfull : row.dropLast.take rvs.dropLast.length = row.dropLast := List.take_of_length_le (by simp [hrl'])
   rw [hfull] at hh
   refine q_cons <| q_expr C' <| q_append <| q_name C' S14 (by walk_at "lk") ⟨wl, _, wn, rfl, S14.get (by walk_at "mem"), q_name C' S14 (by walk_at "lk") ⟨_, _, _, _, wvs, wn, _, S14, by simp only [List.length_cons] at hwl; lia, S14.get (by walk_at "mem"), by walk_at "ch", fun s5 S5 => q_nil ?_⟩⟩
   have S6 := (S5.sub (news' := (ha, W.listOf hvs.toArray hn) :: (I, it) :: (wl, W.listOf (wvs ++ [Value.ref ha]).toArray (wn + 1)) :: (nw ++ [(jl, W.listOf (lvs.drop 1).toArray 0), (mt, tupObj mvs)])) (List.Sublist.cons_cons _ (List.sublist_cons_self _ _))).perm (news' := (I, it) :: (wl, W.listOf (wvs ++ [Value.ref ha]).toArray (wn + 1)) :: (((ha, W.listOf hvs.toArray hn) :: nw) ++ [(jl, W.listOf (lvs.drop 1).toArray 0), (mt, tupObj mvs)])) (List.perm_middle (l₁ := [_, _]))
   refine hL _ _ ⟨_, _, S6, wvs ++ [Value.ref ha], wn + 1, (ha, W.listOf hvs.toArray hn) :: nw, tp, some (.ref ra), some (.ref ha), u3, u4, rfl, ?_, ?_⟩
   ·rw [List.take_add_one, hrow]
    show All2 _ _ ([] :: waitsGo _ 0 ((rows.drop 1).take i ++ [row]))
    rw [waitsGo_snoc, ← List.cons_append, Nat.zero_add, hP]
    exact (hw.mono fun a b x => LsI.up (fun _ _ h => List.mem_cons_of_mem _ h) x).snoc ⟨ha, hvs, hn, rfl, List.mem_cons_self, hh⟩
   ·rw [hpl, List.length_dropLast, List.length_dropLast, hrl']
 ·rintro m1 r_1 s14 ⟨wvs, wn, nw, t, u1, u2, u3, u4, rfl, hw, rfl⟩ S14
  rw [List.take_of_length_le (by simp [hlen])] at hw
  refine q_cons <| q_ret <| q_name C' S14 (by walk_at "lk") <| hR _ _ ⟨_, (wl, W.listOf wvs.toArray wn) :: nw, S14.sub (List.Sublist.cons_cons _ (List.sublist_append_left _ _)), fun S7 => ?_⟩
  exact k _ _ _ S7 ⟨wl, wvs, wn, rfl, List.mem_cons_self, hw.mono fun a b x => LsI.up (fun _ _ h => List.mem_cons_of_mem _ h) x⟩
noncomputable def prodLen (rows : List (List Int)) : Int := (rows.drop 1).foldl (fun a r => a * r.length) 1
theorem size_spec {w : World} {A : Around} {env : Env} {g base : Heap} {outer : List Env} {nm : List Str} {G : SV} {s0 s : Shared} {m : SM} {news : LD}
  {E : VP} {lv : Value} {rows : List (List Int)} {Q : VP} :
  (hK w.params).In g → ∀ (C : Fm w A env g base outer nm G) (S : Stt s0 g env.locals m news s) (hd : A.depth + 10 < recursionLimit)
  (hl : LLI s.heap lv rows) (h1 : 1 ≤ rows.length) (hn : rows.length ≤ 7) (hr : ∀ r ∈ rows, r.length ≤ 7)
  (k : ∀ t s', Stt s0 g env.locals m news s' → Q (.int (prodLen rows) t) s'), WP (model PySem.Challenge.rw_rt0104_01.row.prog w) A (call (.ref 339) [lv]) Q E s := by
 k_fill
 intro X C S hd hl h1 hn hr k
 refine q_def C (sub := []) S ["lines", "size", "line"] [lv] [some lv, none, none] [("len", .builtin "len")] (by k_is) (by k_is) (by lia) (BindsTo.of_eq rfl) (Nat.le_of_ble_eq_true rfl) rfl (by decide +kernel) (by decide +kernel) rfl rfl rfl ?_
 intro g' env' s_1 hx hx' C' S_1
 refine byG fun GG hGG => ?_
 obtain ⟨la, lvs, ln, rfl, hlo, hall⟩ := hl
 refine hGG ?_
 clear hGG GG
 have hlg := hx _ _ hlo (by simp)
 have hlen := hall.length
 refine q_cons (q_assign (q_int S_1 fun t_1 s_2 S_2 => q_store C' S_2 (by walk_at "up") fun s3 S_3 => ?_))
 refine q_cons <| q_forL C' (by walk_at "mem") <| q_sub <| q_name C' S_3 (by walk_at "lk") <| q_sliceE <| q_ep <| q_int S_3 fun t_4 s4 S4 => q_ep0 ⟨s, g', _, _, S4, fun sl s5 S5 _ =>
  q_sliceT S5 (S5.base hlg) (S5.get List.mem_cons_self) (.int _ _) .none (by simp; lia) fun a s5 S5 => ?_⟩
 rw [show (1 : Int) = ((1 : Nat) : Int) from rfl, sp_from lvs 1 (by lia)] at S5
 replace S5 := S5.sub (List.Sublist.cons_cons _ (List.sublist_cons_self _ _))
 refine ⟨s, a, W.listOf (lvs.drop 1).toArray 0, lvs.drop 1, fun i m r => r = [(a, W.listOf (lvs.drop 1).toArray 0)] ∧ ∃ t u, m = lcs ["lines", "size", "line"] [some (.ref la), some (.int (((rows.drop 1).take i).foldl (fun a r => a * (r.length : Int)) 1) t), u], _, _, rfl, rfl, ⟨_, rfl⟩, S5, .inr ?_, ⟨rfl, t_1, none, rfl⟩, ?_, ?_⟩
 ·rintro i m r ⟨rfl, _⟩; exact List.mem_cons_self
 ·rintro i v m1 r_1 I it s6 hi ⟨rfl, t, u, rfl⟩ S6
  have hU : Up "line" (some v) ["lines", "size", "line"] [some (.ref la), some (.int (((rows.drop 1).take i).foldl (fun a r => a * (r.length : Int)) 1) t), u] [some (.ref la), some (.int (((rows.drop 1).take i).foldl (fun a r => a * (r.length : Int)) 1) t), some v] := by walk_at "up"
  rw [hU.eq C'.nd] at S6
  refine byG fun GG hGG => ?_
  obtain ⟨row, hrow, hv⟩ := (hall.drop 1).get' hi
  obtain ⟨b, bvs, bn, rfl, hbo, hball⟩ := hv
  refine hGG ?_
  clear hGG GG
  have hbg := hx _ _ hbo (by simp)
  have hblen := hball.length
  have hrl : row.length ≤ 7 := hr row (List.mem_of_mem_drop (List.mem_of_getElem? hrow))
  refine q_cons <| q_assign <| q_binop <| q_name C' S6 (by walk_at "lk") <| q_call <| q_glob C' S6 (by walk_at "mem") <| q_cwB <| q_ic <| q_name C' S6 (by walk_at "lk") <| q_i0 <|
   q_len S6 (S6.base hbg) (by lia) fun t7 s7 S7 _ => q_mul S7 (by lia) fun t8 s8 S8 => q_store C' S8 (by walk_at "up") fun s9 S9 => ?_
  refine q_nil ⟨_, _, S9, rfl, t8, some (.ref b), ?_⟩
  rw [List.take_add_one, hrow]
  simp [hblen]
 ·rintro m1 r_1 s6 ⟨rfl, t, u, rfl⟩ S6
  refine q_cons (q_ret (q_name C' S6 (by walk_at "lk") ⟨_, [], S6.sub (List.nil_sublist _), fun S7 => ?_⟩))
  have := k t _ S7
  rw [show lvs.drop 1 = lvs.drop 1 from rfl, List.take_of_length_le (by simp [hlen])]
  exact this
section
open PyProof.Rows.TI
noncomputable abbrev GGof (plain : List Str) (rows ws : List (List Int)) := graphN (plAt plain) rows ws (rows.length - 1)
noncomputable def KeptB (plain : List Str) (rows ws ords : List (List Int)) (left : Nat) (b : Bool) : Prop :=
 (b = false ∧ ∃ y ∈ namesG (GGof plain rows ws), Path (scG (GGof plain rows ws)) y y) ∨
  ∃ td : List Str, td.Nodup ∧ (∀ y, y ∈ td ↔ y ∈ namesG (GGof plain rows ws)) ∧
   (∀ y, y ∈ td → y ∈ plain.drop 1) ∧ (∀ pre v post, td = pre ++ v :: post → ∀ u ∈ namesG (GGof plain rows ws), v ∈ scG (GGof plain rows ws) u → u ∈ pre) ∧
   b = (decide (left = 0) && decide (freedOf rows ords = ws) && decide ((rows.map fun line => (td.map fun y => ((plain.idxOf y : Nat) : Int)).filter fun x => line.contains x) = ords))
theorem kept_spec {w : World} {A : Around} {env : Env} {g base : Heap} {outer : List Env} {nm : List Str} {G : SV} {s0 s : Shared} {m : SM} {ta tb rest frs : LD}
  {E : VP} {av lv pv wv : Value} {N code : Nat} {up : Nat → Nat} {plain : List Str} {rows ws ords : List (List Int)} {Q : VP} :
  (hK w.params).In g → ∀ (C : Fm w A env g base outer nm G) (S : Stt s0 g env.locals m (((ta ++ tb) ++ rest) ++ frs) s) (Fs : Frs outer frs) (hd : A.depth + 100 < recursionLimit) (hu : A.units + 100 < cLine)
  (hTa : Tb 157 "_int2digits.<locals>.inner" 153 4 ta) (hTb : Tb 164 "_digits2int.<locals>.inner" 168 4 tb)
  (ha : LsI (fun a o => (a, o) ∈ rest ∨ g.get? a = some o) av ((List.range N).map fun i => ((up (i + 1) : Nat) : Int)))
  (hl : LsLI (fun a o => (a, o) ∈ rest ∨ g.get? a = some o) lv rows) (hp : LsS (fun a o => (a, o) ∈ rest ∨ g.get? a = some o) pv plain) (hw : LsLI (fun a o => (a, o) ∈ rest ∨ g.get? a = some o) wv ws)
  (hN : N ≤ 6) (hrl : rows.length = N + 1) (hup : ∀ k, 1 ≤ k → k ≤ N → up k < k ∧ (wAt rows (k : Nat)).length = (wAt rows (up k : Nat)).length + 1) (h0 : (wAt rows (0 : Nat)).length = 0)
  (hlw : ws.length = rows.length) (hlp : plain.length = rows.length)
  (hr : ∀ r ∈ rows, r.length ≤ 7 ∧ ∀ j ∈ r, 1 ≤ j ∧ j < rows.length) (hrw : ∀ r ∈ ws, r.length ≤ 6 ∧ ∀ j ∈ r, 1 ≤ j ∧ j < rows.length)
  (hcode : codeOf rows ws = (code : Nat)) (hc : code < 2 ^ 20) (hords : ords = ordN up (dgt (fun k => (wAt rows (k : Nat)).length) N code) N)
  (hol : ∀ r ∈ ords, r.length ≤ 7) (hin : ∀ i : Nat, i + 1 < rows.length → ((i + 1 : Nat) : Int) ∈ wAt ords ((i + 1 : Nat) : Int))
  (k : ∀ b ta' tb' nw s' frs', Tb 157 "_int2digits.<locals>.inner" 153 4 ta' → Tb 164 "_digits2int.<locals>.inner" 168 4 tb' → SameUp frs frs' → Frs outer frs' → Stt s0 g env.locals m ((((ta' ++ tb') ++ nw) ++ rest) ++ frs') s' →
   KeptB plain rows ws ords (cdn (fun k => (wAt rows (k : Nat)).length) N code N) b → Q (.bool b) s'),
  WP (model PySem.Challenge.rw_rt0104_01.row.prog w) A (call (.ref 332) [av, lv, pv, wv]) Q E s := by
 k_fill
 intro X C S Fs hd hu hTa hTb ha hl hp hw hN hrl hup h0 hlw hlp hr hrw hcode hc hords hol hin k
 refine q_defX C (sub := ta ++ tb) (rest := rest) S Fs ["above", "lines", "plain", "waits", "orders", "left"] [av, lv, pv, wv] [some av, some lv, some pv, some wv, none, none] [("_law_run", .ref 308), ("_law_orders", .ref 322), ("_law_code", .ref 315), ("_law_freed", .ref 327)] [("above", av), ("lines", lv), ("plain", pv), ("waits", wv)] [] (fun n => [("told", n)])
  (by k_is) (by k_is) (by lia) (BindsTo.of_eq rfl) (Nat.le_of_ble_eq_true rfl) rfl rfl rfl (by decide +kernel) (fun n => rfl) (by decide) rfl (fun n x hx => by
   simp only [List.mem_cons, List.not_mem_nil, or_false] at hx
   rcases hx with rfl | rfl | rfl | rfl <;> exact .inl rfl) rfl rfl rfl ?_
 intro g' ca env' s_1 cells oL hrs hg hg' C' Cc Y hoL Fs' S_1
 obtain ⟨co, rfl, hco⟩ := Y.one
 replace hco : co.data = .cell none := hco
 have hcf := Cc.at (x := "told") (c := ca) (.head _)
 have hcl : env'.cells.lookup ("told" : Str) = some ca := by rw [Cc.cells]; exact rfl
 have hD : (A.deeper env').depth = A.depth + 1 := rfl
 have hU : (A.deeper env').units = A.units + 3 := rfl
 obtain ⟨frs0, hfr0⟩ : ∃ frs0, frs0 = (env.locals, oL) :: frs := ⟨_, rfl⟩
 rw [← hfr0] at S_1 Fs'
 have hup' : ∀ a o, ((a, o) ∈ rest ∨ g.get? a = some o) → g'.get? a = some o := fun a o h => h.elim (fun h => hrs _ h) fun h => hg _ _ h
 replace ha : LI g' av _ := ha.up hup'
 replace hp : LS g' pv plain := hp.up hup'
 replace hl : LLI g' lv rows := hl.up hup'
 replace hw : LLI g' wv ws := hw.up hup'
 have hclos : ∀ (sc : Scope) (cl : List (Str × Addr)), closL [(("told" : Str), ca)] sc.names [] = some cl → closureFor sc env' = pure cl := fun sc cl h => closureFor_eq Cc.cells h
 replace S_1 : Stt s g' env'.locals (lcs ["above", "lines", "plain", "waits", "orders", "left"] [some av, some lv, some pv, some wv, none, none]) (([] ++ ((ca, co) :: (ta ++ tb))) ++ frs0) s_1 := S_1
 refine q_cons <| q_assign <| q_call <| q_glob C' S_1 (by walk_at "mem") <| q_cwK C' S_1 (by k_is) <| q_ic <| q_name C' S_1 (by walk_at "lk") <| q_ic <| q_name C' S_1 (by walk_at "lk") <| q_ic <| q_name C' S_1 (by walk_at "lk") <| q_i0 ⟨⟨_, _, _, S_1⟩,
  run_spec C'.X C' S_1 Fs' (by with_reducible exact n35 (by assumption) (by assumption) (by decide)) (hp.up fun _ _ h => .inr h) (hl.up fun _ _ h => .inr h) (hw.up fun _ _ h => .inr h) (by lia) (by lia) hlw hlp hr hrw fun v nw s_2 frs1 SU1 Fs1 S_2 hres => ?_⟩
 replace S_2 : Stt s g' env'.locals _ ((ca, co) :: (((ta ++ tb) ++ nw) ++ frs1)) s_2 := S_2.perm (news' := (((ca, co) :: (ta ++ tb)) ++ nw) ++ frs1) ((List.perm_append_comm (l₁ := (ca, co) :: (ta ++ tb)) (l₂ := nw)).append_right frs1)
 refine q_storeX0 S_2 hco hcf hcl fun co' s3 hco' S_3 => ?_
 rw [List.append_assoc] at S_3
 rcases hres with ⟨rfl, hcyc⟩ | ⟨td, htd, hnd, hdr, hmem, hord⟩
 ·refine q_cons <| q_if <| q_tcmp <| q_nameX S_3 hco' (.head _) hcf hcl <| q_cnone <| q_isnone <| q_tbool ?_
  refine if_p (by simp) ?_
  refine q_cons <| q_ret <| q_cbool ⟨_, (ta ++ tb) ++ ((ca, co') :: nw), frs1, by have h := S_3.perm (List.perm_middle (l₁ := ta ++ tb)); simpa only [List.append_assoc, List.cons_append] using h, hfr0 ▸ SU1, fun frs' SU Fs S4 => k _ _ _ _ _ _ hTa hTb SU Fs S4 (.inl ⟨rfl, hcyc⟩)⟩
 refine byG fun GG hGG => ?_
 obtain ⟨tl, tvs, tn, rfl, htl, htall⟩ := htd
 refine hGG ?_
 clear hGG GG
 refine q_cons <| q_if <| q_tcmp <| q_nameX S_3 hco' (.head _) hcf hcl <| q_cnone <| q_isnone <| q_tbool ?_
 refine if_n (by simp) ?_
 refine q_nil ?_
 obtain ⟨R_0, hR_0⟩ : ∃ R_0, R_0 = (ca, co') :: (nw ++ frs1) := ⟨_, rfl⟩
 have S4 := S_3.perm (List.perm_middle (l₁ := ta ++ tb))
 rw [← hR_0] at S4
 have mtl0 : (tl, W.listOf tvs.toArray tn) ∈ R_0 := by rw [hR_0]; exact .tail _ (List.mem_append_left _ htl)
 have mca0 : (ca, co') ∈ R_0 := by rw [hR_0]; exact .head _
 refine q_cons <| q_unpack2 C'.hh <| q_call <| q_glob C' S4 (by walk_at "mem") <| q_cwK C' S4 (by k_is) <| q_ic <| q_name C' S4 (by walk_at "lk") <| q_ic <| q_name C' S4 (by walk_at "lk") <| q_ic <|
  q_call <| q_glob C' S4 (by walk_at "mem") <| q_cwK C' S4 (by k_is) <| q_ic <| q_name C' S4 (by walk_at "lk") <| q_ic <| q_name C' S4 (by walk_at "lk") <| q_i0 ⟨⟨_, _, _, S4⟩,
  code_spec C'.X C' S4 (by with_reducible exact n35 (by assumption) (by assumption) (by decide)) (hl.up fun _ _ h => S4.base h) (hw.up fun _ _ h => S4.base h) (by lia) (by lia) hlw (fun r h => (hr r h).1) (fun r h => Nat.le_succ_of_le (hrw r h).1) fun t5 s5 S5 => ?_⟩
 rw [hcode]
 refine q_i0 ⟨⟨_, _, _, S5⟩, orders_spec (N := N) (up := up) (rows := rows) C'.X C' S5 (by with_reducible exact n35 (by assumption) (by assumption) (by decide)) hTa hTb (ha.up fun _ _ h => S5.base h) (hl.up fun _ _ h => S5.base h) hN hrl hup h0
  (fun k hk => (hr _ (wAt_mem' (by exact Int.natCast_nonneg _) (by lia))).1) hc fun ta' tb' rt ov t6 nw2 s6 hTa' hTb' S6 hrt hov => ?_⟩
 rw [← hords] at hov
 generalize hLF : cdn (fun k => (wAt rows (k : Nat)).length) N code N = left at *
 refine ⟨_, _, _, _, _, _, _, _, rfl, S6, S6.get (List.mem_append_left _ (List.mem_append_right _ hrt)), fun s7 S7 _ => q_store C' S7 (by walk_at "up") fun s8 S8 => q_store C' S8 (by walk_at "up") fun s9 S9 => ?_⟩
 obtain ⟨R_1, hR_1⟩ : ∃ R_1, R_1 = (ta' ++ tb') ++ nw2 ++ R_0 := ⟨_, rfl⟩
 have hov9 : LLI s9.heap ov ords := hov.up fun a o h => S9.get (List.mem_append_left _ (List.mem_append_right _ h))
 have hord' : ∀ {nw3 : LD} {s'}, Stt s g' env'.locals (lcs ["above", "lines", "plain", "waits", "orders", "left"] [some av, some lv, some pv, some wv, some ov, some (.int (left : Nat) t6)]) (nw3 ++ ((ta' ++ tb') ++ nw2 ++ R_0)) s' → LLI s'.heap ov ords := fun S => hov.up fun a o h => S.get (List.mem_append_right _ (List.mem_append_left _ (List.mem_append_right _ h)))
 have fin : ∀ (b : Bool) (nw3 : LD) {s'}, Stt s g' env'.locals (lcs ["above", "lines", "plain", "waits", "orders", "left"] [some av, some lv, some pv, some wv, some ov, some (.int (left : Nat) t6)]) (nw3 ++ ((ta' ++ tb') ++ nw2 ++ R_0)) s' → KeptB plain rows ws ords left b →
   FPost outer s g' env'.locals oL frs s0 g env.locals m rest Q (.ret (.bool b)) s' := by
  intro b nw3 s' S' hK
  have h := S'.perm (news' := (ta' ++ tb') ++ (nw3 ++ (nw2 ++ R_0))) (by rw [List.append_assoc (ta' ++ tb')]; exact List.perm_append_comm_assoc _ _ _)
  rw [hR_0] at h
  have h2 : Stt s g' env'.locals (lcs ["above", "lines", "plain", "waits", "orders", "left"] [some av, some lv, some pv, some wv, some ov, some (.int (left : Nat) t6)]) (((ta' ++ tb') ++ (nw3 ++ (nw2 ++ (ca, co') :: nw))) ++ frs1) s' := by simpa only [List.append_assoc, List.cons_append] using h
  exact ⟨_, _, frs1, h2, hfr0 ▸ SU1, fun frs' SU Fs S4 => k _ _ _ _ _ _ hTa' hTb' SU Fs S4 hK⟩
 have S9' : Stt s g' env'.locals (lcs ["above", "lines", "plain", "waits", "orders", "left"] [some av, some lv, some pv, some wv, some ov, some (.int (left : Nat) t6)]) ([] ++ ((ta' ++ tb') ++ nw2 ++ R_0)) s9 := S9
 refine q_cons <| q_cut (fun f s' => (f = .next ∧ left = 0 ∧ freedOf rows ords = ws ∧ ∃ nw3, Stt s g' env'.locals (lcs ["above", "lines", "plain", "waits", "orders", "left"] [some av, some lv, some pv, some wv, some ov, some (.int (left : Nat) t6)]) (nw3 ++ ((ta' ++ tb') ++ nw2 ++ R_0)) s') ∨
   (f = .ret (.bool false) ∧ (left ≠ 0 ∨ freedOf rows ords ≠ ws) ∧ ∃ nw3, Stt s g' env'.locals (lcs ["above", "lines", "plain", "waits", "orders", "left"] [some av, some lv, some pv, some wv, some ov, some (.int (left : Nat) t6)]) (nw3 ++ ((ta' ++ tb') ++ nw2 ++ R_0)) s')) ?_ ?_
 ·refine q_if <| q_tboolop <| q_or <| q_tcmp <| q_name C' S9 (by walk_at "lk") <| q_int S9 fun t10 s10 S10 => q_nei <| q_tbool ?_
  by_cases hz : left = 0
  ·refine if_n (by rw [hz]; decide) ?_
   refine q_or <| q_tcmp <| q_call <| q_glob C' S10 (by walk_at "mem") <| q_cwK C' S10 (by k_is) <| q_ic <| q_name C' S10 (by walk_at "lk") <| q_ic <| q_name C' S10 (by walk_at "lk") <| q_i0 ⟨⟨_, _, _, S10⟩,
    freed_spec C'.X C' S10 (by with_reducible exact n35 (by assumption) (by assumption) (by decide)) (hl.up fun _ _ h => S10.base h) (hord' (nw3 := []) S10) (by lia) (by lia) (fun r h => (hr r h).1) (by rw [hords, ordN_length, hrl]) hol hin fun fv nw3 s11 S11 hfv => q_name C' S11 (by walk_at "lk") <|
     q_neLL (hfv.up fun _ _ h => S11.get (List.mem_append_left _ h)) (hw.up fun _ _ h => S11.base h) (by rw [hU]; lia) <| q_tbool ?_⟩
   by_cases hf : freedOf rows ords = ws
   ·refine if_n (by simp [hf]) ?_
    refine q_or0 ?_
    refine if_n (by decide) ?_
    exact q_nil (.inl ⟨rfl, hz, hf, nw3, S11⟩)
   ·rw [if_pos (by simp [hf]), if_pos rfl]
    exact q_cons <| q_ret <| q_cbool (.inr ⟨rfl, .inr hf, nw3, S11⟩)
  ·rw [if_pos (by simp; with_reducible assumption), if_pos rfl]
   exact q_cons <| q_ret <| q_cbool (.inr ⟨rfl, .inl hz, [], S10⟩)
 rintro f s11 (⟨rfl, hz, hf, nw3, S11⟩ | ⟨rfl, hbad, nw3, S11⟩)
 ·obtain ⟨RR, hRR⟩ : ∃ RR, RR = nw3 ++ ((ta' ++ tb') ++ nw2 ++ R_0) := ⟨_, rfl⟩
  have S11' := S11
  rw [← hRR] at S11'
  have mtl : (tl, W.listOf tvs.toArray tn) ∈ RR := by rw [hRR]; exact List.mem_append_right _ (List.mem_append_right _ mtl0)
  have mca : (ca, co') ∈ RR := by rw [hRR]; exact List.mem_append_right _ (List.mem_append_right _ mca0)
  have htl7 : tvs.length ≤ 7 := by
   have h1 := htall.length
   rw [List.length_map] at h1
   have h2 := hnd.length_le_of_subset (l₂ := plain.drop 1) fun y hy => hdr y hy
   rw [List.length_drop] at h2
   lia
  refine byG fun GG hGG => ?_
  obtain ⟨la, lvs, ln, rfl, hlo, hall⟩ := hl
  refine hGG ?_
  clear hGG GG
  have hlen := hall.length
  refine q_cons <| q_ret <| q_cmp <| q_compX (cl := [("told", ca)]) (hclos _ _ rfl) <| q_name C' S11' (by walk_at "lk") ⟨s, g', _, _, fun z ys r => ∃ nv, And (r = nv ++ RR) (All2 (LsI (ld nv)) ys ((rows.take z).map fun line => (td.map fun y => ((plain.idxOf y : Nat) : Int)).filter fun x => line.contains x)), _,
   src_seqG (lo := W.listOf lvs.toArray ln) C'.hh ⟨.inl rfl, _, rfl⟩ S11' (.inl hlo) (Nat.le_trans (show lvs.length ≤ 7 by lia) (by decide)) ⟨[], rfl, .nil⟩ ?_, fun D5 ys r s12 hJ hyl S12 => ?_⟩
  ·rintro z v hv ys r_1 I2 it2 Cq oCq cq ocq D5 s12 ⟨nv, rfl, hys⟩ hyl hocq S12
   refine byG fun GG hGG => ?_
   obtain ⟨line, hline, lr, lrvs, lrn, rfl, hlro, hlrall⟩ := hall.get' hv
   refine hGG ?_
   clear hGG GG
   refine q_comp (cl := [("line", cq)]) (closureFor_eq (cells := [("line", cq), ("told", ca)]) rfl rfl) <| q_nameC S12 hco' (.tail _ (.tail _ (.tail _ (.tail _ (List.mem_append_right _ mca))))) hcf
    ⟨s, g', _, _, fun j us r => r = (I2, it2) :: (Cq, oCq) :: (cq, ocq) :: (D5, lst ys) :: (nv ++ RR) ∧ All2 Vi us (((td.map fun y => ((plain.idxOf y : Nat) : Int)).take j).filter fun x => line.contains x), _,
     src_seq (lo := W.listOf tvs.toArray tn) C'.hh ⟨.inl rfl, _, rfl⟩ S12 (.inr ?_) (Nat.le_trans htl7 (by decide)) ⟨rfl, .nil⟩ ?_, fun D6 us r s13 hJ hul S13 => ?_⟩
   ·rintro j us r ⟨rfl, _⟩; exact .tail _ (.tail _ (.tail _ (.tail _ (List.mem_append_right _ mtl))))
   ·rintro j v' hv' us r_2 I3 it3 C3 oC3 mC3 D6 s13 ⟨rfl, hus⟩ hul hoC3 hm3 S13
    obtain ⟨c, hc, tc, rfl⟩ := htall.get' hv'
    refine q_tests1 <| q_tcmp <| q_nameO S13 hoC3 hm3 (.tail _ (.head _)) <| q_nameC S13 hocq (.tail _ (.tail _ (.tail _ (.tail _ (.tail _ (.head _)))))) ⟨compEnv_kind rfl, lookup_relabel_cell rfl⟩ <| q_in (S13.base hlro) hlrall <| q_tbool ?_
    have step : ((td.map fun y => ((plain.idxOf y : Nat) : Int)).take (j + 1)).filter (fun x => line.contains x) = ((td.map fun y => ((plain.idxOf y : Nat) : Int)).take j).filter (fun x => line.contains x) ++ (if line.contains c then [c] else []) := by
     rw [List.take_add_one, hc, List.filter_append]
     congr 1
     show List.filter _ [c] = _
     rw [List.filter_cons, List.filter_nil]
    cases hb : line.contains c with
    | false =>
     refine if_n (by decide) ?_
     refine ⟨_, S13, rfl, ?_⟩
     rw [step, hb, if_neg (by decide), List.append_nil]
     exact hus
    | true =>
     refine if_p rfl ?_
     refine q_nameO S13 hoC3 hm3 (.tail _ (.head _)) ⟨_, S13, rfl, ?_⟩
     rw [step, hb, if_pos rfl]
     exact hus.snoc ⟨_, rfl⟩
   ·obtain ⟨rfl, hus⟩ := hJ
    rw [htall.length, List.take_length] at hus
    refine ⟨((D6, lst us) :: nv) ++ RR, S13.perm (List.perm_middle (l₁ := [_, _, _, _])), (D6, lst us) :: nv, rfl, ?_⟩
    rw [List.take_add_one, hline, List.map_append]
    exact (hys.mono fun a b h => h.up fun _ _ x => .tail _ x).snoc ⟨D6, us, us.length, rfl, .head _, hus⟩
  obtain ⟨nv, rfl, hys⟩ := hJ
  rw [hlen, List.take_length] at hys
  rw [hRR] at S12
  have S13 : Stt s g' env'.locals (lcs ["above", "lines", "plain", "waits", "orders", "left"] [some av, some (.ref la), some pv, some wv, some ov, some (.int (left : Nat) t6)]) (((D5, lst ys) :: (nv ++ nw3)) ++ ((ta' ++ tb') ++ nw2 ++ R_0)) s12 := by simpa only [List.append_assoc, List.cons_append] using S12
  refine q_name C' S13 (by walk_at "lk") <| q_eqLL (x := rows.map fun line => (td.map fun y => ((plain.idxOf y : Nat) : Int)).filter fun x => line.contains x) ⟨D5, ys, ys.length, rfl, S13.get (.head _), hys.mono fun a b h => h.up fun _ _ x => S13.get (.tail _ (List.mem_append_left _ (List.mem_append_left _ x)))⟩ (hord' S13) (by rw [hU]; lia) ?_
  refine fin _ _ S13 (.inr ⟨td, hnd, hmem, hdr, hord, ?_⟩)
  rw [hz, hf]; simp
 ·refine fin false nw3 S11 (.inr ⟨td, hnd, hmem, hdr, hord, ?_⟩)
  rcases hbad with h | h <;> simp [h]
theorem law_enter {prog : Program} {w : World} {s : Shared} {p : Program} {loose : List Str} {mean : ExcName → Option Value} {mg mb : SM} {tabs : List (Addr × Addr)}
  (X : (hK w.params).In s.heap) (hXK : noTabs (hK w.params) = true) (T : Top p loose mean mg mb s.heap) (hT : TabsAt tabs s.heap) (hnd : (tabs.map (·.2)).Nodup)
  {fa : Addr} {o : Obj} {name qual : Str} {params : Arguments} {body : List Stmt} {scope : Scope} {dV kV doc pm cdv ct : Value} {an : Option Addr}
  {args : List Value} {R : Result → Shared → Prop} (nm' : List Str) (vs : List Value) (vals' : OV) (G' : SV) (binds cb : SV) (cs : Nat → List (Str × Addr))
  (ho : s.heap.get? fa = some o) (hd : o.data = .func (fnOf name qual params body scope dV kV doc pm an cdv ct)) (hcd : s.heap.CodeRec cdv qual) (hroom : callerA.depth < recursionLimit)
  (hbind : BindsTo s (fnOf name qual params body scope dV kV doc pm an cdv ct) ⟨args, []⟩ binds) (hlen : vs.length ≤ nm'.length) (hvals : vals' = vs.map some ++ List.replicate (nm'.length - vs.length) none)
  (hloc : (binds.filter fun p => scope.names.lookup p.1 == some .local) = nm'.zip vs) (hcel : (binds.filter fun p => !(scope.names.lookup p.1 == some .local)) = cb)
  (hck : ckNames scope nm' G' = true) (hcs : ∀ n, cellsFrom n scope.names [] = cs n) (hcsn : ((cs 0).map (·.1)).Nodup) (hcsk : ((cs 0).all fun p => scope.names.lookup p.1 == some .cell) = true)
  (hkind : ∀ n, ∀ x ∈ binds, scope.names.lookup x.1 = some .local ∨ (scope.names.lookup x.1 = some .cell ∧ ((cs n).lookup x.1).isSome = true))
  (hco : scope.isCoroutine = false) (hgen : scope.isGenerator = false) (hkf : scope.kind = .function)
  (h : ∀ n env' s_1 cells, Fm w (callerA.deeper env') env' (ghostOf s.heap tabs) (ghostOf s.heap tabs) [] nm' G' → Cm env' (cs n) → CellsAre (fun y => cb.reverse.lookup y) (cs n) cells → Stt s (ghostOf s.heap tabs) env'.locals (lcs nm' vals') (cells ++ tabNews tabs) s_1 →
   WP (model prog w) (callerA.deeper env') (execs body env') (fun fl s_2 => R (.ok (.ret (rv fl))) s_2) NE s_1) :
  codeAny (model prog w) callerA (.call (.ref fa) ⟨args, []⟩) R s := by
 have T' := ghost_top hT T
 have X' := ghost_K hT X hXK
 have N : ∀ p ∈ tabNews tabs, s.heap.get? p.1 = some p.2 := fun p hp => by
  obtain ⟨q, hq, rfl⟩ := List.mem_map.mp hp
  exact (hT q hq).2
 simp only [ckNames, Bool.and_eq_true, List.all_eq_true, decide_eq_true_eq] at hck
 obtain ⟨⟨hk1, hk2⟩, hk3⟩ := hck
 have hp1 : ∀ x ∈ nm', scope.names.lookup x = some .local ∧ (x == ("__debug__" : Str)) = false := fun x hx => by
  have := hk1 x hx
  exact ⟨eq_of_beq this.1, by simpa using this.2⟩
 have hcn : ∀ n, (cs n).map (·.1) = (cs 0).map (·.1) := fun n => by rw [← hcs, ← hcs]; exact cellsFrom_names scope.names n 0 [] [] rfl
 refine codeAny_call_function hroom ho hd hco hgen rfl hcd (hbind _ _ _ _ ?_)
 refine wpAny_newFunctionEnv_cells hkf (by rw [hcs]; exact hkind _) fun env' he s' x => ?_
 rw [hcs] at he
 have hcells : env'.cells = cs (s.heap.objs.size + 1) := by rw [he]; rfl
 have hlocs : env'.locals = s.heap.objs.size := by rw [he]; rfl
 have hkO : env'.kindOf = fun n => scope.names.lookup n := by rw [he]; rfl
 refine ⟨T.nolimit.keeps x.toInCall.keep, codeAny_func ?_⟩
 obtain ⟨h_1, tk, rfl, _⟩ := x.done
 have hk_1 := x.toInCall.keep
 have hns := x.toInCall.ns
 have hcl := x.cell
 have hab := x.above
 rw [hcells] at hcl hab
 rw [hlocs] at hns hab
 obtain ⟨cells, NC, Y⟩ := Cl.news (h₀ := s.heap) (L := s.heap.objs.size) (Nat.le_refl _) fun n c hm => ⟨hcl n c (lookup_of_mem_nodup ((hcn _).symm ▸ hcsn) hm), hab n c hm⟩
 have eL : bindL env'.kindOf binds (fun _ => none) = lcs nm' vals' := by
  rw [hkO, bindL_eq, hloc, hvals, ← binds_lcs hlen hk3]; funext y; simp
 have eC : bindC env'.kindOf binds (fun _ => none) = fun y => cb.reverse.lookup y := by
  rw [hkO, bindC_eq, hcel]; funext y; simp
 rw [eC] at Y
 rw [eL] at hns
 have Yk : ∀ {cs : List (Str × Addr)} {cells : LD}, CellsAre (fun y => cb.reverse.lookup y) cs cells → cells.map (·.1) = cs.map (·.2) := by
  intro cs cells Y; induction Y with
  | nil => rfl
  | cons _ _ ih => simp [ih]
 have ap : ((cs (s.heap.objs.size + 1)).map (·.2)).Nodup := by
  have := x.apart
  rw [hcells] at this
  exact List.pairwise_map.mpr this
 have hcx : ∀ p ∈ cs (s.heap.objs.size + 1), env'.kindOf p.1 = some .cell := fun p hp => by
  rw [hkO]
  obtain ⟨q, hq, e⟩ := List.mem_map.mp ((hcn (s.heap.objs.size + 1)) ▸ List.mem_map_of_mem hp : p.1 ∈ (cs 0).map (·.1))
  have := List.all_eq_true.mp hcsk q hq
  rw [← e]; exact eq_of_beq this
 have hfm : Fm w (callerA.deeper env') env' (ghostOf s.heap tabs) (ghostOf s.heap tabs) [] nm' G' := by
  subst he
  refine ⟨X', ⟨_, _, _, _, _, T'⟩, trivial, Around.frames_deeper (A := callerA) rfl, rfl, hkf, rfl, rfl, rfl, hk3, hp1, fun q hq => ?_⟩
  have := hk2 q hq
  exact ⟨eq_of_beq this.1.1, by simpa using this.1.2, gts w q (List.contains_iff_mem.mp this.2)⟩
 have hcm : Cm env' (cs (s.heap.objs.size + 1)) := ⟨hcells, by rw [he]; exact hkf, hcx⟩
 have hfst : (tabNews tabs).map (·.1) = tabs.map (·.2) := by simp [tabNews]
 refine wpAny_mono (h (s.heap.objs.size + 1) env' _ cells hfm hcm Y ?_).run (fun fl s_2 hl => ?_) fun _ _ e => e.elim
 ·refine ⟨⟨_, _, rfl⟩, ?_, fun p hp => ?_, ?_⟩
  ·rw [hlocs]
   exact ⟨hns, fun b o e => hk_1 b o (of_hideAll _ e), Nat.le_of_eq (hideAll_size _ _)⟩
  ·rw [hlocs]
   rcases List.mem_append.mp hp with hp | hp
   ·refine ⟨(NC p hp).1, (NC p hp).2.1, ?_⟩
    cases q : (ghostOf s.heap tabs).get? p.1 with
    | none => rfl
    | some o => have := of_hideAll _ q; rw [(NC p hp).2.2] at this; cases this
   ·exact ⟨hk_1 _ _ (N p hp), Nat.ne_of_lt (Heap.lt_size (N p hp)), hideAll_none _ (hfst ▸ List.mem_map_of_mem hp)⟩
  ·rw [List.map_append, List.nodup_append]
   refine ⟨(Yk Y) ▸ ap, hfst ▸ hnd, fun a ha b hb e => ?_⟩
   obtain ⟨p, hp, rfl⟩ := List.mem_map.mp ha
   obtain ⟨q, hq, rfl⟩ := List.mem_map.mp hb
   have := N q hq
   rw [← e, (NC p hp).2.2] at this; cases this
 ·cases fl <;> exact hl
noncomputable def XPost (s0 : Shared) (g : Heap) (L I c : Addr) (it : Obj) (J : (SM) → List (Addr × Obj) → Prop) (Q : FP) (f : Flow) (s : Shared) : Prop :=
 match f with
 | .ret v => Q (.ret v) s
 | .brk => Q .next s
 | _ => Ex4 fun m r oc v0 => An3 (oc.data = .cell v0) (Stt s0 g L m ((I, it) :: (c, oc) :: r) s) (J m r)
section
variable {prog : Program} {w : World} {A : Around} {env : Env} {g base : Heap} {outer : List Env} {nm : List Str} {G : SV}
 {s0 s : Shared} {m : SM} {rest : LD}
inductive PForRX (prog : Program) (w : World) (A : Around) (env : Env) (g : Heap) (c : Addr) (body : List Stmt) (Q : FP) (xv : Value) (s_1 : Shared) : Prop
 | mk (s0 : Shared) (l : Addr) (a : Int) (b : Int) (n : Nat) (t : Tok) (u : Tok) (v : Tok) (J : Nat → (SM) → List (Addr × Obj) → Prop) (m : SM) (rest : LD) (oc : Obj) (v0 : Option Value) (h1 : xv = .ref l) (h2 : oc.data = .cell v0) (h3 : Stt s0 g env.locals m ((c, oc) :: rest) s_1) (h4 : s_1.heap.get? l = some (rangeObj a b 1 t u v)) (h5 : (b = a + n ∧ -(2 ^ 60) ≤ a ∧ a < 2 ^ 60 ∧ n < 2 ^ 60)) (h6 : J 0 m rest) (h7 : (∀ i t m1 r_1 I it oc s_2, i < n → J i m1 r_1 → oc.data = .cell (some (.int (a + i) t)) → Stt s0 g env.locals m1 ((I, it) :: (c, oc) :: r_1) s_2 →
    WP (model prog w) A (execs body env) (XPost s0 g env.locals I c it (J (i + 1)) Q) NE s_2)) (h8 : (∀ m1 r_1 oc v0 s_2, J n m1 r_1 → oc.data = .cell v0 → Stt s0 g env.locals m1 ((c, oc) :: r_1) s_2 → Q .next s_2)) : PForRX prog w A env g c body Q xv s_1
theorem q_forRX (C : Fm w A env g base outer nm G) {x : Str} {c : Addr} {px pos : Pos} {iter : Expr} {body : List Stmt} {Q : FP} (hf : env.scope.kind = .function ∧ env.kindOf x = some .cell) (hc : env.cells.lookup x = some c)
  (h : WP (model prog w) A (eval iter env) (PForRX prog w A env g c body Q) NE s)
  (hs : ∀ x, foldedSetIterable iter env x = pure x := by intro _; exact rfl) :
  WP (model prog w) A (exec (.For (.Name x px) iter body [] pos) env) Q NE s := by
 refine ⟨wpAny_For (wpAny_mono h.run (fun xv s_1 h_1 => ?_) fun _ _ e => e.elim) hs⟩
 obtain ⟨s0, l, a, b, n, t, u, v, J, m, rest, oc, v0, rfl, hoc, S, hr, ⟨rfl, b1, b2, b3⟩, h0, turn, done⟩ := h_1
 have hr' : IsRange s_1.heap l a (a + n) 1 t u v := hr
 have hsz : Builtin.Range.rangeSize a (a + n) 1 = (n : Int) := by
  rw [rangeSize_one]; split <;> lia
 refine wpAny_pyIter_range hr' (small_one (by lia) (by lia) (by lia) (by lia)) ?_
 rw [hsz]
 have S' := S.push { cls := .type "range_iterator", data := .fields #[rawInt a, rawInt n, rawInt 1] } s_1.toks
 have W := Walks.range (prog := prog) (w := w) C.hh s_1.heap.objs.size a 1 n
 have hst0 : IsRangeIter ({ s_1 with heap := s_1.heap.push { cls := .type "range_iterator", data := .fields #[rawInt a, rawInt n, rawInt 1] } } : Shared).heap s_1.heap.objs.size (a + ((0 : Nat) : Int) * 1) ((n : Int) - ((0 : Nat) : Int)) 1 := by
  simpa using Heap.get?_push_size (s_1.heap) (o := { cls := .type "range_iterator", data := .fields #[rawInt a, rawInt n, rawInt 1] }) rfl
 have hIc : c ≠ s_1.heap.objs.size := Nat.ne_of_lt (Heap.lt_size (S.get (.head _)))
 refine loop_for
  (fun k s' => Ex6 fun i it oc v0 m' r => An6 (i ≤ n) (k = n + 1 - i) (oc.data = .cell v0) (Stt s0 g env.locals m' ((s_1.heap.objs.size, it) :: (c, oc) :: r) s') (IsRangeIter s'.heap s_1.heap.objs.size (a + ((i : Nat) : Int) * 1) ((n : Int) - ((i : Nat) : Int)) 1) (J i m' r)) ?_ (n + 1)
  ⟨0, _, oc, v0, _, _, Nat.zero_le _, rfl, hoc, S', hst0, h0⟩
 rintro k s' hJJ PT ET hPT
 obtain ⟨i, it, oc, v0, m', r, hi, rfl, hoc, S_2, hst, hJ⟩ := hJJ
 by_cases hlt : i < n
 ·refine W.item i _ _ _ hlt hst fun v h_2 tk2 hPv hst2 hk_2 => ?_
  obtain ⟨t', rfl⟩ := hPv
  have e_2 : ∃ it2, h_2.get? s_1.heap.objs.size = some it2 := ⟨_, hst2⟩
  obtain ⟨it2, e_2⟩ := e_2
  have S_3 := S_2.walked tk2 hk_2 e_2
  refine wpAny_of_eq (show letOwnedTupleGo (.Name x px) _ _ = pure () from rfl) ?_
  refine wpAny_assign_Name (wpAny_storeName_cell hf.1 hf.2 hc ⟨oc, S_3.get (.tail _ (.head _)), hoc⟩ fun h_3 hv_3 hs3 => ?_)
  obtain ⟨oc3, eC3, hoc3⟩ := hv_3
  have S4 := S_3.setAt tk2 (.tail .head) hs3 eC3
  have hst3 : IsRangeIter h_3 s_1.heap.objs.size (a + (((i + 1 : Nat)) : Int) * 1) ((n : Int) - ((i + 1 : Nat) : Int)) 1 := W.frame (i + 1) _ _ hst2 fun b hb o e => hs3.extBut b o (fun q => hIc (by have q' : b = c := q; rw [← q']; exact List.mem_singleton.mp hb)) e
  rw [Int.mul_one] at hoc3
  have keep : ∀ {m5 r5 oc5 s5}, Stt s0 g env.locals m5 ((s_1.heap.objs.size, it2) :: (c, oc5) :: r5) s5 → IsRangeIter s5.heap s_1.heap.objs.size (a + (((i + 1 : Nat)) : Int) * 1) ((n : Int) - ((i + 1 : Nat) : Int)) 1 := fun {m5 r5 oc5 s5} S5 =>
   W.frame (i + 1) _ _ hst3 fun b hb o e => by
    have hb' := List.mem_singleton.mp hb
    subst hb'
    have := S4.get (.head _)
    rw [e] at this; cases this
    exact S5.get (.head _)
  refine wpAny_mono (turn i t' m' r _ it2 oc3 _ hlt hJ hoc3 S4).run (fun f s5 h_5 => ?_) fun _ _ e => e.elim
  have fin : (Ex4 fun m r oc v0 => An3 (oc.data = .cell v0) (Stt s0 g env.locals m ((s_1.heap.objs.size, it2) :: (c, oc) :: r) s5) (J (i + 1) m r)) → PT s5 := by
   rintro ⟨m5, r5, oc5, v5, hoc5, S5, hJ5⟩
   exact hPT (n + 1 - (i + 1)) _ (by with_reducible exact n21 (by assumption)) ⟨i + 1, it2, oc5, v5, m5, r5, hlt, rfl, hoc5, S5, keep S5, hJ5⟩
  cases f with
  | next => exact fin h_5
  | cont => exact fin h_5
  | brk => exact h_5
  | ret v => exact h_5
 ·obtain rfl : i = n := Nat.le_antisymm hi (Nat.not_lt.mp hlt)
  refine W.done _ _ _ hst fun h_2 tk2 hk_2 => wpAny_execs_nil ?_
  exact done _ _ oc v0 _ hJ hoc (S_2.dropB tk2 hk_2)
end
structure Tr (N : Nat) (up : Nat → Nat) (rows : List (List Int)) : Prop where
 len : rows.length = N + 1
 r0 : wAt rows ((0 : Nat) : Int) = []
 lt : ∀ k, 1 ≤ k → k ≤ N → up k < k
 rs : ∀ k, 1 ≤ k → k ≤ N → wAt rows (k : Nat) = wAt rows (up k : Nat) ++ [((k : Nat) : Int)]
section
variable {N : Nat} {up : Nat → Nat} {rows ws : List (List Int)}
theorem Tr.ind (T : Tr N up rows) {P : Nat → Prop} (h0 : P 0) (hs : ∀ k, 1 ≤ k → k ≤ N → P (up k) → P k) : ∀ k, k ≤ N → P k := by
 intro k
 induction k using Nat.strongRecOn with
 | _ k ih =>
  intro hk
  by_cases hz : k = 0
  ·rw [hz]; exact h0
  ·have := T.lt k (by lia) hk
   exact hs k (by lia) hk (ih _ this (by lia))
theorem Tr.mem (T : Tr N up rows) : ∀ k, k ≤ N → ∀ j ∈ wAt rows (k : Nat), ∃ i : Nat, j = (i : Int) ∧ 1 ≤ i ∧ i ≤ k := by
 refine T.ind (by rw [T.r0]; simp) fun k h1 hk ih j hj => ?_
 have := T.lt k h1 hk
 rw [T.rs k h1 hk, List.mem_append, List.mem_singleton] at hj
 rcases hj with hj | rfl
 ·obtain ⟨i, rfl, a, b⟩ := ih j hj; exact ⟨i, rfl, a, by lia⟩
 ·exact ⟨k, rfl, h1, Nat.le_refl _⟩
theorem Tr.dl (T : Tr N up rows) {k : Nat} (h1 : 1 ≤ k) (hk : k ≤ N) : (wAt rows (k : Nat)).dropLast = wAt rows (up k : Nat) := by
 rw [T.rs k h1 hk, List.dropLast_concat]
theorem Tr.self (T : Tr N up rows) {k : Nat} (h1 : 1 ≤ k) (hk : k ≤ N) : (k : Int) ∈ wAt rows (k : Nat) := by
 rw [T.rs k h1 hk]; simp
theorem Tr.inc (T : Tr N up rows) : ∀ k, k ≤ N → (wAt rows (k : Nat)).Pairwise (· < ·) := by
 refine T.ind (by rw [T.r0]; exact .nil) fun k h1 hk ih => ?_
 have hu := T.lt k h1 hk
 rw [T.rs k h1 hk, List.pairwise_append]
 refine ⟨ih, List.pairwise_singleton _ _, fun a ha b hb => ?_⟩
 obtain ⟨i, rfl, _, _⟩ := T.mem _ (by lia) a ha
 rw [List.mem_singleton.mp hb]; lia
theorem Tr.nd (T : Tr N up rows) {k : Nat} (hk : k ≤ N) : (wAt rows (k : Nat)).Nodup := (T.inc k hk).imp fun h => by lia
theorem Tr.pre (T : Tr N up rows) : ∀ k, k ≤ N → ∀ i : Nat, (i : Int) ∈ wAt rows (k : Nat) → ∃ t, wAt rows (k : Nat) = wAt rows (i : Nat) ++ t := by
 refine T.ind (by rw [T.r0]; simp) fun k h1 hk ih i hi => ?_
 have hi' := hi
 rw [T.rs k h1 hk, List.mem_append, List.mem_singleton] at hi'
 rcases hi' with hi' | e
 ·obtain ⟨t, e⟩ := ih i hi'
  rw [T.rs k h1 hk, e]; exact ⟨t ++ [(k : Int)], by simp⟩
 ·have : i = k := by lia
  subst this; exact ⟨[], by simp⟩
theorem Tr.not_up (T : Tr N up rows) {k : Nat} (h1 : 1 ≤ k) (hk : k ≤ N) : (k : Int) ∉ wAt rows (up k : Nat) := fun h => by
 have hu := T.lt k h1 hk
 obtain ⟨i, e, _, _⟩ := T.mem _ (by lia) _ h
 lia
theorem Tr.anc (T : Tr N up rows) {k : Nat} (hk : k ≤ N) {i j : Int} (hi : i ∈ wAt rows (k : Nat)) (hj : j ∈ wAt rows (k : Nat)) (h : i < j) : i ∈ (wAt rows j).dropLast := by
 obtain ⟨b, rfl, hb1, hbk⟩ := T.mem k hk j hj
 obtain ⟨t, e⟩ := T.pre k hk b hj
 have hp := T.inc k hk
 rw [e] at hi hp
 rw [T.dl hb1 (by lia)]
 have hs := T.self hb1 (Nat.le_trans hbk hk)
 rcases List.mem_append.mp hi with hi | hi
 ·rw [T.rs b hb1 (by lia), List.mem_append, List.mem_singleton] at hi
  rcases hi with hi | hi
  ·exact hi
  ·lia
 ·have := (List.pairwise_append.mp hp).2.2 _ hs _ hi
  lia
noncomputable def Ed (rows ws : List (List Int)) (u v : Int) : Prop := (u ∈ (wAt rows v).dropLast ∧ u ∈ wAt ws v) ∨ (v ∈ (wAt rows u).dropLast ∧ v ∉ wAt ws u)
theorem Tr.total (T : Tr N up rows) {k : Nat} (hk : k ≤ N) {i j : Int} (hi : i ∈ wAt rows (k : Nat)) (hj : j ∈ wAt rows (k : Nat)) (h : i ≠ j) : Ed rows ws i j ∨ Ed rows ws j i := by
 rcases (by lia : i < j ∨ j < i) with h | h
 ·have := T.anc hk hi hj h
  by_cases hw : i ∈ wAt ws j
  ·exact .inl (.inl ⟨this, hw⟩)
  ·exact .inr (.inr ⟨this, hw⟩)
 ·have := T.anc hk hj hi h
  by_cases hw : j ∈ wAt ws i
  ·exact .inr (.inl ⟨this, hw⟩)
  ·exact .inl (.inr ⟨this, hw⟩)
theorem Tr.lt_dl (T : Tr N up rows) {u : Int} {k : Nat} (h1 : 1 ≤ k) (hk : k ≤ N) (h : u ∈ (wAt rows (k : Nat)).dropLast) : ∃ i : Nat, u = (i : Int) ∧ 1 ≤ i ∧ i < k := by
 rw [T.dl h1 hk] at h
 have hu := T.lt k h1 hk
 obtain ⟨i, e, a, b⟩ := T.mem _ (by lia) u h
 exact ⟨i, e, a, by lia⟩
theorem not_ed_up (T : Tr N up rows) {k : Nat} (h1 : 1 ≤ k) (hk : k ≤ N) {a : Int} (ha : a ∈ wAt rows (up k : Nat)) (hw : a ∈ wAt ws (k : Nat)) : ¬ Ed rows ws (k : Int) a := by
 have hu := T.lt k h1 hk
 obtain ⟨i, rfl, hi, hik⟩ := T.mem _ (by lia) a ha
 rintro (⟨h, _⟩ | ⟨_, h⟩)
 ·obtain ⟨q, e, _, _⟩ := T.lt_dl hi (by lia) h; lia
 ·exact h hw
theorem not_ed_dn (T : Tr N up rows) {k : Nat} (h1 : 1 ≤ k) (hk : k ≤ N) {a : Int} (ha : a ∈ wAt rows (up k : Nat)) (hw : a ∉ wAt ws (k : Nat)) : ¬ Ed rows ws a (k : Int) := by
 have hu := T.lt k h1 hk
 obtain ⟨i, rfl, hi, hik⟩ := T.mem _ (by lia) a ha
 rintro (⟨_, h⟩ | ⟨h, _⟩)
 ·exact hw h
 ·obtain ⟨q, e, _, _⟩ := T.lt_dl hi (by lia) h; lia
theorem ordN_at (up dg : Nat → Nat) : ∀ N k, k ≤ N → wAt (ordN up dg N) (k : Nat) = wAt (ordN up dg k) (k : Nat)
 | 0, k, h => by rw [show k = 0 by lia]
 | N + 1, k, h => by
  by_cases e : k = N + 1
  ·rw [e]
  ·rw [← ordN_at up dg N k (by lia), ordN, wAt, List.getD_eq_getElem?_getD, List.getElem?_append_left (by rw [ordN_length]; lia), ← List.getD_eq_getElem?_getD]; rfl
theorem ordN_zero (up dg : Nat → Nat) (N : Nat) : wAt (ordN up dg N) ((0 : Nat) : Int) = [] := by rw [ordN_at up dg N 0 (by lia)]; rfl
theorem ordN_step (up dg : Nat → Nat) (N k : Nat) (h1 : 1 ≤ k) (hk : k ≤ N) (hu : up k < k) : wAt (ordN up dg N) (k : Nat) = insRow (wAt (ordN up dg N) (up k : Nat)) (dg k) (k : Nat) := by
 obtain ⟨i, rfl⟩ : ∃ i, k = i + 1 := ⟨k - 1, by lia⟩
 rw [ordN_at up dg N _ hk, ordN_at up dg N (up (i + 1)) (by lia), ← ordN_at up dg i (up (i + 1)) (by lia), ordN]
 have hl := ordN_length up dg i
 rw [wAt, List.getD_eq_getElem?_getD, List.getElem?_append_right (by lia), hl, show ((i + 1 : Nat) : Int).toNat - (i + 1) = 0 by lia]
 rfl
theorem insRow_perm (row : List Int) (d : Nat) (k : Int) : (insRow row d k).Perm (row ++ [k]) := by
 unfold insRow
 have h : (row.take d ++ [k] ++ row.drop d).Perm (row.take d ++ (row.drop d ++ [k])) := by
  rw [List.append_assoc]; exact List.Perm.append_left _ List.perm_append_comm
 rw [← List.append_assoc, List.take_append_drop] at h
 exact h
theorem ord_perm (T : Tr N up rows) (dg : Nat → Nat) : ∀ k, k ≤ N → (wAt (ordN up dg N) (k : Nat)).Perm (wAt rows (k : Nat)) := by
 refine T.ind (by rw [ordN_zero, T.r0]) fun k h1 hk ih => ?_
 rw [ordN_step up dg N k h1 hk (T.lt k h1 hk), T.rs k h1 hk]
 exact (insRow_perm _ _ _).trans (ih.append_right _)
noncomputable abbrev Le (rows ws : List (List Int)) (a b : Int) : Prop := ¬ Ed rows ws b a
theorem ord_sorted (T : Tr N up rows) (dg : Nat → Nat)
  (H : ∀ k, 1 ≤ k → k ≤ N → (wAt (ordN up dg N) (up k : Nat)).Pairwise (Le rows ws) → ∀ x ∈ wAt rows (up k : Nat), x ∈ wAt ws (k : Nat) ↔ x ∈ (wAt (ordN up dg N) (up k : Nat)).take (dg k)) :
  ∀ k, k ≤ N → (wAt (ordN up dg N) (k : Nat)).Pairwise (Le rows ws) := by
 refine T.ind (by rw [ordN_zero]; exact .nil) fun k h1 hk ih => ?_
 have hu := T.lt k h1 hk
 have hp := ord_perm T dg (up k) (by lia)
 have hnd := hp.nodup_iff.mpr (T.nd (by lia))
 have hH := H k h1 hk ih
 rw [ordN_step up dg N k h1 hk hu]
 generalize wAt (ordN up dg N) (up k : Nat) = o at *
 rw [← List.take_append_drop (dg k) o] at ih hnd
 have h2 := List.pairwise_append.mp ih
 have hin : ∀ x ∈ o, x ∈ wAt rows (up k : Nat) := fun x hx => hp.mem_iff.mp hx
 have hnk : ∀ x, x ∈ o.drop (dg k) → x ∉ wAt ws (k : Nat) := fun x hx hw =>
  (List.nodup_append.mp hnd).2.2 _ ((hH x (hin x (List.mem_of_mem_drop hx))).mp hw) _ hx rfl
 unfold insRow
 rw [List.append_assoc, List.pairwise_append]
 refine ⟨h2.1, ?_, fun a ha b hb => ?_⟩
 ·rw [List.singleton_append, List.pairwise_cons]
  exact ⟨fun b hb => not_ed_dn T h1 hk (hin b (List.mem_of_mem_drop hb)) (hnk b hb), h2.2.1⟩
 ·rw [List.singleton_append, List.mem_cons] at hb
  rcases hb with rfl | hb
  ·exact not_ed_up T h1 hk (hin a (List.mem_of_mem_take ha)) ((hH a (hin a (List.mem_of_mem_take ha))).mpr ha)
  ·exact h2.2.2 a ha b hb
noncomputable def NoR (N : Nat) (up : Nat → Nat) (rows ws : List (List Int)) : Prop :=
 ∀ k, 1 ≤ k → k ≤ N → ∀ i j, i ∈ wAt rows (up k : Nat) → j ∈ wAt rows (up k : Nat) → i ∈ wAt ws (k : Nat) → j ∉ wAt ws (k : Nat) → Ed rows ws i j
noncomputable def Wok (N : Nat) (up : Nat → Nat) (rows ws : List (List Int)) : Prop :=
 ws.length = N + 1 ∧ wAt ws ((0 : Nat) : Int) = [] ∧ ∀ k, 1 ≤ k → k ≤ N → wAt ws (k : Nat) = (wAt rows (up k : Nat)).filter fun x => (wAt ws (k : Nat)).contains x
theorem take_closed {p : Int → Bool} : ∀ {o : List Int}, o.Pairwise (fun a b => p b = true → p a = true) → o.take (o.filter p).length = o.filter p
 | [], _ => rfl
 | a :: o, h => by
  have h' := List.pairwise_cons.mp h
  by_cases ha : p a = true
  ·rw [List.filter_cons, if_pos ha, List.length_cons, List.take_succ_cons, take_closed h'.2]
  ·have : o.filter p = [] := List.filter_eq_nil_iff.mpr fun b hb hpb => ha (h'.1 b hb hpb)
   rw [List.filter_cons, if_neg ha, this]; rfl
theorem take_of_nor (T : Tr N up rows) (W : Wok N up rows ws) (R : NoR N up rows ws) (dg : Nat → Nat) (hdg : ∀ k, 1 ≤ k → k ≤ N → dg k = (wAt ws (k : Nat)).length) (k : Nat) (h1 : 1 ≤ k) (hk : k ≤ N)
  (hs : (wAt (ordN up dg N) (up k : Nat)).Pairwise (Le rows ws)) : ∀ x ∈ wAt rows (up k : Nat), x ∈ wAt ws (k : Nat) ↔ x ∈ (wAt (ordN up dg N) (up k : Nat)).take (dg k) := by
 intro x hx
 have hu := T.lt k h1 hk
 have hp := ord_perm T dg (up k) (by lia)
 generalize wAt (ordN up dg N) (up k : Nat) = o at *
 have hc : o.Pairwise fun a b => (wAt ws (k : Nat)).contains b = true → (wAt ws (k : Nat)).contains a = true := by
  refine List.Pairwise.imp_of_mem (fun {a b} ha hb h hcb => ?_) hs
  rw [List.contains_iff_mem] at hcb ⊢
  refine Classical.byContradiction fun hca => h (R k h1 hk b a (hp.mem_iff.mp hb) (hp.mem_iff.mp ha) hcb hca)
 have ht := take_closed hc
 have hl : (o.filter fun x => (wAt ws (k : Nat)).contains x).length = dg k := by
  rw [hdg k h1 hk, (hp.filter _).length_eq, ← W.2.2 k h1 hk]
 rw [hl] at ht
 rw [ht, List.mem_filter, List.contains_iff_mem, hp.mem_iff]
 exact ⟨fun h => ⟨hx, h⟩, fun h => h.2⟩
theorem idx_ins {o : List Int} {d : Nat} {k : Int} (h : k ∉ o) : (insRow o d k).take ((insRow o d k).idxOf k) = o.take d := by
 unfold insRow
 have h1 : k ∉ o.take d := fun hx => h (List.mem_of_mem_take hx)
 have h2 : (o.take d ++ [k] ++ o.drop d).idxOf k = (o.take d).length := by
  rw [List.append_assoc, List.idxOf_append, if_neg h1]
  simp
 rw [h2, List.append_assoc, List.take_left']
 rfl
theorem freed_at (T : Tr N up rows) (dg : Nat → Nat) {k : Nat} (h1 : 1 ≤ k) (hk : k ≤ N) :
  wAt (freedOf rows (ordN up dg N)) (k : Nat) = (wAt rows (up k : Nat)).filter fun x => ((wAt (ordN up dg N) (up k : Nat)).take (dg k)).contains x := by
 have hu := T.lt k h1 hk
 have hp := ord_perm T dg (up k) (by lia)
 have hno : (k : Int) ∉ wAt (ordN up dg N) (up k : Nat) := fun h => T.not_up h1 hk (hp.mem_iff.mp h)
 have e1 : wAt (freedOf rows (ordN up dg N)) (k : Nat) = freedRow (wAt rows (k : Nat)) (wAt (ordN up dg N) (k : Nat)) (k : Nat) := by
  obtain ⟨i, rfl⟩ : ∃ i, k = i + 1 := ⟨k - 1, by lia⟩
  rw [wAt, freedOf, List.getD_eq_getElem?_getD, show ((i + 1 : Nat) : Int).toNat = i + 1 by lia, List.getElem?_cons_succ, List.getElem?_map, List.getElem?_range (by rw [T.len]; lia)]
  rfl
 rw [e1, freedRow, ordN_step up dg N k h1 hk hu, idx_ins hno, T.rs k h1 hk, List.filter_append]
 have : List.filter (fun j => ((wAt (ordN up dg N) (up k : Nat)).take (dg k)).contains j) [(k : Int)] = [] := by
  rw [List.filter_eq_nil_iff]
  intro a ha hc
  rw [List.mem_singleton.mp ha, List.contains_iff_mem] at hc
  exact hno (List.mem_of_mem_take hc)
 rw [this, List.append_nil]
theorem freed_len (T : Tr N up rows) (ords : List (List Int)) : (freedOf rows ords).length = N + 1 := by
 rw [freedOf, List.length_cons, List.length_map, List.length_range, T.len]; lia
theorem wAt_ext {a b : List (List Int)} {N : Nat} (ha : a.length = N + 1) (hb : b.length = N + 1) (h : ∀ k : Nat, k ≤ N → wAt a (k : Nat) = wAt b (k : Nat)) : a = b := by
 refine List.ext_getElem? fun k => ?_
 by_cases hk : k ≤ N
 ·have := h k hk
  unfold wAt at this
  rw [List.getD_eq_getElem?_getD, List.getD_eq_getElem?_getD, Int.toNat_natCast, List.getElem?_eq_getElem (by lia), List.getElem?_eq_getElem (by lia)] at this
  rw [List.getElem?_eq_getElem (by lia), List.getElem?_eq_getElem (by lia)]
  exact congrArg some this
 ·rw [List.getElem?_eq_none (by lia), List.getElem?_eq_none (by lia)]
theorem freed_eq (T : Tr N up rows) (W : Wok N up rows ws) (R : NoR N up rows ws) (dg : Nat → Nat) (hdg : ∀ k, 1 ≤ k → k ≤ N → dg k = (wAt ws (k : Nat)).length) : freedOf rows (ordN up dg N) = ws := by
 refine wAt_ext (freed_len T _) W.1 fun k hk => ?_
 by_cases h0 : k = 0
 ·subst h0; rw [W.2.1]; rfl
 have h1 : 1 ≤ k := by lia
 have hu := T.lt k h1 hk
 have hs := ord_sorted T dg (take_of_nor T W R dg hdg) (up k) (by lia)
 have := take_of_nor T W R dg hdg k h1 hk hs
 rw [freed_at T dg h1 hk]
 conv => rhs; rw [W.2.2 k h1 hk]
 refine List.filter_congr fun x hx => ?_
 rw [Bool.eq_iff_iff, List.contains_iff_mem, List.contains_iff_mem]
 exact (this x hx).symm
theorem freed_take (T : Tr N up rows) (dg : Nat → Nat) {k : Nat} (h1 : 1 ≤ k) (hk : k ≤ N) : ∀ x ∈ wAt rows (up k : Nat), x ∈ wAt (freedOf rows (ordN up dg N)) (k : Nat) ↔ x ∈ (wAt (ordN up dg N) (up k : Nat)).take (dg k) := by
 intro x hx
 rw [freed_at T dg h1 hk, List.mem_filter, List.contains_iff_mem]
 exact ⟨fun h => h.2, fun h => ⟨hx, h⟩⟩
theorem freed_wok (T : Tr N up rows) (dg : Nat → Nat) : Wok N up rows (freedOf rows (ordN up dg N)) := by
 refine ⟨freed_len T _, rfl, fun k h1 hk => ?_⟩
 conv => lhs; rw [freed_at T dg h1 hk]
 refine List.filter_congr fun x hx => ?_
 rw [Bool.eq_iff_iff, List.contains_iff_mem, List.contains_iff_mem]
 exact (freed_take T dg h1 hk x hx).symm
theorem freed_nor (T : Tr N up rows) (dg : Nat → Nat) : NoR N up rows (freedOf rows (ordN up dg N)) := by
 intro k h1 hk i j hi hj hiw hjw
 have hu := T.lt k h1 hk
 have hs := ord_sorted T dg (fun k h1 hk _ => freed_take T dg h1 hk) (up k) (by lia)
 have hp := ord_perm T dg (up k) (by lia)
 have hi' := (freed_take T dg h1 hk i hi).mp hiw
 have hj' : j ∉ (wAt (ordN up dg N) (up k : Nat)).take (dg k) := fun h => hjw ((freed_take T dg h1 hk j hj).mpr h)
 have hjo := hp.mem_iff.mpr hj
 rw [← List.take_append_drop (dg k) (wAt (ordN up dg N) (up k : Nat))] at hs hjo
 have hjd := (List.mem_append.mp hjo).resolve_left hj'
 have hn := (List.pairwise_append.mp hs).2.2 i hi' j hjd
 refine (T.total (ws := freedOf rows (ordN up dg N)) (show up k ≤ N by lia) hi hj fun e => hjw (e ▸ hiw)).resolve_right hn
theorem freed_cnt (T : Tr N up rows) (dg : Nat → Nat) {k : Nat} (h1 : 1 ≤ k) (hk : k ≤ N) (hd : dg k ≤ (wAt rows (up k : Nat)).length) : (wAt (freedOf rows (ordN up dg N)) (k : Nat)).length = dg k := by
 have hu := T.lt k h1 hk
 have hp := ord_perm T dg (up k) (by lia)
 have hnd := hp.nodup_iff.mpr (T.nd (by lia))
 rw [freed_at T dg h1 hk, ← (hp.filter _).length_eq]
 generalize wAt (ordN up dg N) (up k : Nat) = o at *
 have hl := hp.length_eq
 have e : o.filter (fun x => (o.take (dg k)).contains x) = o.take (dg k) := by
  have h0 : ∀ l r : List Int, (l ++ r).Nodup → (l ++ r).filter (fun x => l.contains x) = l := by
   intro l r h
   rw [List.filter_append, List.filter_eq_self.mpr fun x hx => List.contains_iff_mem.mpr hx, List.filter_eq_nil_iff.mpr fun x hx hc => (List.nodup_append.mp h).2.2 x (List.contains_iff_mem.mp hc) x hx rfl, List.append_nil]
  have := h0 (o.take (dg k)) (o.drop (dg k)) (by rw [List.take_append_drop]; exact hnd)
  rw [List.take_append_drop] at this
  exact this
 rw [e, List.length_take]; lia
end
section
variable {N : Nat} {up : Nat → Nat} {rows ws : List (List Int)}
theorem Wok.sub (W : Wok N up rows ws) {k : Nat} (h1 : 1 ≤ k) (hk : k ≤ N) {x : Int} (hx : x ∈ wAt ws (k : Nat)) : x ∈ wAt rows (up k : Nat) := by
 rw [W.2.2 k h1 hk] at hx; exact (List.mem_filter.mp hx).1
theorem ed_in (T : Tr N up rows) {u v : Int} (h : Ed rows ws u v) : ∃ a b : Nat, u = (a : Int) ∧ v = (b : Int) ∧ 1 ≤ a ∧ a ≤ N ∧ 1 ≤ b ∧ b ≤ N := by
 have key : ∀ x y : Int, x ∈ (wAt rows y).dropLast → ∃ a b : Nat, x = (a : Int) ∧ y.toNat = b ∧ 1 ≤ a ∧ a < b ∧ b ≤ N := by
  intro x y hx
  have e : wAt rows y = wAt rows ((y.toNat : Nat) : Int) := rfl
  rw [e] at hx
  by_cases h0 : y.toNat = 0
  ·rw [h0, T.r0] at hx; cases hx
  by_cases hN : y.toNat ≤ N
  ·obtain ⟨i, rfl, a, b⟩ := T.lt_dl (by lia) hN hx
   exact ⟨i, y.toNat, rfl, rfl, a, b, hN⟩
  ·have : wAt rows ((y.toNat : Nat) : Int) = [] := by
    rw [wAt, List.getD_eq_getElem?_getD, List.getElem?_eq_none (by rw [T.len]; lia)]; rfl
   rw [this] at hx; cases hx
 rcases h with ⟨h, _⟩ | ⟨h, _⟩
 ·obtain ⟨a, b, rfl, e, h1, h2, h3⟩ := key _ _ h
  exact ⟨a, b, rfl, by lia, h1, by lia, by lia, h3⟩
 ·obtain ⟨a, b, rfl, e, h1, h2, h3⟩ := key _ _ h
  exact ⟨b, a, by lia, rfl, by lia, h3, h1, by lia⟩
theorem ed_step (T : Tr N up rows) (W : Wok N up rows ws) {k : Nat} (h1 : 1 ≤ k) (hk : k ≤ N) {u : Nat} (hu : u ≤ k) (h : Ed rows ws u k) : (u : Int) ∈ (wAt rows (up k : Nat)) ∧ (u : Int) ∈ wAt ws (k : Nat) := by
 rcases h with ⟨h, hw⟩ | ⟨h, hw⟩
 ·rw [T.dl h1 hk] at h; exact ⟨h, hw⟩
 ·have : 1 ≤ u := by
   by_cases h0 : u = 0
   ·subst h0; rw [T.r0] at h; cases h
   ·lia
  obtain ⟨i, e, _, _⟩ := T.lt_dl this (by lia) h
  lia
theorem ed_step' (T : Tr N up rows) (W : Wok N up rows ws) {k : Nat} (h1 : 1 ≤ k) (hk : k ≤ N) {v : Nat} (hv : v ≤ k) (h : Ed rows ws k v) : (v : Int) ∈ (wAt rows (up k : Nat)) ∧ (v : Int) ∉ wAt ws (k : Nat) := by
 rcases h with ⟨h, hw⟩ | ⟨h, hw⟩
 ·have : 1 ≤ v := by
   by_cases h0 : v = 0
   ·subst h0; rw [T.r0] at h; cases h
   ·lia
  obtain ⟨i, e, _, _⟩ := T.lt_dl this (by lia) h
  lia
 ·rw [T.dl h1 hk] at h; exact ⟨h, hw⟩
noncomputable def topR (f : Int → Nat) : List Int → Nat
 | [] => 0
 | a :: l => max (f a + 1) (topR f l)
theorem topR_lt {f : Int → Nat} : ∀ {l : List Int} {a : Int}, a ∈ l → f a < topR f l
 | b :: l, a, h => by
  rcases List.mem_cons.mp h with rfl | h
  ·simp only [topR]; lia
  ·have := topR_lt (f := f) h; simp only [topR]; lia
theorem topR_le {f : Int → Nat} {m : Nat} : ∀ {l : List Int}, (∀ a ∈ l, f a < m) → topR f l ≤ m
 | [], _ => Nat.zero_le _
 | b :: l, h => by
  have := topR_le (f := f) (m := m) fun a ha => h a (.tail _ ha)
  have := h b (.head _)
  simp only [topR]; lia
theorem rank_of (T : Tr N up rows) (W : Wok N up rows ws) (R : NoR N up rows ws) : ∀ k, k ≤ N → ∃ f : Int → Nat, ∀ a b : Nat, a ≤ k → b ≤ k → Ed rows ws a b → f a < f b
 | 0, _ => ⟨fun _ => 0, fun a b ha hb h => by
   obtain ⟨a', b', e1, e2, _, _, _, _⟩ := ed_in T h; lia⟩
 | k + 1, hk => by
  obtain ⟨f, hf⟩ := rank_of T W R k (by lia)
  have hu := T.lt (k + 1) (by lia) hk
  refine ⟨fun x => if x = ((k + 1 : Nat) : Int) then 2 * topR f (wAt ws ((k + 1 : Nat) : Int)) else 2 * f x + 1, fun a b ha hb h => ?_⟩
  have hab : a ≠ b := by
   rintro rfl
   obtain ⟨a', b', e1, e2, h1, h2, _, _⟩ := ed_in T h
   rcases h with ⟨h, _⟩ | ⟨h, _⟩
   ·obtain ⟨i, e, _, _⟩ := T.lt_dl (show 1 ≤ a by lia) (by lia) h; lia
   ·obtain ⟨i, e, _, _⟩ := T.lt_dl (show 1 ≤ a by lia) (by lia) h; lia
  by_cases hb' : b = k + 1
  ·subst hb'
   obtain ⟨_, hw⟩ := ed_step T W (by lia) hk ha h
   have := topR_lt (f := f) hw
   simp only [if_true, if_neg (show ¬ ((a : Int) = ((k + 1 : Nat) : Int)) by lia)]
   lia
  ·by_cases ha' : a = k + 1
   ·subst ha'
    obtain ⟨hr, hw⟩ := ed_step' T W (by lia) hk hb h
    have hle : topR f (wAt ws ((k + 1 : Nat) : Int)) ≤ f b := topR_le fun x hx => by
     have hxr := W.sub (by lia) hk hx
     have he := R (k + 1) (by lia) hk x b hxr hr hx hw
     obtain ⟨i, rfl, hi1, hi2⟩ := T.mem _ (by lia) x hxr
     exact hf i b (by lia) (by lia) he
    simp only [if_true, if_neg (show ¬ ((b : Int) = ((k + 1 : Nat) : Int)) by lia)]
    lia
   ·have := hf a b (by lia) (by lia) h
    simp only [if_neg (show ¬ ((a : Int) = ((k + 1 : Nat) : Int)) by lia), if_neg (show ¬ ((b : Int) = ((k + 1 : Nat) : Int)) by lia)]
    lia
theorem ring_nor (T : Tr N up rows) (W : Wok N up rows ws) (h : ringB rows ws = false) : NoR N up rows ws := by
 intro k h1 hk i j hi hj hiw hjw
 have hu := T.lt k h1 hk
 have key : ∀ a b : Int, a ∈ wAt rows (up k : Nat) → b ∈ wAt rows (up k : Nat) → a ∈ (wAt rows b).dropLast → ringT ws k b a = false := by
  intro a b ha hb hab
  simp only [ringB, ring2, ring3, List.any_eq_false, List.mem_range, T.len] at h
  have h' := h (k - 1) (by lia)
  rw [show (1 : Int) + ((k - 1 : Nat) : Int) = (k : Int) by lia, T.dl h1 hk, Bool.not_eq_true, List.any_eq_false] at h'
  have h'' := h' b hb
  rw [Bool.not_eq_true, List.any_eq_false] at h''
  simpa using h'' a hab
 have hij : i ≠ j := fun e => hjw (e ▸ hiw)
 have c1 : (wAt ws (k : Nat)).contains i = true := List.contains_iff_mem.mpr hiw
 have c2 : (wAt ws (k : Nat)).contains j = false := by
  cases q : (wAt ws (k : Nat)).contains j with
  | false => rfl
  | true => exact absurd (List.contains_iff_mem.mp q) hjw
 rcases (by lia : i < j ∨ j < i) with hlt | hlt
 ·have ha := T.anc (show up k ≤ N by lia) hi hj hlt
  have hr := key i j hi hj ha
  unfold ringT at hr
  rw [c1, c2] at hr
  cases q : (wAt ws j).contains i with
  | true => exact .inl ⟨ha, List.contains_iff_mem.mp q⟩
  | false => rw [q] at hr; exact absurd hr (by decide)
 ·have ha := T.anc (show up k ≤ N by lia) hj hi hlt
  have hr := key j i hj hi ha
  unfold ringT at hr
  rw [c1, c2] at hr
  cases q : (wAt ws i).contains j with
  | false => exact .inr ⟨ha, fun hm => by rw [List.contains_iff_mem.mpr hm] at q; cases q⟩
  | true => rw [q] at hr; exact absurd hr (by decide)
theorem ring_cyc (T : Tr N up rows) (h : ringB rows ws = true) : ∃ a b c : Int, Ed rows ws a b ∧ Ed rows ws b c ∧ Ed rows ws c a := by
 simp only [ringB, ring2, ring3, List.any_eq_true, List.mem_range, T.len] at h
 obtain ⟨x, hx, j, hj, i, hi, hr⟩ := h
 rw [show (1 : Int) + (x : Int) = ((x + 1 : Nat) : Int) by lia] at hj hr
 generalize hk : x + 1 = k at hj hr
 have h1 : 1 ≤ k := by lia
 have hkN : k ≤ N := by lia
 have hj' := hj
 rw [T.dl h1 hkN] at hj'
 have hu := T.lt k h1 hkN
 have hik : i ∈ (wAt rows (k : Nat)).dropLast := by
  rw [T.dl h1 hkN]
  obtain ⟨b, rfl, hb1, hb2⟩ := T.mem _ (by lia) j hj'
  obtain ⟨t, e⟩ := T.pre _ (by lia) b hj'
  rw [e]; exact List.mem_append_left _ ((List.dropLast_sublist _).subset hi)
 unfold ringT at hr
 rw [Bool.and_eq_true, beq_iff_eq, bne_iff_ne] at hr
 have mem_of : ∀ {l : List Int} {x : Int}, l.contains x = true → x ∈ l := fun h => List.contains_iff_mem.mp h
 have nmem_of : ∀ {l : List Int} {x : Int}, l.contains x = false → x ∉ l := fun h hm => by rw [List.contains_iff_mem.mpr hm] at h; cases h
 cases q : (wAt ws j).contains i with
 | true =>
  rw [q] at hr
  have q2 : (wAt ws (k : Nat)).contains j = true := hr.1.symm
  have q3 : (wAt ws (k : Nat)).contains i = false := by
   cases q3 : (wAt ws (k : Nat)).contains i with
   | false => rfl
   | true => exact absurd q3.symm hr.2
  exact ⟨i, j, k, .inl ⟨hi, mem_of q⟩, .inl ⟨hj, mem_of q2⟩, .inr ⟨hik, nmem_of q3⟩⟩
 | false =>
  rw [q] at hr
  have q2 : (wAt ws (k : Nat)).contains j = false := hr.1.symm
  have q3 : (wAt ws (k : Nat)).contains i = true := by
   cases q3 : (wAt ws (k : Nat)).contains i with
   | true => rfl
   | false => exact absurd q3.symm hr.2
  exact ⟨j, i, k, .inr ⟨hi, nmem_of q⟩, .inl ⟨hik, mem_of q3⟩, .inr ⟨hj, nmem_of q2⟩⟩
end
theorem line_fold (pl : Int → Str) (w : List Int) (k : Int) : ∀ (l : List Int) (G : AG), GoodG G →
  GoodG (l.foldl (fun G j => if w.contains j then G else addG G (pl j) [pl k]) G) ∧
  (∀ z, z ∈ namesG (l.foldl (fun G j => if w.contains j then G else addG G (pl j) [pl k]) G) ↔ z ∈ namesG G ∨ ∃ j ∈ l, j ∉ w ∧ (z = pl j ∨ z = pl k)) ∧
  ∀ u z, z ∈ scG (l.foldl (fun G j => if w.contains j then G else addG G (pl j) [pl k]) G) u ↔ z ∈ scG G u ∨ ∃ j ∈ l, j ∉ w ∧ u = pl k ∧ z = pl j
 | [], G, h => ⟨h, by simp, by simp⟩
 | a :: l, G, h => by
  rw [List.foldl_cons]
  by_cases hw : w.contains a = true
  ·rw [if_pos hw]
   obtain ⟨h1, h2, h3⟩ := line_fold pl w k l G h
   have ha := List.contains_iff_mem.mp hw
   refine ⟨h1, fun z => ?_, fun u z => ?_⟩
   ·rw [h2]
    constructor
    ·rintro (h | ⟨j, hj, r⟩)
     ·exact .inl h
     ·exact .inr ⟨j, .tail _ hj, r⟩
    ·rintro (h | ⟨j, hj, r⟩)
     ·exact .inl h
     ·rcases List.mem_cons.mp hj with rfl | hj
      ·exact absurd ha r.1
      ·exact .inr ⟨j, hj, r⟩
   ·rw [h3]
    constructor
    ·rintro (h | ⟨j, hj, r⟩)
     ·exact .inl h
     ·exact .inr ⟨j, .tail _ hj, r⟩
    ·rintro (h | ⟨j, hj, r⟩)
     ·exact .inl h
     ·rcases List.mem_cons.mp hj with rfl | hj
      ·exact absurd ha r.1
      ·exact .inr ⟨j, hj, r⟩
  ·rw [if_neg hw]
   have ha : a ∉ w := fun h => hw (List.contains_iff_mem.mpr h)
   obtain ⟨g1, g2, g3⟩ := addG_good h (pl a) [pl k]
   obtain ⟨h1, h2, h3⟩ := line_fold pl w k l _ g1
   refine ⟨h1, fun z => ?_, fun u z => ?_⟩
   ·rw [h2, g2, List.mem_singleton]
    constructor
    ·rintro ((h | h | h) | ⟨j, hj, r⟩)
     ·exact .inl h
     ·exact .inr ⟨a, .head _, ha, .inl h⟩
     ·exact .inr ⟨a, .head _, ha, .inr h⟩
     ·exact .inr ⟨j, .tail _ hj, r⟩
    ·rintro (h | ⟨j, hj, r⟩)
     ·exact .inl (.inl h)
     ·rcases List.mem_cons.mp hj with rfl | hj
      ·exact .inl (.inr r.2)
      ·exact .inr ⟨j, hj, r⟩
   ·rw [h3, g3, List.mem_singleton]
    constructor
    ·rintro ((h | h) | ⟨j, hj, r⟩)
     ·exact .inl h
     ·exact .inr ⟨a, .head _, ha, h⟩
     ·exact .inr ⟨j, .tail _ hj, r⟩
    ·rintro (h | ⟨j, hj, r⟩)
     ·exact .inl (.inl h)
     ·rcases List.mem_cons.mp hj with rfl | hj
      ·exact .inl (.inr r.2)
      ·exact .inr ⟨j, hj, r⟩
section
variable {N : Nat} {up : Nat → Nat} {rows ws : List (List Int)}
theorem graph_ok (T : Tr N up rows) (W : Wok N up rows ws) (pl : Int → Str) : ∀ i, i ≤ N →
  GoodG (graphN pl rows ws i) ∧ (∀ z, z ∈ namesG (graphN pl rows ws i) ↔ ∃ k : Nat, 1 ≤ k ∧ k ≤ i ∧ z = pl k) ∧
  ∀ u z, z ∈ scG (graphN pl rows ws i) u ↔ ∃ a b : Nat, a ≤ i ∧ b ≤ i ∧ Ed rows ws a b ∧ u = pl a ∧ z = pl b
 | 0, _ => by
  refine ⟨good_nil, fun z => ?_, fun u z => ?_⟩
  ·refine ⟨fun h => (List.not_mem_nil h).elim, ?_⟩
   rintro ⟨k, a, b, _⟩; lia
  ·refine ⟨fun h => (List.not_mem_nil (show z ∈ ([] : List Str) from h)).elim, ?_⟩
   rintro ⟨a, b, ha, hb, h, _⟩
   obtain ⟨a', b', e1, e2, _, _, _, _⟩ := ed_in T h
   lia
 | i + 1, hi => by
  obtain ⟨g1, g2, g3⟩ := graph_ok T W pl i (by lia)
  obtain ⟨k1, k2, k3⟩ := addG_good g1 (pl ((i + 1 : Nat) : Int)) ((wAt ws ((i + 1 : Nat) : Int)).map pl)
  obtain ⟨h1, h2, h3⟩ := line_fold pl (wAt ws ((i + 1 : Nat) : Int)) ((i + 1 : Nat) : Int) (wAt rows ((i + 1 : Nat) : Int)).dropLast _ k1
  have hu := T.lt (i + 1) (by lia) hi
  refine ⟨h1, fun z => ?_, fun u z => ?_⟩
  ·unfold graphN addLine
   rw [h2, k2, g2]
   constructor
   ·rintro ((⟨k, a, b, e⟩ | e | e) | ⟨j, hj, _, e⟩)
    ·exact ⟨k, a, by with_reducible exact Nat.le_succ_of_le (by assumption), e⟩
    ·exact ⟨i + 1, by lia, Nat.le_refl _, e⟩
    ·obtain ⟨j, hj, rfl⟩ := List.mem_map.mp e
     obtain ⟨q, rfl, a, b⟩ := T.mem _ (by lia) j (W.sub (by lia) hi hj)
     exact ⟨q, a, by lia, rfl⟩
    ·obtain ⟨q, rfl, a, b⟩ := T.lt_dl (by lia) hi hj
     rcases e with rfl | rfl
     ·exact ⟨q, a, by with_reducible exact Nat.le_of_lt (by assumption), rfl⟩
     ·exact ⟨i + 1, by lia, Nat.le_refl _, rfl⟩
   ·rintro ⟨k, a, b, rfl⟩
    by_cases e : k = i + 1
    ·subst e; exact .inl (.inr (.inl rfl))
    ·exact .inl (.inl ⟨k, a, by lia, rfl⟩)
  ·unfold graphN addLine
   rw [h3, k3, g3]
   constructor
   ·rintro ((⟨a, b, ha, hb, h, e⟩ | ⟨hm, e⟩) | ⟨j, hj, hw, e1, e2⟩)
    ·exact ⟨a, b, by with_reducible exact Nat.le_succ_of_le (by assumption), by with_reducible exact Nat.le_succ_of_le (by assumption), h, e⟩
    ·obtain ⟨j, hj, rfl⟩ := List.mem_map.mp hm
     have hr := W.sub (by lia) hi hj
     obtain ⟨q, rfl, a, b⟩ := T.mem _ (by lia) j hr
     exact ⟨q, i + 1, by lia, Nat.le_refl _, .inl ⟨by rw [T.dl (by lia) hi]; exact hr, hj⟩, rfl, e⟩
    ·obtain ⟨q, rfl, a, b⟩ := T.lt_dl (by lia) hi hj
     exact ⟨i + 1, q, Nat.le_refl _, by with_reducible exact Nat.le_of_lt (by assumption), .inr ⟨hj, hw⟩, e1, e2⟩
   ·rintro ⟨a, b, ha, hb, h, rfl, rfl⟩
    by_cases e : b = i + 1
    ·subst e
     obtain ⟨hr, hw⟩ := ed_step T W (by lia) hi ha h
     exact .inl (.inr ⟨List.mem_map_of_mem hw, rfl⟩)
    ·by_cases e2 : a = i + 1
     ·subst e2
      obtain ⟨hr, hw⟩ := ed_step' T W (by lia) hi hb h
      exact .inr ⟨_, by rw [T.dl (by lia) hi]; exact hr, hw, rfl, rfl⟩
     ·exact .inl (.inl ⟨a, b, by lia, by lia, h, rfl, rfl⟩)
noncomputable def PlInj (N : Nat) (plain : List Str) : Prop := ∀ j : Nat, j ≤ N → plain.idxOf (plAt plain (j : Int)) = j
structure Told (N : Nat) (rows ws : List (List Int)) (td : List Int) : Prop where
 nd : td.Nodup
 mem : ∀ x, x ∈ td ↔ ∃ k : Nat, x = (k : Int) ∧ 1 ≤ k ∧ k ≤ N
 ord : td.Pairwise (Le rows ws)
theorem pairwise_split {α : Type} {R : α → α → Prop} : ∀ {l : List α}, (∀ pre v post, l = pre ++ v :: post → ∀ b ∈ post, R v b) → l.Pairwise R
 | [], _ => .nil
 | a :: l, h => .cons (fun b hb => h [] a l rfl b hb) (pairwise_split fun pre v post e => h (a :: pre) v post (by rw [e]; rfl))
theorem told_of (T : Tr N up rows) (W : Wok N up rows ws) {plain : List Str} (PI : PlInj N plain) {td : List Str} (hnd : td.Nodup) (hmem : ∀ y, y ∈ td ↔ y ∈ namesG (GGof plain rows ws))
  (hord : ∀ pre v post, td = pre ++ v :: post → ∀ u ∈ namesG (GGof plain rows ws), v ∈ scG (GGof plain rows ws) u → u ∈ pre) : Told N rows ws (td.map fun y => ((plain.idxOf y : Nat) : Int)) := by
 have hN : rows.length - 1 = N := by rw [T.len]; lia
 rw [GGof, hN] at hmem hord
 obtain ⟨g1, g2, g3⟩ := graph_ok T W (plAt plain) N (Nat.le_refl _)
 have hk : ∀ y ∈ td, ∃ k : Nat, 1 ≤ k ∧ k ≤ N ∧ y = plAt plain k ∧ plain.idxOf y = k := fun y hy => by
  obtain ⟨k, a, b, rfl⟩ := (g2 y).mp ((hmem y).mp hy)
  exact ⟨k, a, b, rfl, PI k b⟩
 refine ⟨?_, fun x => ?_, ?_⟩
 ·rw [List.Nodup, List.pairwise_map]
  refine List.Pairwise.imp_of_mem (fun {a b} ha hb h e => h ?_) hnd
  obtain ⟨i, _, _, e1, e2⟩ := hk a ha
  obtain ⟨j, _, _, e3, e4⟩ := hk b hb
  rw [e1, e3, show i = j by lia]
 ·rw [List.mem_map]
  constructor
  ·rintro ⟨y, hy, rfl⟩
   obtain ⟨k, a, b, _, e⟩ := hk y hy
   exact ⟨k, by rw [e], a, b⟩
  ·rintro ⟨k, rfl, a, b⟩
   exact ⟨plAt plain k, (hmem _).mpr ((g2 _).mpr ⟨k, a, b, rfl⟩), by rw [PI k b]⟩
 ·rw [List.pairwise_map]
  refine pairwise_split fun pre v post e b hb hE => ?_
  obtain ⟨i, _, hi, e1, e2⟩ := hk v (by rw [e]; simp)
  obtain ⟨j, _, hj, e3, e4⟩ := hk b (by rw [e]; simp [hb])
  rw [e2, e4] at hE
  have hbp := hord pre v post e b ((hmem b).mp (by rw [e]; simp [hb])) ((g3 b v).mpr ⟨j, i, hj, hi, hE, e3, e1⟩)
  rw [e] at hnd
  exact (List.nodup_append.mp hnd).2.2 b hbp b (.tail _ hb) rfl
theorem ed_irr (T : Tr N up rows) {u : Int} : ¬ Ed rows ws u u := fun h => by
 obtain ⟨a, b, rfl, e2, h1, h2, _, _⟩ := ed_in T h
 rcases h with ⟨h, _⟩ | ⟨h, _⟩
 ·obtain ⟨i, e, _, _⟩ := T.lt_dl h1 h2 h; lia
 ·obtain ⟨i, e, _, _⟩ := T.lt_dl h1 h2 h; lia
theorem Told.lt (T : Tr N up rows) {td : List Int} (K : Told N rows ws td) {u v : Int} (h : Ed rows ws u v) : td.idxOf u < td.idxOf v := by
 obtain ⟨a, b, rfl, rfl, h1, h2, h3, h4⟩ := ed_in T h
 have ha := (K.mem a).mpr ⟨a, rfl, h1, h2⟩
 have hb := (K.mem b).mpr ⟨b, rfl, h3, h4⟩
 have la := List.idxOf_lt_length_iff.mpr ha
 have lb := List.idxOf_lt_length_iff.mpr hb
 have ea : td[td.idxOf (a : Int)] = (a : Int) := by simp
 have eb : td[td.idxOf (b : Int)] = (b : Int) := by simp
 refine Classical.byContradiction fun hn => ?_
 by_cases e : td.idxOf (a : Int) = td.idxOf (b : Int)
 ·have : (a : Int) = (b : Int) := by rw [← ea, ← eb]; congr 1
  rw [this] at h
  exact ed_irr T h
 ·have := List.pairwise_iff_getElem.mp K.ord _ _ lb la (by lia)
  rw [ea, eb] at this
  exact this h
theorem no_told (T : Tr N up rows) (h : ringB rows ws = true) {td : List Int} (K : Told N rows ws td) : False := by
 obtain ⟨a, b, c, h1, h2, h3⟩ := ring_cyc T h
 have := K.lt T h1
 have := K.lt T h2
 have := K.lt T h3
 lia
theorem rows_eq (T : Tr N up rows) (W : Wok N up rows ws) (R : NoR N up rows ws) (dg : Nat → Nat) (hdg : ∀ k, 1 ≤ k → k ≤ N → dg k = (wAt ws (k : Nat)).length) {td : List Int} (K : Told N rows ws td) :
  (rows.map fun line => td.filter fun x => line.contains x) = ordN up dg N := by
 refine wAt_ext (N := N) (by rw [List.length_map, T.len]) (by rw [ordN_length]) fun k hk => ?_
 have e1 : wAt (rows.map fun line => td.filter fun x => line.contains x) (k : Nat) = td.filter fun x => (wAt rows (k : Nat)).contains x := by
  unfold wAt
  rw [List.getD_eq_getElem?_getD, List.getElem?_map, Int.toNat_natCast, List.getD_eq_getElem?_getD, List.getElem?_eq_getElem (by rw [T.len]; lia)]
  rfl
 rw [e1]
 have hp := ord_perm T dg k hk
 have hs := ord_sorted T dg (take_of_nor T W R dg hdg) k hk
 have hq : (td.filter fun x => (wAt rows (k : Nat)).contains x).Perm (wAt rows (k : Nat)) := by
  refine (List.perm_ext_iff_of_nodup (K.nd.filter _) (T.nd hk)).mpr fun x => ?_
  rw [List.mem_filter, List.contains_iff_mem]
  refine ⟨fun h => h.2, fun h => ⟨?_, h⟩⟩
  obtain ⟨i, rfl, a, b⟩ := T.mem k hk x h
  exact (K.mem _).mpr ⟨i, rfl, a, by lia⟩
 refine List.Perm.eq_of_pairwise (le := Le rows ws) (fun a b ha hb h1 h2 => ?_) (K.ord.filter _) hs (hq.trans hp.symm)
 refine Classical.byContradiction fun hne => ?_
 rcases T.total (ws := ws) hk (hq.mem_iff.mp ha) (hp.mem_iff.mp hb) hne with h | h
 ·exact h2 h
 ·exact h1 h
theorem no_path (T : Tr N up rows) (W : Wok N up rows ws) (R : NoR N up rows ws) {plain : List Str} (PI : PlInj N plain) {y : Str} (h : Path (scG (GGof plain rows ws)) y y) : False := by
 have hN : rows.length - 1 = N := by rw [T.len]; lia
 rw [GGof, hN] at h
 obtain ⟨g1, g2, g3⟩ := graph_ok T W (plAt plain) N (Nat.le_refl _)
 obtain ⟨f, hf⟩ := rank_of T W R N (Nat.le_refl _)
 have e : ∀ u z, z ∈ scG (graphN (plAt plain) rows ws N) u → f (plain.idxOf u : Nat) < f (plain.idxOf z : Nat) := fun u z hz => by
  obtain ⟨a, b, ha, hb, hE, rfl, rfl⟩ := (g3 u z).mp hz
  rw [PI a ha, PI b hb]; exact hf a b ha hb hE
 have key : ∀ u z, Path (scG (graphN (plAt plain) rows ws N)) u z → f (plain.idxOf u : Nat) < f (plain.idxOf z : Nat) := fun u z hp => by
  induction hp with
  | one h => exact e _ _ h
  | step _ h ih => exact Nat.lt_trans ih (e _ _ h)
 exact Nat.lt_irrefl _ (key y y h)
theorem kept_true (T : Tr N up rows) (W : Wok N up rows ws) (R : NoR N up rows ws) (dg : Nat → Nat) (hdg : ∀ k, 1 ≤ k → k ≤ N → dg k = (wAt ws (k : Nat)).length) {plain : List Str} (PI : PlInj N plain) {left : Nat} (hl : left = 0) {b : Bool}
  (h : KeptB plain rows ws (ordN up dg N) left b) : b = true := by
 rcases h with ⟨_, y, _, hp⟩ | ⟨td, hnd, hmem, _, hord, rfl⟩
 ·exact (no_path T W R PI hp).elim
 ·have K := told_of T W PI hnd hmem hord
  rw [decide_eq_true hl, decide_eq_true (freed_eq T W R dg hdg), decide_eq_true (rows_eq T W R dg hdg K)]; rfl
end
noncomputable def codeN (ln d : Nat → Nat) : Nat → Nat
 | 0 => 0
 | i + 1 => codeN ln d i * ln (i + 1) + d (i + 1)
noncomputable def prodN (ln : Nat → Nat) : Nat → Nat
 | 0 => 1
 | i + 1 => prodN ln i * ln (i + 1)
theorem codeN_congr {ln d d' : Nat → Nat} : ∀ i, (∀ k, 1 ≤ k → k ≤ i → d k = d' k) → codeN ln d i = codeN ln d' i
 | 0, _ => rfl
 | i + 1, h => by rw [codeN, codeN, codeN_congr i fun k a b => h k a (by with_reducible exact Nat.le_succ_of_le (by assumption)), h (i + 1) (by lia) (Nat.le_refl _)]
theorem codeN_lt {ln d : Nat → Nat} : ∀ i, (∀ k, 1 ≤ k → k ≤ i → d k < ln k) → codeN ln d i < prodN ln i
 | 0, _ => Nat.zero_lt_one
 | i + 1, h => by
  have ih := codeN_lt i fun k a b => h k a (by with_reducible exact Nat.le_succ_of_le (by assumption))
  have hd := h (i + 1) (by lia) (Nat.le_refl _)
  rw [codeN, prodN]
  calc codeN ln d i * ln (i + 1) + d (i + 1) < codeN ln d i * ln (i + 1) + ln (i + 1) := by lia
   _ = (codeN ln d i + 1) * ln (i + 1) := by rw [Nat.succ_mul]
   _ ≤ prodN ln i * ln (i + 1) := Nat.mul_le_mul_right _ ih
theorem prodN_pos {ln : Nat → Nat} : ∀ i, (∀ k, 1 ≤ k → k ≤ i → 0 < ln k) → 0 < prodN ln i
 | 0, _ => Nat.zero_lt_one
 | i + 1, h => Nat.mul_pos (prodN_pos i fun k a b => h k a (by with_reducible exact Nat.le_succ_of_le (by assumption))) (h _ (by lia) (Nat.le_refl _))
theorem prodN_le {ln : Nat → Nat} : ∀ i, (∀ k, 1 ≤ k → k ≤ i → ln k ≤ 6) → prodN ln i ≤ 6 ^ i
 | 0, _ => Nat.le_refl _
 | i + 1, h => by
  rw [prodN, Nat.pow_succ]
  exact Nat.mul_le_mul (prodN_le i fun k a b => h k a (by with_reducible exact Nat.le_succ_of_le (by assumption))) (h _ (by lia) (Nat.le_refl _))
theorem cdn_code {ln d : Nat → Nat} {N : Nat} (h : ∀ k, 1 ≤ k → k ≤ N → d k < ln k) : ∀ i, i ≤ N → cdn ln N (codeN ln d N) i = codeN ln d (N - i)
 | 0, _ => rfl
 | i + 1, hi => by
  rw [cdn, cdn_code h i (by lia)]
  obtain ⟨q, hq⟩ : ∃ q, N - i = q + 1 := ⟨N - i - 1, by lia⟩
  have hd := h (q + 1) (by lia) (by lia)
  rw [hq, show N - (i + 1) = q by with_reducible exact n20 (by assumption), codeN, Nat.mul_comm, Nat.mul_add_div (by lia), Nat.div_eq_of_lt hd, Nat.add_zero]
theorem dgt_code {ln d : Nat → Nat} {N : Nat} (h : ∀ k, 1 ≤ k → k ≤ N → d k < ln k) {k : Nat} (h1 : 1 ≤ k) (hk : k ≤ N) : dgt ln N (codeN ln d N) k = d k := by
 unfold dgt
 rw [cdn_code h _ (by lia), show N - (N - k) = k by lia]
 obtain ⟨q, rfl⟩ : ∃ q, k = q + 1 := ⟨k - 1, by lia⟩
 rw [codeN, Nat.mul_add_mod_self_right, Nat.mod_eq_of_lt (h _ h1 hk)]
theorem cdn_lt {ln : Nat → Nat} {N c : Nat} (hc : c < prodN ln N) : ∀ i, i ≤ N → cdn ln N c i < prodN ln (N - i)
 | 0, _ => hc
 | i + 1, hi => by
  have ih := cdn_lt hc i (by lia)
  obtain ⟨q, hq⟩ : ∃ q, N - i = q + 1 := ⟨N - i - 1, by lia⟩
  rw [hq, prodN, Nat.mul_comm] at ih
  rw [cdn, hq, show N - (i + 1) = q by with_reducible exact n20 (by assumption)]
  exact Nat.div_lt_of_lt_mul ih
theorem cdn_zero {ln : Nat → Nat} {N c : Nat} (hc : c < prodN ln N) : cdn ln N c N = 0 := by
 have := cdn_lt hc N (Nat.le_refl _)
 rw [Nat.sub_self, prodN] at this
 lia
theorem code_dgt {ln : Nat → Nat} {N c : Nat} (hc : c < prodN ln N) : ∀ k, k ≤ N → codeN ln (dgt ln N c) k = cdn ln N c (N - k)
 | 0, _ => (cdn_zero hc).symm
 | k + 1, hk => by
  rw [codeN, code_dgt hc k (by lia), dgt]
  obtain ⟨q, hq⟩ : ∃ q, N - k = q + 1 := ⟨N - k - 1, by lia⟩
  rw [hq, show N - (k + 1) = q by with_reducible exact n20 (by assumption), cdn, show N - q = k + 1 by with_reducible exact n12 (by assumption), Nat.mul_comm, Nat.div_add_mod]
section
variable {N : Nat} {up : Nat → Nat} {rows ws : List (List Int)}
noncomputable abbrev lnR (rows : List (List Int)) : Nat → Nat := fun k => (wAt rows (k : Nat)).length
theorem Tr.ln (T : Tr N up rows) {k : Nat} (h1 : 1 ≤ k) (hk : k ≤ N) : (wAt rows (k : Nat)).length = (wAt rows (up k : Nat)).length + 1 := by
 rw [T.rs k h1 hk, List.length_append]; rfl
theorem Tr.ln_le (T : Tr N up rows) : ∀ k, k ≤ N → (wAt rows (k : Nat)).length ≤ k := by
 refine T.ind (by rw [T.r0]; simp) fun k h1 hk ih => ?_
 have := T.lt k h1 hk
 rw [T.ln h1 hk]; lia
theorem wAt_get {l : List (List Int)} {k : Nat} (h : k < l.length) : l[k]? = some (wAt l (k : Nat)) := by
 rw [wAt, List.getD_eq_getElem?_getD, Int.toNat_natCast, List.getElem?_eq_getElem h]; rfl
theorem code_of (hr : rows.length = N + 1) (hw : ws.length = N + 1) : codeOf rows ws = (codeN (lnR rows) (lnR ws) N : Nat) := by
 have key : ∀ i, i ≤ N → (((rows.zip ws).drop 1).take i).foldl (fun (c : Int) p => c * p.1.length + p.2.length) 0 = (codeN (lnR rows) (lnR ws) i : Nat) := by
  intro i
  induction i with
  | zero => intro _; rfl
  | succ i ih =>
   intro hi
   have e : ((rows.zip ws).drop 1)[i]? = some (wAt rows ((i + 1 : Nat) : Int), wAt ws ((i + 1 : Nat) : Int)) := by
    rw [List.getElem?_drop, Nat.add_comm]
    exact zip_get (wAt_get (by lia)) (wAt_get (by lia))
   rw [List.take_add_one, e, List.foldl_append, ih (by lia)]
   rw [codeN]
   have h0 : ∀ a b c : Nat, (a : Int) * (b : Int) + (c : Int) = ((a * b + c : Nat) : Int) := fun a b c => by rw [Int.natCast_add, Int.natCast_mul]
   exact h0 _ _ _
 have hl : ((rows.zip ws).drop 1).length = N := by rw [List.length_drop, List.length_zip, hr, hw]; lia
 have := key N (Nat.le_refl _)
 rw [List.take_of_length_le (by lia)] at this
 exact this
theorem prod_of (hr : rows.length = N + 1) : prodLen rows = (prodN (lnR rows) N : Nat) := by
 have key : ∀ i, i ≤ N → ((rows.drop 1).take i).foldl (fun (a : Int) r => a * r.length) 1 = (prodN (lnR rows) i : Nat) := by
  intro i
  induction i with
  | zero => intro _; rfl
  | succ i ih =>
   intro hi
   have e : (rows.drop 1)[i]? = some (wAt rows ((i + 1 : Nat) : Int)) := by
    rw [List.getElem?_drop, Nat.add_comm]
    exact wAt_get (by lia)
   rw [List.take_add_one, e, List.foldl_append, ih (by lia)]
   rw [prodN]
   exact (Int.natCast_mul _ _).symm
 have := key N (Nat.le_refl _)
 rw [List.take_of_length_le (by rw [List.length_drop]; lia)] at this
 exact this
theorem Wok.cnt (T : Tr N up rows) (W : Wok N up rows ws) {k : Nat} (h1 : 1 ≤ k) (hk : k ≤ N) : (wAt ws (k : Nat)).length < (wAt rows (k : Nat)).length := by
 rw [T.ln h1 hk, W.2.2 k h1 hk]
 have := List.length_filter_le (fun x => (wAt ws (k : Nat)).contains x) (wAt rows (up k : Nat))
 lia
theorem Wok.row (T : Tr N up rows) (W : Wok N up rows ws) (hN : N ≤ 6) : ∀ r ∈ ws, r.length ≤ 6 ∧ ∀ j ∈ r, 1 ≤ j ∧ j < rows.length := by
 intro r hr
 obtain ⟨k, hk, e⟩ := List.mem_iff_getElem.mp hr
 rw [W.1] at hk
 have e' : wAt ws (k : Nat) = r := by
  have := wAt_get (l := ws) (k := k) (by rw [W.1]; exact hk)
  rw [List.getElem?_eq_getElem (by rw [W.1]; exact hk), e] at this
  exact (Option.some.inj this).symm
 by_cases h0 : k = 0
 ·subst h0; rw [W.2.1] at e'; subst e'; simp
 ·have hu := T.lt k (by lia) (by lia)
  have := W.cnt T (show 1 ≤ k by lia) (by lia)
  have := T.ln_le k (by lia)
  refine ⟨by rw [← e']; lia, fun j hj => ?_⟩
  rw [← e'] at hj
  obtain ⟨i, rfl, a, b⟩ := T.mem _ (by lia) j (W.sub (by lia) (by lia) hj)
  rw [T.len]; lia
theorem Tr.row (T : Tr N up rows) : ∀ r ∈ rows, r.length ≤ N ∧ ∀ j ∈ r, 1 ≤ j ∧ j < rows.length := by
 intro r hr
 obtain ⟨k, hk, e⟩ := List.mem_iff_getElem.mp hr
 have hk' := hk
 rw [T.len] at hk'
 have e' : wAt rows (k : Nat) = r := by
  have := wAt_get (l := rows) (k := k) hk
  rw [List.getElem?_eq_getElem hk, e] at this
  exact (Option.some.inj this).symm
 have := T.ln_le k (by lia)
 refine ⟨by rw [← e']; lia, fun j hj => ?_⟩
 rw [← e'] at hj
 obtain ⟨i, rfl, a, b⟩ := T.mem k (by lia) j hj
 rw [T.len]; lia
theorem ord_row (T : Tr N up rows) (hN : N ≤ 6) (dg : Nat → Nat) : ∀ r ∈ ordN up dg N, r.length ≤ 7 := by
 intro r hr
 obtain ⟨k, hk, e⟩ := List.mem_iff_getElem.mp hr
 have hk' := hk
 rw [ordN_length] at hk'
 have e' : wAt (ordN up dg N) (k : Nat) = r := by
  have := wAt_get (l := ordN up dg N) (k := k) hk
  rw [List.getElem?_eq_getElem hk, e] at this
  exact (Option.some.inj this).symm
 have h1 := (ord_perm T dg k (by lia)).length_eq
 have h2 := T.ln_le k (by lia)
 rw [← e']; lia
theorem ord_in (T : Tr N up rows) (dg : Nat → Nat) : ∀ i : Nat, i + 1 < rows.length → ((i + 1 : Nat) : Int) ∈ wAt (ordN up dg N) ((i + 1 : Nat) : Int) := by
 intro i hi
 rw [T.len] at hi
 exact (ord_perm T dg (i + 1) (by lia)).mem_iff.mpr (T.self (by lia) (by lia))
theorem web_kept (T : Tr N up rows) (hN : N ≤ 6) (W : Wok N up rows ws) {plain : List Str} (PI : PlInj N plain) (hR : ringB rows ws = false) :
  ∃ code : Nat, codeOf rows ws = (code : Nat) ∧ code < prodN (lnR rows) N ∧ ∀ b, KeptB plain rows ws (ordN up (dgt (lnR rows) N code) N) (cdn (lnR rows) N code N) b → b = true := by
 have hd : ∀ k, 1 ≤ k → k ≤ N → lnR ws k < lnR rows k := fun k a b => W.cnt T a b
 have hc := codeN_lt N hd
 refine ⟨_, code_of T.len W.1, hc, fun b h => ?_⟩
 exact kept_true T W (ring_nor T W hR) _ (fun k a b => dgt_code hd a b) PI (cdn_zero hc) h
theorem drawn_kept (T : Tr N up rows) (hN : N ≤ 6) {plain : List Str} (PI : PlInj N plain) {code : Nat} (hc : code < prodN (lnR rows) N) :
  cdn (lnR rows) N code N = 0 ∧ Wok N up rows (freedOf rows (ordN up (dgt (lnR rows) N code) N)) ∧ codeOf rows (freedOf rows (ordN up (dgt (lnR rows) N code) N)) = (code : Nat) ∧
   ∀ b, KeptB plain rows (freedOf rows (ordN up (dgt (lnR rows) N code) N)) (ordN up (dgt (lnR rows) N code) N) 0 b → b = true := by
 have hd : ∀ k, 1 ≤ k → k ≤ N → lnR (freedOf rows (ordN up (dgt (lnR rows) N code) N)) k = dgt (lnR rows) N code k := fun k a b => by
  refine freed_cnt T _ a b ?_
  have e := T.ln a b
  have : dgt (lnR rows) N code k < lnR rows k := Nat.mod_lt _ (by show 0 < (wAt rows (k : Nat)).length; lia)
  have : dgt (lnR rows) N code k < (wAt rows (k : Nat)).length := this
  lia
 have W := freed_wok T (dgt (lnR rows) N code)
 refine ⟨cdn_zero hc, W, ?_, fun b h => ?_⟩
 ·rw [code_of T.len W.1, codeN_congr N hd, code_dgt hc N (Nat.le_refl _), Nat.sub_self]; rfl
 ·exact kept_true T W (freed_nor T _) _ (fun k a b => (hd k a b).symm) PI rfl h
theorem Tr.prod (T : Tr N up rows) (hN : N ≤ 6) : 0 < prodN (lnR rows) N ∧ prodN (lnR rows) N < 2 ^ 20 := by
 refine ⟨prodN_pos N fun k a b => by have e := T.ln a b; show 0 < (wAt rows (k : Nat)).length; lia, ?_⟩
 have h1 := prodN_le (ln := lnR rows) N fun k a b => Nat.le_trans (T.ln_le k b) (by lia)
 have h2 : 6 ^ N ≤ 6 ^ 6 := Nat.pow_le_pow_right (by decide) hN
 have h3 : 6 ^ 6 < 2 ^ 20 := by decide
 lia
end
noncomputable abbrev upK (ns : List Int) : Nat → Nat := fun k => upT ns (k - 1)
theorem linesN_at (ns : List Int) : ∀ N k, k ≤ N → wAt (linesN ns N) (k : Nat) = wAt (linesN ns k) (k : Nat)
 | 0, k, h => by rw [show k = 0 by lia]
 | N + 1, k, h => by
  by_cases e : k = N + 1
  ·rw [e]
  ·rw [← linesN_at ns N k (by lia), linesN, wAt, List.getD_eq_getElem?_getD, List.getElem?_append_left (by rw [linesN_length]; lia), ← List.getD_eq_getElem?_getD]; rfl
theorem linesN_tr (ns : List Int) (N : Nat) : Tr N (upK ns) (linesN ns N) := by
 refine ⟨linesN_length ns N, by rw [linesN_at ns N 0 (by lia)]; rfl, fun k h1 hk => ?_, fun k h1 hk => ?_⟩
 ·have := (upT_le ns (k - 1)).1
  show upT ns (k - 1) < k
  lia
 ·obtain ⟨i, rfl⟩ : ∃ i, k = i + 1 := ⟨k - 1, by lia⟩
  have hu := (upT_le ns i).1
  show _ = wAt (linesN ns N) ((upT ns i : Nat) : Int) ++ _
  rw [linesN_at ns N _ hk, linesN_at ns N (upT ns i) (by lia), ← linesN_at ns i (upT ns i) (by with_reducible assumption), linesN]
  have hl := linesN_length ns i
  rw [wAt, List.getD_eq_getElem?_getD, List.getElem?_append_right (by lia), hl, show ((i + 1 : Nat) : Int).toNat - (i + 1) = 0 by lia]
  rfl
theorem heldOf_sub (b : Nat → Bool) : ∀ (l : List Int) (p : Nat), (heldOf b p l).Sublist l
 | [], _ => .slnil
 | j :: js, p => by
  rw [heldOf]
  by_cases h : b p = true
  ·rw [if_pos h]; exact (heldOf_sub b js (p + 1)).cons_cons j
  ·rw [if_neg h]; exact (heldOf_sub b js (p + 1)).cons j
theorem sub_filter {s l : List Int} (h : s.Sublist l) : l.Nodup → l.filter (fun x => s.contains x) = s := by
 induction h with
 | slnil => intro _; rfl
 | cons a h ih =>
  intro nd
  have nd' := List.nodup_cons.mp nd
  rw [List.filter_cons, if_neg fun hc => nd'.1 (h.subset (List.contains_iff_mem.mp hc)), ih nd'.2]
 | @cons_cons s l a h ih =>
  intro nd
  have nd' := List.nodup_cons.mp nd
  rw [List.filter_cons, if_pos (List.contains_iff_mem.mpr (.head _))]
  congr 1
  refine Eq.trans (List.filter_congr fun x hx => ?_) (ih nd'.2)
  have : x ≠ a := fun e => nd'.1 (e ▸ hx)
  simp [List.contains_cons, this]
theorem waitsGo_length (b : Nat → Bool) : ∀ (rs : List (List Int)) (p : Nat), (waitsGo b p rs).length = rs.length
 | [], _ => rfl
 | r :: rs, p => by rw [waitsGo, List.length_cons, List.length_cons, waitsGo_length]
theorem waitsGo_get (b : Nat → Bool) : ∀ (rs : List (List Int)) (p i : Nat) (r : List Int), rs[i]? = some r → ∃ q, (waitsGo b p rs)[i]? = some (heldOf b q r.dropLast)
 | [], _, _, _, h => by simp at h
 | r :: rs, p, 0, x, h => by
  simp only [List.getElem?_cons_zero, Option.some.injEq] at h
  subst h; exact ⟨p, rfl⟩
 | r :: rs, p, i + 1, x, h => by
  rw [List.getElem?_cons_succ] at h
  obtain ⟨q, e⟩ := waitsGo_get b rs (p + r.dropLast.length) i x h
  exact ⟨q, by rw [waitsGo, List.getElem?_cons_succ, e]⟩
section
variable {N : Nat} {up : Nat → Nat} {rows ws : List (List Int)}
theorem waits_wok (T : Tr N up rows) (b : Nat → Bool) : Wok N up rows (waitsOf b rows) := by
 refine ⟨by rw [waitsOf, List.length_cons, waitsGo_length, List.length_drop, T.len]; lia, rfl, fun k h1 hk => ?_⟩
 obtain ⟨i, rfl⟩ : ∃ i, k = i + 1 := ⟨k - 1, by lia⟩
 have hg : (rows.drop 1)[i]? = some (wAt rows ((i + 1 : Nat) : Int)) := by
  rw [List.getElem?_drop, Nat.add_comm]; exact wAt_get (by rw [T.len]; lia)
 obtain ⟨q, e⟩ := waitsGo_get b (rows.drop 1) 0 i _ hg
 have e2 : wAt (waitsOf b rows) ((i + 1 : Nat) : Int) = heldOf b q (wAt rows (up (i + 1) : Nat)) := by
  rw [wAt, waitsOf, List.getD_eq_getElem?_getD, show ((i + 1 : Nat) : Int).toNat = i + 1 by lia, List.getElem?_cons_succ, e, T.dl h1 hk]; rfl
 have hu := T.lt _ h1 hk
 rw [e2]
 exact (sub_filter (heldOf_sub b _ q) (T.nd (by lia))).symm
noncomputable def triN : Nat → Nat
 | 0 => 0
 | i + 1 => triN i + i
theorem tri_mono {a b : Nat} (h : a ≤ b) : triN a ≤ triN b := by
 induction h with
 | refl => exact Nat.le_refl _
 | step _ ih => exact Nat.le_trans ih (Nat.le_add_right _ _)
theorem places_tr (T : Tr N up rows) (hN : N ≤ 6) : places (rows.drop 1) ≤ 15 := by
 have key : ∀ i, i ≤ N → places ((rows.drop 1).take i) ≤ triN i := by
  intro i
  induction i with
  | zero => intro _; exact Nat.le_refl _
  | succ i ih =>
   intro hi
   have hg : (rows.drop 1)[i]? = some (wAt rows ((i + 1 : Nat) : Int)) := by
    rw [List.getElem?_drop, Nat.add_comm]; exact wAt_get (by rw [T.len]; lia)
   rw [places_take _ _ _ hg, triN]
   have h1 := ih (by lia)
   have h2 := T.ln_le (i + 1) hi
   rw [List.length_dropLast]
   lia
 have := key N (Nat.le_refl _)
 rw [List.take_of_length_le (by rw [List.length_drop, T.len]; lia)] at this
 exact Nat.le_trans this (tri_mono hN)
end
end
section
open PyProof.Rows.TI
open PySem PySem.W PyProof.Rows PySem.Calls PyProof.Rows.TI PySem.Builtin.Str
noncomputable abbrev Free (x : Str) : Prop := (47 : Nat) ∉ x.cps.toList
theorem slash_eq : slash = ⟨#[47]⟩ := by decide +kernel
theorem slash_cps : slash.cps.toList = [47] := by rw [slash_eq]
theorem cps_app (a b : Str) : (a ++ b).cps.toList = a.cps.toList ++ b.cps.toList := by
 show (a.cps ++ b.cps).toList = _
 rw [Array.toList_append]
theorem str_ext {a b : Str} (h : a.cps.toList = b.cps.toList) : a = b := by
 cases a; cases b; congr 1; exact Array.toList_inj.mp h
theorem app_assoc (a b c : Str) : a ++ b ++ c = a ++ (b ++ c) := by
 apply str_ext; simp only [cps_app, List.append_assoc]
theorem empty_app (a : Str) : (Str.empty ++ a) = a := by
 apply str_ext; rw [cps_app]; rfl
theorem app_empty (a : Str) : (a ++ Str.empty) = a := by
 apply str_ext; rw [cps_app]; exact List.append_nil _
theorem free_cut {x y : List Nat} (hx : (47 : Nat) ∉ x) (hy : (47 : Nat) ∉ y) : ∀ {r s : List Nat}, x ++ 47 :: r = y ++ 47 :: s → x = y ∧ r = s := by
 induction x generalizing y with
 | nil =>
  intro r s h
  cases y with
  | nil => exact ⟨rfl, (List.cons.inj h).2⟩
  | cons b y => exact absurd ((List.cons.inj h).1 ▸ List.mem_cons_self) hy
 | cons a x ih =>
  intro r s h
  cases y with
  | nil => exact absurd ((List.cons.inj h).1 ▸ List.mem_cons_self) hx
  | cons b y =>
   obtain ⟨e, h⟩ := List.cons.inj h
   obtain ⟨e1, e2⟩ := ih (fun h => hx (.tail _ h)) (fun h => hy (.tail _ h)) h
   exact ⟨by rw [e, e1], e2⟩
theorem join_one (sep p : Str) : Str.join sep [p] = p := rfl
theorem join_two (sep p q : Str) (r : List Str) : Str.join sep (p :: q :: r) = p ++ sep ++ Str.join sep (q :: r) := rfl
theorem join_inj : ∀ {ps qs : List Str}, ps ≠ [] → qs ≠ [] → (∀ p ∈ ps, Free p) → (∀ q ∈ qs, Free q) → Str.join slash ps = Str.join slash qs → ps = qs
 | [], _, h, _, _, _, _ => absurd rfl h
 | _, [], _, h, _, _, _ => absurd rfl h
 | [p], [q], _, _, _, _, h => by rw [show p = q from h]
 | [p], q :: q' :: r, _, _, hp, hq, h => by
  have hp0 := hp p (.head _)
  rw [show p = q ++ slash ++ Str.join slash (q' :: r) from h, Free, cps_app, cps_app, slash_cps] at hp0
  exact absurd (by simp) hp0
 | p :: p' :: r, [q], _, _, hp, hq, h => by
  have hq0 := hq q (.head _)
  rw [show q = p ++ slash ++ Str.join slash (p' :: r) from h.symm, Free, cps_app, cps_app, slash_cps] at hq0
  exact absurd (by simp) hq0
 | p :: p' :: r, q :: q' :: r', _, _, hp, hq, h => by
  rw [join_two, join_two] at h
  have h' := congrArg (fun x : Str => x.cps.toList) h
  simp only [cps_app, slash_cps, List.append_assoc, List.singleton_append] at h'
  obtain ⟨e1, e2⟩ := free_cut (hp p (.head _)) (hq q (.head _)) h'
  rw [str_ext e1, join_inj (List.cons_ne_nil _ _) (List.cons_ne_nil _ _) (fun x hx => hp x (.tail _ hx)) (fun x hx => hq x (.tail _ hx)) (str_ext e2)]
theorem split_join {ps : List Str} (h : ps ≠ []) (hp : ∀ p ∈ ps, Free p) : Txt.split (Str.join slash ps) slash = ps := by
 have h1 := split_pos (Str.join slash ps) slash
 refine join_inj (fun e => by rw [e] at h1; simp at h1) h (fun p hm => ?_) hp (StrLaws.join_split _ _)
 rw [slash_eq] at hm
 exact StrLaws.split_free _ 47 p hm
theorem join_app : ∀ {ps qs : List Str}, ps ≠ [] → qs ≠ [] → Str.join slash (ps ++ qs) = Str.join slash ps ++ slash ++ Str.join slash qs
 | [], _, h, _ => absurd rfl h
 | [p], q :: r, _, _ => rfl
 | [p], [], _, h => absurd rfl h
 | p :: p' :: r, qs, _, hq => by
  rw [List.cons_append, List.cons_append, join_two, ← List.cons_append, join_app (List.cons_ne_nil _ _) hq, join_two]
  simp only [app_assoc]
theorem ends_free {a n : Str} (hn : Free n) (h0 : n.cps.toList ≠ []) : Txt.endswith (a ++ n) slash = false := by
 cases q : Txt.endswith (a ++ n) slash with
 | false => rfl
 | true =>
  exfalso
  unfold Txt.endswith subAt at q
  rw [Bool.and_eq_true] at q
  have q2 := eq_of_beq q.2
  have hl : 1 ≤ (a ++ n).cps.size := by
   have : (a ++ n).cps.size = (a ++ n).cps.toList.length := rfl
   rw [this, cps_app, List.length_append]
   have : 0 < n.cps.toList.length := List.length_pos_iff.mpr h0
   lia
  have e : slash.length = 1 := by rw [slash_eq]; rfl
  rw [e] at q2
  have q3 := congrArg Array.toList q2
  rw [slash_cps, Array.toList_extract] at q3
  have hm : (47 : Nat) ∈ ((a ++ n).cps.toList.drop ((a ++ n).cps.toList.length - 1)) := by
   have : (47 : Nat) ∈ ((a ++ n).cps.toList.extract ((a ++ n).length - 1) ((a ++ n).length - 1 + 1)) := by rw [q3]; simp
   rw [List.extract_eq_take_drop] at this
   exact List.mem_of_mem_take this
  rw [cps_app, List.length_append, List.drop_append] at hm
  have hpos : 0 < n.cps.toList.length := List.length_pos_iff.mpr h0
  rw [List.drop_eq_nil_of_le (by lia), List.nil_append] at hm
  exact hn (List.mem_of_mem_drop hm)
theorem starts_slash (r : Str) : Txt.startswith (slash ++ r) slash = true := by
 unfold Txt.startswith subAt
 have e : slash.length = 1 := by rw [slash_eq]; rfl
 have hs : (slash ++ r).cps.toList = 47 :: r.cps.toList := by rw [cps_app, slash_cps]; rfl
 rw [Bool.and_eq_true]
 constructor
 ·rw [decide_eq_true_eq, e]
  show 0 + 1 ≤ (slash ++ r).cps.toList.length
  rw [hs]; simp
 ·rw [e, beq_iff_eq]
  apply Array.toList_inj.mp
  rw [Array.toList_extract, hs, slash_cps]
  rfl
noncomputable def shr (rows : List (List Int)) (j k : Int) : List Int := (wAt rows j).filter fun x => (wAt rows k).contains x
noncomputable def nmJ (j : Int) : Str := sAt namesL (j.toNat - 1)
noncomputable def keepC (c : Str) : Bool := c.length != 0 && c != dotS
theorem names_ok : ∀ i : Fin 6, Free (sAt namesL i) ∧ (sAt namesL i).cps.toList ≠ [] ∧ keepC (sAt namesL i) = true := by decide +kernel
theorem names_inj : ∀ i j : Fin 6, sAt namesL i = sAt namesL j → i = j := by decide +kernel
theorem starts_ok : ∀ (p : Fin 3) (i : Fin 6), Txt.startswith (sAt preL p ++ sAt namesL i) slash = false := by decide +kernel
noncomputable def partsB (p i : Nat) : List Str := match p with
 | 0 => [sAt namesL i]
 | 1 => [dotS, sAt namesL i]
 | _ => [dotS, Str.empty, sAt namesL i]
theorem parts_ok : ∀ (p : Fin 3) (i : Fin 6), sAt preL p ++ sAt namesL i = Str.join slash (partsB p i) ∧ (∀ x ∈ partsB p i, Free x) ∧ (partsB p i).filter keepC = [sAt namesL i] ∧ partsB p i ≠ [] := by decide +kernel
theorem nmJ_inj {i j : Nat} (hi : 1 ≤ i) (hi6 : i ≤ 6) (hj : 1 ≤ j) (hj6 : j ≤ 6) (h : nmJ i = nmJ j) : i = j := by
 have := names_inj ⟨i - 1, by lia⟩ ⟨j - 1, by lia⟩ h
 have := Fin.mk.inj this
 lia
theorem nmJ_ok {i : Nat} (hi : 1 ≤ i) (hi6 : i ≤ 6) : Free (nmJ i) ∧ (nmJ i).cps.toList ≠ [] ∧ keepC (nmJ i) = true := names_ok ⟨i - 1, by lia⟩
theorem sAt_app {l : List Str} {x : Str} {i k : Nat} (hl : l.length = i + 1) (hk : k ≤ i) : sAt (l ++ [x]) k = sAt l k := by
 unfold sAt
 rw [List.getD_eq_getElem?_getD, List.getElem?_append_left (by lia), ← List.getD_eq_getElem?_getD]
theorem sAt_last {l : List Str} {x : Str} {i : Nat} (hl : l.length = i + 1) : sAt (l ++ [x]) (i + 1) = x := by
 unfold sAt
 rw [List.getD_eq_getElem?_getD, List.getElem?_append_right (by lia), hl, Nat.sub_self]; rfl
theorem plainN_at (ns : List Int) : ∀ N k, k ≤ N → sAt (plainN ns N) k = sAt (plainN ns k) k
 | 0, k, h => by rw [show k = 0 by lia]
 | N + 1, k, h => by
  by_cases e : k = N + 1
  ·rw [e]
  ·rw [← plainN_at ns N k (by lia), plainN, sAt_app (plainN_length ns N) (by lia)]
theorem crookN_at (ns : List Int) : ∀ N k, k ≤ N → sAt (crookN ns N) k = sAt (crookN ns k) k
 | 0, k, h => by rw [show k = 0 by lia]
 | N + 1, k, h => by
  by_cases e : k = N + 1
  ·rw [e]
  ·rw [← crookN_at ns N k (by lia), crookN, sAt_app (crookN_length ns N) (by lia)]
theorem plainN_step (ns : List Int) (N i : Nat) (h : i + 1 ≤ N) : sAt (plainN ns N) (i + 1) = sAt (plainN ns N) (upT ns i) ++ slash ++ sAt namesL i := by
 have hu := (upT_le ns i).1
 rw [plainN_at ns N _ h, plainN_at ns N (upT ns i) (by lia), ← plainN_at ns i (upT ns i) (by with_reducible assumption), plainN, sAt_last (plainN_length ns i)]
theorem crookN_step (ns : List Int) (N i : Nat) (h : i + 1 ≤ N) : sAt (crookN ns N) (i + 1) = pjoin (sAt (crookN ns N) (upT ns i)) (sAt preL (preT ns i) ++ sAt namesL i) := by
 have hu := (upT_le ns i).1
 rw [crookN_at ns N _ h, crookN_at ns N (upT ns i) (by lia), ← crookN_at ns i (upT ns i) (by with_reducible assumption), crookN, sAt_last (crookN_length ns i)]
section
variable {ns : List Int} {N : Nat}
theorem row_nat (hN : N ≤ 6) {k : Nat} (hk : k ≤ N) {j : Int} (h : j ∈ wAt (linesN ns N) (k : Nat)) : ∃ i : Nat, j = (i : Int) ∧ 1 ≤ i ∧ i ≤ 6 := by
 obtain ⟨i, e, a, b⟩ := (linesN_tr ns N).mem k hk j h
 exact ⟨i, e, a, by lia⟩
theorem names_free (hN : N ≤ 6) {k : Nat} (hk : k ≤ N) : ∀ p ∈ Str.empty :: (wAt (linesN ns N) (k : Nat)).map nmJ, Free p := by
 intro p hp
 rcases List.mem_cons.mp hp with rfl | hp
 ·exact (by decide +kernel : Free Str.empty)
 ·obtain ⟨j, hj, rfl⟩ := List.mem_map.mp hp
  obtain ⟨i, rfl, a, b⟩ := row_nat hN hk hj
  exact (nmJ_ok a b).1
theorem plain_is (hN : N ≤ 6) : ∀ k, k ≤ N → sAt (plainN ns N) k = Str.join slash (Str.empty :: (wAt (linesN ns N) (k : Nat)).map nmJ) := by
 have T := linesN_tr ns N
 refine T.ind ?_ fun k h1 hk ih => ?_
 ·rw [T.r0, plainN_at ns N 0 (by lia)]; show ("" : Str) = Str.empty; decide +kernel
 ·obtain ⟨i, rfl⟩ : ∃ i, k = i + 1 := ⟨k - 1, by lia⟩
  have ih' : sAt (plainN ns N) (upT ns i) = Str.join slash (Str.empty :: (wAt (linesN ns N) ((upT ns i : Nat) : Int)).map nmJ) := ih
  rw [plainN_step ns N i hk, ih', T.rs _ h1 hk, List.map_append, ← List.cons_append, join_app (List.cons_ne_nil _ _) (by simp)]
  rfl
theorem map_inj {f : Int → Str} {a b : List Int} (hf : ∀ x ∈ a, ∀ y ∈ b, f x = f y → x = y) (h : a.map f = b.map f) : a = b := by
 induction a generalizing b with
 | nil => cases b with
  | nil => rfl
  | cons => cases h
 | cons x a ih => cases b with
  | nil => cases h
  | cons y b =>
   rw [List.map_cons, List.map_cons, List.cons.injEq] at h
   rw [hf x (.head _) y (.head _) h.1, ih (fun u hu v hv => hf u (.tail _ hu) v (.tail _ hv)) h.2]
theorem row_inj (T : Tr N (upK ns) (linesN ns N)) {i j : Nat} (hi : i ≤ N) (hj : j ≤ N) (h : wAt (linesN ns N) (i : Nat) = wAt (linesN ns N) (j : Nat)) : i = j := by
 have key : ∀ a b : Nat, a ≤ N → b ≤ N → wAt (linesN ns N) (a : Nat) = wAt (linesN ns N) (b : Nat) → a ≤ b := fun a b ha hb e => by
  by_cases h0 : a = 0
  ·lia
  ·have := T.self (k := a) (by lia) ha
   rw [e] at this
   obtain ⟨q, e2, _, hq⟩ := T.mem b hb _ this
   lia
 have := key i j hi hj h
 have := key j i hj hi h.symm
 lia
theorem plain_inj (hN : N ≤ 6) : PlInj N (plainN ns N) := by
 have T := linesN_tr ns N
 have hl := plainN_length ns N
 have nd : (plainN ns N).Nodup := by
  rw [List.Nodup, List.pairwise_iff_getElem]
  intro i j hi hj hij e
  have e1 : sAt (plainN ns N) i = sAt (plainN ns N) j := by
   unfold sAt
   rw [List.getD_eq_getElem?_getD, List.getD_eq_getElem?_getD, List.getElem?_eq_getElem hi, List.getElem?_eq_getElem hj, e]
  rw [plain_is hN i (by lia), plain_is hN j (by lia)] at e1
  have e2 := join_inj (List.cons_ne_nil _ _) (List.cons_ne_nil _ _) (names_free hN (by lia)) (names_free hN (by lia)) e1
  have e3 := map_inj (fun x hx y hy h => by
   obtain ⟨a, rfl, a1, a2⟩ := row_nat hN (by lia) hx
   obtain ⟨b, rfl, b1, b2⟩ := row_nat hN (by lia) hy
   rw [nmJ_inj a1 a2 b1 b2 h]) (List.cons.inj e2).2
  have := row_inj T (by lia) (by lia) e3
  lia
 intro j hj
 have hlt : j < (plainN ns N).length := by lia
 have : plAt (plainN ns N) (j : Int) = (plainN ns N)[j] := by
  unfold plAt sAt
  rw [Int.toNat_natCast, List.getD_eq_getElem?_getD, List.getElem?_eq_getElem hlt]; rfl
 rw [this]
 exact nd.idxOf_getElem j hlt
theorem crook_is (hN : N ≤ 6) : ∀ k, k ≤ N → ∃ qs : List Str, (k = 0 → sAt (crookN ns N) k = slash ∧ qs = []) ∧ (1 ≤ k → sAt (crookN ns N) k = Str.join slash (Str.empty :: qs) ∧ qs ≠ [] ∧ Txt.endswith (sAt (crookN ns N) k) slash = false) ∧
  (∀ q ∈ qs, Free q) ∧ qs.filter keepC = (wAt (linesN ns N) (k : Nat)).map nmJ := by
 have T := linesN_tr ns N
 refine T.ind ⟨[], fun _ => ⟨by rw [crookN_at ns N 0 (by lia)]; rfl, rfl⟩, fun h => absurd h (by lia), by simp, by rw [T.r0]; rfl⟩ fun k h1 hk ih => ?_
 obtain ⟨i, rfl⟩ : ∃ i, k = i + 1 := ⟨k - 1, by lia⟩
 have hu := (upT_le ns i).1
 have hp := (preT_lt ns i).1
 obtain ⟨b1, b2, b3, b4⟩ := parts_ok ⟨preT ns i, hp⟩ ⟨i, by lia⟩
 have hst := starts_ok ⟨preT ns i, hp⟩ ⟨i, by lia⟩
 obtain ⟨n1, n2, n3⟩ := names_ok ⟨i, by lia⟩
 simp only at b1 b2 b3 b4 hst n1 n2 n3
 obtain ⟨qs, q0, q1, q2, q3⟩ := ih
 have q0 : upT ns i = 0 → sAt (crookN ns N) (upT ns i) = slash ∧ qs = [] := q0
 have q1 : 1 ≤ upT ns i → sAt (crookN ns N) (upT ns i) = Str.join slash (Str.empty :: qs) ∧ qs ≠ [] ∧ Txt.endswith (sAt (crookN ns N) (upT ns i)) slash = false := q1
 have q3 : qs.filter keepC = (wAt (linesN ns N) ((upT ns i : Nat) : Int)).map nmJ := q3
 refine ⟨qs ++ partsB (preT ns i) i, fun h => absurd h (by lia), fun _ => ?_, fun q hq => ?_, ?_⟩
 ·have hne : qs ++ partsB (preT ns i) i ≠ [] := fun e => b4 (List.append_eq_nil_iff.mp e).2
  rw [crookN_step ns N i hk]
  unfold pjoin
  by_cases h0 : upT ns i = 0
  ·obtain ⟨e1, e2⟩ := q0 h0
   rw [e1, hst, e2, if_neg (by decide +kernel), if_pos (by decide +kernel), List.nil_append]
   refine ⟨?_, b4, ?_⟩
   ·rw [b1, show Str.empty :: partsB (preT ns i) i = [Str.empty] ++ partsB (preT ns i) i from rfl, join_app (by simp) b4, join_one, empty_app]
   ·rw [← app_assoc]; exact ends_free n1 n2
  ·obtain ⟨e1, e2, e3⟩ := q1 (by lia)
   have hl : (sAt (crookN ns N) (upT ns i)).length ≠ 0 := by
    rw [e1]
    cases qs with
    | nil => exact absurd rfl e2
    | cons q r =>
     rw [join_two, slen, slen, show slash.length = 1 by rw [slash_eq]; rfl]; lia
   rw [hst, if_neg (by simpa using hl), e3, if_neg (by decide)]
   refine ⟨?_, hne, ?_⟩
   ·rw [e1, b1, ← List.cons_append, join_app (List.cons_ne_nil _ _) b4, app_assoc]
   ·rw [← app_assoc, ← app_assoc]; exact ends_free n1 n2
 ·rcases List.mem_append.mp hq with h | h
  ·exact q2 q h
  ·exact b2 q h
 ·rw [List.filter_append, q3, b3, T.rs _ h1 hk, List.map_append]
  rfl
theorem comps_is (hN : N ≤ 6) {k : Nat} (h1 : 1 ≤ k) (hk : k ≤ N) : compsS (sAt (crookN ns N) k) = (wAt (linesN ns N) (k : Nat)).map nmJ := by
 obtain ⟨qs, _, q1, q2, q3⟩ := crook_is (ns := ns) hN k hk
 obtain ⟨e1, _, _⟩ := q1 h1
 have hfree : ∀ q ∈ Str.empty :: qs, Free q := fun q hq => by
  rcases List.mem_cons.mp hq with rfl | hq
  ·exact (by decide +kernel : Free Str.empty)
  ·exact q2 q hq
 unfold compsS
 rw [e1, split_join (List.cons_ne_nil _ _) hfree]
 show (Str.empty :: qs).filter keepC = _
 rw [List.filter_cons, if_neg (by decide +kernel), q3]
theorem crook_abs (hN : N ≤ 6) {k : Nat} (hk : k ≤ N) : Txt.startswith (sAt (crookN ns N) k) slash = true := by
 obtain ⟨qs, q0, q1, q2, q3⟩ := crook_is (ns := ns) hN k hk
 by_cases h0 : k = 0
 ·rw [(q0 h0).1]; decide +kernel
 ·obtain ⟨e1, e2, _⟩ := q1 (by lia)
  rw [e1]
  cases qs with
  | nil => exact absurd rfl e2
  | cons q r => rw [join_two, empty_app]; exact starts_slash _
theorem comPre_app : ∀ (a xs ys : List Str), comPre (a ++ xs) (a ++ ys) = a ++ comPre xs ys
 | [], _, _ => rfl
 | x :: a, xs, ys => by
  rw [List.cons_append, List.cons_append, comPre, if_pos (by simp), comPre_app a xs ys, List.cons_append]
theorem comPre_nil {xs ys : List Str} (h : ∀ a ∈ xs.head?, ∀ b ∈ ys.head?, a ≠ b) : comPre xs ys = [] := by
 cases xs with
 | nil => rfl
 | cons x xs =>
  cases ys with
  | nil => rfl
  | cons y ys => rw [comPre, if_neg (by simpa using h x rfl y rfl)]
theorem shr_is (T : Tr N (upK ns) (linesN ns N)) {j k : Nat} (hj : j ≤ N) (hk : k ≤ N) : ∃ i t t', i ≤ N ∧ shr (linesN ns N) j k = wAt (linesN ns N) ((i : Nat) : Int) ∧ wAt (linesN ns N) (j : Nat) = wAt (linesN ns N) ((i : Nat) : Int) ++ t ∧
  wAt (linesN ns N) (k : Nat) = wAt (linesN ns N) ((i : Nat) : Int) ++ t' ∧ ∀ x ∈ t, x ∉ wAt (linesN ns N) (k : Nat) := by
 rcases List.eq_nil_or_concat (shr (linesN ns N) j k) with hs | ⟨pre, z, hs⟩
 ·refine ⟨0, wAt (linesN ns N) (j : Nat), wAt (linesN ns N) (k : Nat), by lia, by rw [hs, T.r0], by rw [T.r0]; rfl, by rw [T.r0]; rfl, fun x hx hxk => ?_⟩
  have : x ∈ shr (linesN ns N) j k := List.mem_filter.mpr ⟨hx, List.contains_iff_mem.mpr hxk⟩
  rw [hs] at this; cases this
 ·have hz : z ∈ shr (linesN ns N) j k := by rw [hs]; simp
  obtain ⟨hzj, hzk⟩ := List.mem_filter.mp hz
  rw [List.contains_iff_mem] at hzk
  obtain ⟨i, rfl, hi1, hi2⟩ := T.mem j hj z hzj
  obtain ⟨t, e⟩ := T.pre j hj i hzj
  obtain ⟨t', e'⟩ := T.pre k hk i hzk
  have inc := T.inc j hj
  have hself := T.self hi1 (show i ≤ N by lia)
  have hnot : ∀ x ∈ t, x ∉ wAt (linesN ns N) (k : Nat) := fun x hx hxk => by
   have hsi : (shr (linesN ns N) j k).Pairwise (· < ·) := inc.filter _
   have hxs : x ∈ shr (linesN ns N) j k := List.mem_filter.mpr ⟨by rw [e]; exact List.mem_append_right _ hx, List.contains_iff_mem.mpr hxk⟩
   rw [hs, List.concat_eq_append] at hsi hxs
   rw [e] at inc
   have h1 := (List.pairwise_append.mp inc).2.2 _ hself _ hx
   rcases List.mem_append.mp hxs with h | h
   ·have := (List.pairwise_append.mp hsi).2.2 _ h _ (List.mem_singleton.mpr rfl)
    lia
   ·rw [List.mem_singleton] at h; lia
  refine ⟨i, t, t', by lia, ?_, e, e', hnot⟩
  unfold shr
  rw [e, List.filter_append, List.filter_eq_self.mpr fun x hx => List.contains_iff_mem.mpr (by rw [e']; exact List.mem_append_left _ hx),
   List.filter_eq_nil_iff.mpr fun x hx hc => hnot x hx (List.contains_iff_mem.mp hc), List.append_nil]
theorem path_is (hN : N ≤ 6) {j k : Nat} (h1 : 1 ≤ j) (hjk : j < k) (hk : k ≤ N) : cpath (sAt (crookN ns N) j) (sAt (crookN ns N) k) =
  (match (shr (linesN ns N) j k).getLast? with | some i => sAt (plainN ns N) i.toNat | none => slash) := by
 have T := linesN_tr ns N
 obtain ⟨i, t, t', hi, hs, e, e', hnot⟩ := shr_is T (show j ≤ N by lia) hk
 unfold cpath
 rw [comps_is hN h1 (by lia), comps_is hN (by lia) hk, hs, show Txt.join slash = Str.join slash from funext fun l => StrLaws.glued_eq_join slash l]
 have hc : comPre ((wAt (linesN ns N) (j : Nat)).map nmJ) ((wAt (linesN ns N) (k : Nat)).map nmJ) = (wAt (linesN ns N) ((i : Nat) : Int)).map nmJ := by
  rw [e, e', List.map_append, List.map_append, comPre_app, comPre_nil, List.append_nil]
  intro a ha b hb hab
  cases t with
  | nil => simp at ha
  | cons x t =>
   cases t' with
   | nil => simp at hb
   | cons y t' =>
    simp only [List.map_cons, List.head?_cons, Option.mem_def, Option.some.injEq] at ha hb
    have hx : x ∈ wAt (linesN ns N) (j : Nat) := by rw [e]; simp
    have hy : y ∈ wAt (linesN ns N) (k : Nat) := by rw [e']; simp
    obtain ⟨a', rfl, a1, a2⟩ := row_nat hN (by lia) hx
    obtain ⟨b', rfl, b1, b2⟩ := row_nat hN hk hy
    rw [← ha, ← hb] at hab
    have := nmJ_inj a1 a2 b1 b2 hab
    subst this
    exact hnot _ (.head _) hy
 rw [hc]
 by_cases h0 : i = 0
 ·subst h0
  rw [T.r0]
  show slash ++ Str.empty = slash
  exact app_empty _
 ·have hself := T.rs i (by lia) hi
  rw [hself, List.getLast?_append]
  show _ = sAt (plainN ns N) ((i : Nat) : Int).toNat
  rw [Int.toNat_natCast, plain_is hN i hi, ← hself]
  cases hq : (wAt (linesN ns N) ((i : Nat) : Int)).map nmJ with
  | nil => rw [hself] at hq; simp at hq
  | cons a r => rw [join_two, empty_app]
end
end
section
open PyProof.Rows.TI
structure PureLaw (ns : List Int) : Prop where
 cnt : 3 ≤ cntT ns ∧ cntT ns ≤ 6
 rows : ∀ r ∈ linesN ns (cntT ns), r.length ≤ 7 ∧ ∀ j ∈ r, 1 ≤ j ∧ j < (linesN ns (cntT ns)).length
 crk : ∀ x ∈ crookN ns (cntT ns), x.length ≤ 300
 abs : ∀ k : Nat, k ≤ cntT ns → Txt.startswith (sAt (crookN ns (cntT ns)) k) slash = true
 path : ∀ j k : Nat, 1 ≤ j → j < k → k ≤ cntT ns → cpath (sAt (crookN ns (cntT ns)) j) (sAt (crookN ns (cntT ns)) k) =
  (match (shr (linesN ns (cntT ns)) j k).getLast? with | some i => sAt (plainN ns (cntT ns)) i.toNat | none => slash)
 tree : Tr (cntT ns) (upK ns) (linesN ns (cntT ns))
 inj : PlInj (cntT ns) (plainN ns (cntT ns))
theorem pure_law (ns : List Int) : PureLaw ns := by
 have h4 := Int.emod_nonneg ns.sum (show (4 : Int) ≠ 0 by decide)
 have h5 := Int.emod_lt_of_pos ns.sum (show (0 : Int) < 4 by decide)
 have hc : 3 ≤ cntT ns ∧ cntT ns ≤ 6 := by unfold cntT; lia
 have T := linesN_tr ns (cntT ns)
 refine ⟨hc, fun r hr => ⟨by have := (T.row r hr).1; lia, (T.row r hr).2⟩, fun x hx => by have := crookN_len ns _ x hx; lia, fun k hk => crook_abs hc.2 hk, fun j k h1 hjk hk => path_is hc.2 h1 hjk hk, T, plain_inj hc.2⟩
theorem q_and3 {M : Model} {A : Around} {E : VP} {s : Shared} {env : Env} {x y z : Expr} {pos : Pos} {Q : VP} (h : WP M A (eval x env) (fun v s_1 => WP M A (truthy v) (fun t s_2 => if t then WP M A (eval (.BoolOp .And [y, z] pos) env) Q E s_2 else Q v s_2) E s_1) E s) :
  WP M A (eval (.BoolOp .And [x, y, z] pos) env) Q E s := by
 have h1 : wpAny M A (eval x env) (fun v s_1 => wpAny M A (truthy v) (fun t s_2 => if t then wpAny M A (eval (.BoolOp .And [y, z] pos) env) Q E s_2 else Q v s_2) E s_1) E s :=
  wpAny_mono h.run (fun v s_1 h_1 => wpAny_mono h_1.run (fun b s_2 h_2 => by cases b <;> first | exact h_2.run | exact h_2) fun _ _ e => e) fun _ _ e => e
 refine ⟨?_⟩
 show wpAny M A (do
  let v ← eval x env
  standAt pos
  let t ← holding [v] (truthy v)
  match BoolOp.And, t with
  | .And, false | .Or, true => pure v
  | _, _ => eval (.BoolOp .And [y, z] pos) env) Q E s
 refine wpAny_bind (wpAny_mono h1 (fun v s_1 h_1 => wpAny_bind (wpAny_standAt (wpAny_bind (wpAny_holding (wpAny_mono h_1 (fun t s_2 h_2 => ?_) fun _ _ x => x))))) fun _ _ x => x)
 cases t with
 | false => exact wpAny_pure h_2
 | true => exact h_2
theorem Tb.tab {P : Addr} {qual : Str} {ln co : Nat} {tb : LD} (h : Tb P qual ln co tb) : ∃ ps, (P, tabObj ps) ∈ tb := by
 cases h with
 | new => exact ⟨_, .head _⟩
 | made _ _ => exact ⟨_, .head _⟩
noncomputable abbrev tabsL : List (Addr × Addr) := [(161, 157), (168, 164)]
theorem tabs_at {w : World} {h : Heap} (X : (hK w.params).In h) (K : ∀ P ∈ ([164, 157] : List Addr), h.get? P = some (tabObj #[])) : TabsAt tabsL h := by
 intro q hq
 simp only [List.mem_cons, List.not_mem_nil, or_false] at hq
 rcases hq with rfl | rfl
 ·exact ⟨codeHd_of_K X (hd161 w), K _ (by simp)⟩
 ·exact ⟨codeHd_of_K X (hd168 w), K _ (by simp)⟩
theorem holds_of : PySem.Challenge.rw_rt0104_01.Holds :=
 holds_law said fun said' => holds_open (r := PySem.Challenge.rw_rt0104_01.row) (q := vw) (loose := lse) (Xt := XT) (XP := XL vw []) (Yf := HK.obs) (Ya := HK.val) (YP := HK.says) (N := 2400) left HK.of HK.keeps
  (fun s e => xl_of s (Bool.and_eq_true_iff.mp e).1) XL.keeps (by rfl) (by rfl) (by rfl) (fun s e => recFacts_of (Bool.and_eq_true_iff.mp e).2) (by rfl) said' (by decide +kernel) ⟨rfl, rfl, rfl, rfl, rfl, by decide +kernel⟩ (by w_witness2) (by
 have kf : PySem.Challenge.rw_rt0104_01 = PySem.Challenge.rw_rt0104_01 ∧ hK = hK := by k_fill; exact ⟨rfl, rfl⟩
 clear kf
 intro w s0 s_1 mg mb G Y fa o pm cd doc dV kV ho hd hcd hD hmg hg args vals as hpre hlay hrd hwl hlo
 have KX := km_in_of Y
 have KT := km_tabs_of Y
 refine Ground.open G ?_
 intro T B D TE TW
 clear hmg
 wrow_args hpre hlay hrd hwl hlo
 refine enter_call ?_
 rename_i ns _ _ _ _ _ _ _ sa svs _ hL _ _ _ hI _ h63 _
 obtain rfl := Dflts.pos_none hD rfl
 obtain rfl := Dflts.kw_none hD rfl
 dsimp only [docDef] at hd
 refine kn_post (tabs_at KX KT) (fun _ _ => rfl) ?_
 refine law_enter KX (by kernel_rfl) T (tabs_at KX KT) (by decide) ["script", "above", "plain", "crooked", "j", "shared", "waits", "code", "orders", "left", "freed"] [.ref sa] [some (.ref sa), none, none, none, none, none, none, none, none, none, none] [("_law_tree", .ref 289), ("range", .type "range"), ("len", .builtin "len"), ("commonpath", .ref 282), ("_law_waits", .ref 296), ("_law_ring", .ref 303), ("_law_run", .ref 308), ("_law_kept", .ref 332), ("sum", .builtin "sum"), ("_law_size", .ref 339), ("_law_orders", .ref 322), ("_law_freed", .ref 327), ("_law_code", .ref 315)]
  [("script", .ref sa)] [] (fun n => [("k", n + 1), ("lines", n)]) ho hd hcd (by decide) (BindsTo.of_eq rfl) (Nat.le_of_ble_eq_true rfl) rfl rfl rfl (by decide +kernel) (fun n => rfl) (by decide) rfl (fun n x hx => by
   rw [List.mem_singleton.mp hx]; exact .inl rfl) rfl rfl rfl fun n env' s_2 cells C Cc Y S => ?_
 clear T B D TE TW hd hcd ho hD said'
 refine byG fun GG hGG => ?_
 obtain ⟨oK, oN, rfl, hoK, hoN⟩ := Y.two
 refine hGG ?_
 clear hGG GG
 replace hoK : oK.data = .cell none := hoK
 replace hoN : oN.data = .cell none := hoN
 have fK := Cc.at (x := "k") (c := n + 1) (by simp)
 have fN := Cc.at (x := "lines") (c := n) (by simp)
 have lK : env'.cells.lookup ("k" : Str) = some (n + 1) := by rw [Cc.cells]; exact rfl
 have lN : env'.cells.lookup ("lines" : Str) = some n := by rw [Cc.cells]; exact rfl
 have hD : (callerA.deeper env').depth = callerA.depth + 1 := rfl
 have hdep : (callerA.deeper env').depth + 200 < recursionLimit := by rw [hD]; decide
 have hU : (callerA.deeper env').units = 7 := rfl
 have hsa : (ghostOf s_1.heap tabsL).IsList sa svs.toArray := ghost_list (tabs_at KX KT) hL
 replace S : Stt s_1 (ghostOf s_1.heap tabsL) env'.locals (lcs ["script", "above", "plain", "crooked", "j", "shared", "waits", "code", "orders", "left", "freed"] [some (.ref sa), none, none, none, none, none, none, none, none, none, none]) [(n + 1, oK), (n, oN), (157, tabObj #[]), (164, tabObj #[])] s_2 := S
 generalize hg' : ghostOf s_1.heap tabsL = g' at *
 have hns63 : ns.length ≤ 63 := by lia
 refine q_abs fun RR hRR => ?_
 refine q_cons <| q_unpack4 C.hh <| q_call <| q_glob C S (by walk_at "mem") <| q_cwK C S (by k_is) <| q_ic <| q_name C S (by walk_at "lk") <| q_i0 ⟨⟨_, _, _, S⟩, tree_spec C.X C S (by with_reducible exact n36 (by assumption) (by decide)) (hsa.at fun o e => S.base e) hI hns63 fun r av lv pv cv nw s3 S_3 hr hav hlv hpv hcv =>
  ⟨_, _, _, _, _, _, _, _, _, _, rfl, S_3, S_3.get (List.mem_append_left _ hr), fun s4 S4 _ => ?_⟩⟩
 have P := pure_law ns
 have hN := P.cnt
 generalize hNN : cntT ns = N at *
 have hProws := P.rows
 have hPcrk := P.crk
 have hPabs := P.abs
 have hPpath := P.path
 have TT := P.tree
 have PI := P.inj
 rw [hNN] at hProws hPcrk hPabs hPpath TT PI
 have hrl := linesN_length ns N
 have hpl := plainN_length ns N
 have hcl := crookN_length ns N
 have hlv0 := hlv
 have hpv0 := hpv
 refine byG fun GG hGG => ?_
 obtain ⟨la, lvs, ln, rfl, hlm, hlall⟩ := hlv
 obtain ⟨pa, pvs, pn, rfl, hpm, hpall⟩ := hpv
 obtain ⟨ra, cvs, cn, rfl, hcm, hcall⟩ := hcv
 refine hGG ?_
 clear hGG GG
 have hlen := hlall.length
 refine q_store C S4 (by walk_at "up") fun s5 S5 => ?_
 refine byG fun GG hGG => ?_
 obtain ⟨R_0, hR_0⟩ : ∃ R_0, R_0 = (157, tabObj #[]) :: (164, tabObj #[]) :: nw := ⟨_, rfl⟩
 refine hGG ?_
 clear hGG GG
 have S6 := S5.perm (news' := (n, oN) :: (n + 1, oK) :: R_0) (by
  rw [hR_0]
  exact ((List.Perm.swap _ _ _).trans (List.perm_append_comm (l₁ := [(n + 1, oK), (n, oN), (157, tabObj #[]), (164, tabObj #[])]) (l₂ := nw))))
 have mnw : ∀ {a o}, (a, o) ∈ nw → (a, o) ∈ R_0 := fun h => by rw [hR_0]; exact .tail _ (.tail _ h)
 refine q_storeX0 S6 hoN fN lN fun oN' s7 hoN' S7 => q_store C S7 (by walk_at "up") fun s8 S8 => q_store C S8 (by walk_at "up") fun s9 S9 => ?_
 replace S9 := S9.perm (news' := (n + 1, oK) :: (n, oN') :: R_0) (List.Perm.swap _ _ _)
 refine q_cons <| q_forRX C fK lK <| q_call <| q_glob C S9 (by walk_at "mem") <| q_cwT <| q_ic <| q_int S9 fun t_1 s10 S10 => q_ic <| q_call <| q_glob C S10 (by walk_at "mem") <| q_cwB <| q_ic <| q_nameX S10 hoN' (.tail _ (.head _)) fN lN <| q_i0 <|
  q_len S10 (S10.get (.tail _ (.tail _ (mnw hlm)))) (by lia) fun t_2 s11 S11 _ => q_i0 <| q_range2 S11 fun rg t u v s12 S12 => ?_
 refine ⟨s_1, rg, 1, ((lvs.length : Nat) : Int), N, _, _, _, fun i m r => Ex2 fun uj us => And (r = (n, oN') :: R_0) (m = lcs ["script", "above", "plain", "crooked", "j", "shared", "waits", "code", "orders", "left", "freed"] [some (.ref sa), some av, some (.ref pa), some (.ref ra), uj, us, none, none, none, none, none]), _, _, oK, none, rfl, hoK, S12.sub (List.sublist_cons_self _ _), S12.get (.head _), ⟨by lia, by lia, by lia, by lia⟩, ⟨none, none, rfl, rfl⟩, ?_, ?_⟩
 ·rintro i tk m1 r_1 I it oK1 s13 hi ⟨uj, us, rfl, rfl⟩ hoK1 S13
  rw [show (1 : Int) + (i : Int) = ((i + 1 : Nat) : Int) by lia] at hoK1
  obtain ⟨K, hK⟩ : ∃ K : Nat, K = i + 1 := ⟨_, rfl⟩
  rw [← hK] at hoK1
  refine q_cons <| q_forR C (by walk_at "mem") <| q_call <| q_glob C S13 (by walk_at "mem") <| q_cwT <| q_ic <| q_int S13 fun t_3 s14 S14 => q_ic <| q_nameX S14 hoK1 (.tail _ (.head _)) fK lK <| q_i0 <| q_range2 S14 fun rg2 t u v s15 S15 => ?_
  refine ⟨s_1, rg2, 1, (K : Int), i, _, _, _, fun z m r => Ex2 fun uj us => And (r = (I, it) :: (n + 1, oK1) :: (n, oN') :: R_0) (m = lcs ["script", "above", "plain", "crooked", "j", "shared", "waits", "code", "orders", "left", "freed"] [some (.ref sa), some av, some (.ref pa), some (.ref ra), uj, us, none, none, none, none, none]), _, _, rfl, S15.sub (List.sublist_cons_self _ _), S15.get (.head _), ⟨by lia, by lia, by lia, by lia⟩, ⟨_, _, rfl, rfl⟩, ?_, ?_⟩
  ·rintro z tz m2 r_2 I2 it2 s16 hz ⟨uj, us, rfl, rfl⟩ S16
   rw [show (1 : Int) + (z : Int) = ((z + 1 : Nat) : Int) by lia] at S16
   obtain ⟨J, hJ⟩ : ∃ J : Nat, J = z + 1 := ⟨_, rfl⟩
   rw [← hJ, (show Up "j" (some (.int (J : Int) tz)) ["script", "above", "plain", "crooked", "j", "shared", "waits", "code", "orders", "left", "freed"] _ [some (.ref sa), some av, some (.ref pa), some (.ref ra), some (.int (J : Int) tz), us, none, none, none, none, none] by walk_at "up").eq C.nd] at S16
   refine byG fun GG hGG => ?_
   obtain ⟨_, hjv, ja, jvs, jn, rfl, hjm, hjall⟩ := hlall.at (k := (J : Int)) (by exact Int.natCast_nonneg _) (by lia)
   obtain ⟨_, hkv, ka, kvs, kn, rfl, hkm, hkall⟩ := hlall.at (k := (K : Int)) (by exact Int.natCast_nonneg _) (by lia)
   refine hGG ?_
   clear hGG GG
   have hj7 := (hProws _ (wAt_mem' (l := linesN ns N) (k := (J : Int)) (by exact Int.natCast_nonneg _) (by lia))).1
   have hjl := hjall.length
   refine byG fun GG hGG => ?_
   obtain ⟨R_2, hR_2⟩ : ∃ R_2, R_2 = (I2, it2) :: (I, it) :: (n + 1, oK1) :: (n, oN') :: R_0 := ⟨_, rfl⟩
   refine hGG ?_
   clear hGG GG
   rw [← hR_2] at S16
   have mR : ∀ {a o}, (a, o) ∈ nw → (a, o) ∈ R_2 := fun h => by rw [hR_2]; exact .tail _ (.tail _ (.tail _ (.tail _ (mnw h))))
   have mK : (n + 1, oK1) ∈ R_2 := by rw [hR_2]; exact .tail _ (.tail _ (.head _))
   have mN : (n, oN') ∈ R_2 := by rw [hR_2]; exact .tail _ (.tail _ (.tail _ (.head _)))
   refine q_cons <| q_acomp C (cl := [("lines", n), ("k", n + 1)]) (closureFor_eq Cc.cells rfl) (by walk_at "mem") <| q_sub <| q_nameX S16 hoN' mN fN lN <| q_name C S16 (by walk_at "lk") <| q_item (S16.get (mR hlm)) (by exact Int.natCast_nonneg _) (by lia) hjv
    ⟨s_1, _, fun q ys r => r = R_2 ∧ All2 Vi ys (((wAt (linesN ns N) (J : Int)).take q).filter fun x => (wAt (linesN ns N) (K : Int)).contains x), _, src_seq (lo := W.listOf jvs.toArray jn) C.hh ⟨.inl rfl, _, rfl⟩ S16 (.inr ?_) (Nat.le_trans (show jvs.length ≤ 7 by lia) (by decide)) ⟨rfl, .nil⟩ ?_, fun D ys r s17 hJ hyl S17 => ?_⟩
   ·rintro q ys r ⟨rfl, _⟩; exact mR hjm
   ·rintro q v hv ys r_1 I_3 it_3 Cq oCq mCq D s17 ⟨rfl, hys⟩ hyl hoCq hm S17
    obtain ⟨c, hc, tc, rfl⟩ := hjall.get' hv
    refine q_tests1 <| q_tcmp <| q_nameO S17 hoCq hm (.tail _ (.head _)) <| q_sub <| q_nameC S17 hoN' (.tail _ (.tail _ (.tail _ mN))) fN <| q_nameC S17 hoK1 (.tail _ (.tail _ (.tail _ mK))) fK <| q_item (S17.get (.tail _ (.tail _ (.tail _ (mR hlm))))) (by exact Int.natCast_nonneg _) (by lia) hkv <| q_in (S17.get (.tail _ (.tail _ (.tail _ (mR hkm))))) hkall <| q_tbool ?_
    have step : ((wAt (linesN ns N) (J : Int)).take (q + 1)).filter (fun x => (wAt (linesN ns N) (K : Int)).contains x) = ((wAt (linesN ns N) (J : Int)).take q).filter (fun x => (wAt (linesN ns N) (K : Int)).contains x) ++ (if (wAt (linesN ns N) (K : Int)).contains c then [c] else []) := by
     rw [List.take_add_one, hc, List.filter_append]
     congr 1
     show List.filter _ [c] = _
     rw [List.filter_cons, List.filter_nil]
    cases hb : (wAt (linesN ns N) (K : Int)).contains c with
    | false =>
     refine if_n (by decide) ?_
     refine ⟨_, S17, rfl, ?_⟩
     rw [step, hb, if_neg (by decide), List.append_nil]
     exact hys
    | true =>
     refine if_p rfl ?_
     refine q_nameO S17 hoCq hm (.tail _ (.head _)) ⟨_, S17, rfl, ?_⟩
     rw [step, hb, if_pos rfl]
     exact hys.snoc ⟨_, rfl⟩
   obtain ⟨hr2, hys⟩ := hJ
   rw [hr2] at S17
   rw [hjl, List.take_length] at hys
   replace hys : All2 Vi ys (shr (linesN ns N) J K) := hys
   have hysl := hys.length
   have hsl : (shr (linesN ns N) J K).length ≤ 7 := Nat.le_trans (List.length_filter_le _ _) hj7
   rw [(show Up "shared" (some (.ref D)) ["script", "above", "plain", "crooked", "j", "shared", "waits", "code", "orders", "left", "freed"] _ [some (.ref sa), some av, some (.ref pa), some (.ref ra), some (.int (J : Int) tz), some (.ref D), none, none, none, none, none] by walk_at "up").eq C.nd] at S17
   refine byG fun GG hGG => ?_
   obtain ⟨_, hcj, tcj, rfl⟩ := hcall.get (i := J) (b := sAt (crookN ns N) J) (by rw [sAt, List.getD_eq_getElem?_getD, List.getElem?_eq_getElem (by lia)]; rfl)
   obtain ⟨_, hck, tck, rfl⟩ := hcall.get (i := K) (b := sAt (crookN ns N) K) (by rw [sAt, List.getD_eq_getElem?_getD, List.getElem?_eq_getElem (by lia)]; rfl)
   refine hGG ?_
   clear hGG GG
   have hcp := hPpath J K (by lia) (by lia) (by lia)
   refine q_cons <| q_if <| q_tcmp <| q_call <| q_glob C S17 (by walk_at "mem") <| q_cwK C S17 (by k_is) <| q_ic <| q_list <| q_ic <| q_sub <| q_name C S17 (by walk_at "lk") <| q_name C S17 (by walk_at "lk") <| q_item (S17.get (.tail _ (mR hcm))) (by exact Int.natCast_nonneg _) (by lia) (by rw [Int.toNat_natCast]; exact hcj) <|
    q_ic <| q_sub <| q_name C S17 (by walk_at "lk") <| q_nameX S17 hoK1 (.tail _ mK) fK lK <| q_item (S17.get (.tail _ (mR hcm))) (by exact Int.natCast_nonneg _) (by lia) (by rw [Int.toNat_natCast]; exact hck) <| q_i0 ⟨_, _, _, _, S17, Nat.le_of_ble_eq_true rfl, fun al s18 S18 =>
    q_i0 ⟨⟨_, _, _, S18⟩, compath_spec C.X C S18 (by with_reducible exact n36 (by assumption) (by decide)) (by rw [hU]; decide) (.head _) (hPcrk _ (sAt_mem (by lia))) (hPcrk _ (sAt_mem (by lia))) (hPabs _ (by lia)) (hPabs _ (by lia)) fun tp s19 S19 =>
     q_ifexp <| q_tval <| q_name C S19 (by walk_at "lk") <| q_truthy S19 (S19.get (.tail _ (.head _))) (by lia) fun s20 S20 _ => ?_⟩⟩
   have out : ∀ {s' : Shared} {r'}, Stt s_1 g' env'.locals (lcs ["script", "above", "plain", "crooked", "j", "shared", "waits", "code", "orders", "left", "freed"] [some (.ref sa), some av, some (.ref pa), some (.ref ra), some (.int (J : Int) tz), some (.ref D), none, none, none, none, none]) (r' :: (D, lst ys) :: R_2) s' →
     Ex2 fun m r => And (Stt s_1 g' env'.locals m ((I2, it2) :: r) s') (Ex2 fun uj us => And (r = (I, it) :: (n + 1, oK1) :: (n, oN') :: R_0) (m = lcs ["script", "above", "plain", "crooked", "j", "shared", "waits", "code", "orders", "left", "freed"] [some (.ref sa), some av, some (.ref pa), some (.ref ra), uj, us, none, none, none, none, none])) := fun {s' r'} S' =>
    ⟨_, _, by have h := (S'.sub (List.sublist_cons_self _ _)).sub (List.sublist_cons_self _ _); rw [hR_2] at h; exact h, _, _, rfl, rfl⟩
   rcases List.eq_nil_or_concat (shr (linesN ns N) J K) with hsh | ⟨pre, i', hsh⟩
   ·rw [hsh] at hcp hysl
    replace hcp : cpath (sAt (crookN ns N) J) (sAt (crookN ns N) K) = slash := hcp
    have hye : ys = [] := List.eq_nil_of_length_eq_zero hysl
    refine if_n (by rw [hye]; simp) ?_
    refine q_str S20 fun t21 s21 S21 => q_nes <| q_tbool ?_
    rw [hcp, if_neg (by show ¬ (slash != slash) = true; simp)]
    exact q_nil <| q_nil (out S21)
   ·rw [List.concat_eq_append] at hsh
    have hi1 : i' ∈ wAt (linesN ns N) (J : Int) := (List.mem_filter.mp (show i' ∈ shr (linesN ns N) J K by rw [hsh]; simp)).1
    have hib := (hProws _ (wAt_mem' (l := linesN ns N) (k := (J : Int)) (by exact Int.natCast_nonneg _) (by lia))).2 i' hi1
    rw [hsh] at hcp hysl hys hsl
    have hsl2 : pre.length + 1 ≤ 7 := by simpa using hsl
    have hysl2 : ys.length = pre.length + 1 := by simpa using hysl
    refine byG fun GG hGG => ?_
    obtain ⟨_, hyv, ty, rfl⟩ := hys.get (i := pre.length) (b := i') (by simp)
    obtain ⟨_, hpv, tpv, rfl⟩ := hpall.get (i := i'.toNat) (b := sAt (plainN ns N) i'.toNat) (by rw [sAt, List.getD_eq_getElem?_getD, List.getElem?_eq_getElem (by lia)]; rfl)
    refine hGG ?_
    clear hGG GG
    replace hcp : cpath (sAt (crookN ns N) J) (sAt (crookN ns N) K) = sAt (plainN ns N) i'.toNat := by rw [hcp, List.getLast?_append]; rfl
    refine if_p (by cases ys with | nil => simp at hysl2 | cons _ _ => rfl) ?_
    refine q_sub <| q_name C S20 (by walk_at "lk") <| q_sub <| q_name C S20 (by walk_at "lk") <| q_unop <| q_int S20 fun t21 s21 S21 => q_neg S21 fun t22 s22 S22 =>
     q_itemNeg (S22.get (.tail _ (.head _))) (by lia) (by lia) (by lia) (by rw [show ((-1 : Int) + (ys.length : Int)).toNat = pre.length by with_reducible exact n25 (by assumption)]; exact hyv) <| q_item (S22.get (.tail _ (.tail _ (mR hpm)))) (by lia) (by lia) hpv <| q_nes <| q_tbool ?_
    rw [hcp, if_neg (by simp)]
    exact q_nil <| q_nil (out S22)
  ·rintro m2 r_2 s16 ⟨uj, us, rfl, rfl⟩ S16
   exact q_nil ⟨_, _, oK1, _, hoK1, S16, _, _, rfl, rfl⟩
 ·rintro m1 r_1 oK1 v0 s13 ⟨uj, us, rfl, rfl⟩ hoK1 S13
  clear S12 S11 S10 S9 S8 S7 S6 S5 S4 S_3 S hPcrk hPabs hPpath
  have hrn : (linesN ns N).length = N + 1 := TT.len
  have hr7 : ∀ r ∈ linesN ns N, r.length ≤ 7 := fun r h => (hProws r h).1
  have W := waits_wok TT (bitOf ns)
  have hw0 := W.1
  have hwr := W.row TT hN.2
  have hup : ∀ k, 1 ≤ k → k ≤ N → upK ns k < k ∧ (wAt (linesN ns N) (k : Nat)).length = (wAt (linesN ns N) (upK ns k : Nat)).length + 1 := fun k a b => ⟨TT.lt k a b, TT.ln a b⟩
  have h0 : (wAt (linesN ns N) (0 : Nat)).length = 0 := by rw [TT.r0]; rfl
  have hpr := TT.prod hN.2
  refine byG fun GG hGG => ?_
  obtain ⟨ta, hta⟩ : ∃ ta, ta = [((157 : Addr), tabObj #[])] := ⟨_, rfl⟩
  obtain ⟨tb, htb⟩ : ∃ tb, tb = [((164 : Addr), tabObj #[])] := ⟨_, rfl⟩
  refine hGG ?_
  clear hGG GG
  have hTa : Tb 157 "_int2digits.<locals>.inner" 153 4 ta := by rw [hta]; exact .new
  have hTb : Tb 164 "_digits2int.<locals>.inner" 168 4 tb := by rw [htb]; exact .new
  refine byG fun GG hGG => ?_
  obtain ⟨R_1, hR_1⟩ : ∃ R_1, R_1 = (n + 1, oK1) :: (n, oN') :: nw := ⟨_, rfl⟩
  refine hGG ?_
  clear hGG GG
  have S14 := S13.perm (news' := (ta ++ tb) ++ R_1) (by
   rw [hta, htb, hR_1, hR_0]; exact List.perm_append_comm_assoc [_, _] [_, _] nw)
  have mN1 : (n, oN') ∈ R_1 := by rw [hR_1]; exact .tail _ (.head _)
  have mnw1 : ∀ {a o}, (a, o) ∈ nw → (a, o) ∈ R_1 := fun h => by rw [hR_1]; exact .tail _ (.tail _ h)
  refine q_cons <| q_assign <| q_call <| q_glob C S14 (by walk_at "mem") <| q_cwK C S14 (by k_is) <| q_ic <| q_name C S14 (by walk_at "lk") <| q_ic <| q_nameX S14 hoN' (List.mem_append_right _ mN1) fN lN <| q_i0 ⟨⟨_, _, _, S14⟩,
   waits_spec C.X C S14 (by with_reducible exact n36 (by assumption) (by decide)) (hsa.at fun o e => S14.base e) hI hns63 (hlv0.up fun _ _ h => S14.get (List.mem_append_right _ (mnw1 h))) (by lia) (by lia) hr7 (places_tr TT hN.2) fun wv nww s15 S15 hwv => q_store C S15 (by walk_at "up") fun s16 S16 => ?_⟩
  obtain ⟨R_2, hR_2⟩ : ∃ R_2, R_2 = nww ++ R_1 := ⟨_, rfl⟩
  replace S16 := S16.perm (news' := (ta ++ tb) ++ R_2) (by rw [hR_2]; exact List.perm_append_comm_assoc _ _ _)
  have mN2 : (n, oN') ∈ R_2 := by rw [hR_2]; exact List.mem_append_right _ mN1
  have mnw2 : ∀ {a o}, (a, o) ∈ nw → (a, o) ∈ R_2 := fun h => by rw [hR_2]; exact List.mem_append_right _ (mnw1 h)
  have mww2 : ∀ {a o}, (a, o) ∈ nww → (a, o) ∈ R_2 := fun h => by rw [hR_2]; exact List.mem_append_left _ h
  generalize hws : waitsOf (bitOf ns) (linesN ns N) = ws at *
  refine q_cons <| q_cut (fun f s' => f = .next ∧ ∃ ta' tb' nw3, Tb 157 "_int2digits.<locals>.inner" 153 4 ta' ∧ Tb 164 "_digits2int.<locals>.inner" 168 4 tb' ∧
   Stt s_1 g' env'.locals (lcs ["script", "above", "plain", "crooked", "j", "shared", "waits", "code", "orders", "left", "freed"] [some (.ref sa), some av, some (.ref pa), some (.ref ra), uj, us, some wv, none, none, none, none]) ((ta' ++ tb') ++ (nw3 ++ R_2)) s') ?_ ?_
  ·refine q_if <| q_tval <| q_call <| q_glob C S16 (by walk_at "mem") <| q_cwK C S16 (by k_is) <| q_ic <| q_nameX S16 hoN' (List.mem_append_right _ mN2) fN lN <| q_ic <| q_name C S16 (by walk_at "lk") <| q_i0 ⟨⟨_, _, _, S16⟩,
    ring_spec C.X C S16 (by with_reducible exact n36 (by assumption) (by decide)) (hlv0.up fun _ _ h => S16.get (List.mem_append_right _ (mnw2 h))) (hwv.up fun _ _ h => S16.get (List.mem_append_right _ (mww2 h))) (by lia) (by lia) (by lia)
     (fun r h => ⟨hr7 r h, fun j hj => by have := (hProws r h).2 j hj; lia⟩) fun s17 S17 => q_tbool ?_⟩
   cases hb : ringB (linesN ns N) ws with
   | true =>
    refine if_p rfl ?_
    have S18 : Stt s_1 g' env'.locals (lcs ["script", "above", "plain", "crooked", "j", "shared", "waits", "code", "orders", "left", "freed"] [some (.ref sa), some av, some (.ref pa), some (.ref ra), uj, us, some wv, none, none, none, none]) (([] ++ ((ta ++ tb) ++ R_2)) ++ []) s17 := by rw [List.append_nil]; exact S17
    refine q_cons <| q_if <| q_tcmp <| q_call <| q_glob C S17 (by walk_at "mem") <| q_cwK C S17 (by k_is) <| q_ic <| q_name C S17 (by walk_at "lk") <| q_ic <| q_nameX S17 hoN' (List.mem_append_right _ mN2) fN lN <| q_ic <| q_name C S17 (by walk_at "lk") <| q_i0 ⟨⟨_, _, _, S17⟩,
     run_spec C.X C S18 trivial (by with_reducible exact n36 (by assumption) (by decide)) (hpv0.up fun _ _ h => .inl (List.mem_append_right _ (mnw2 h))) (hlv0.up fun _ _ h => .inl (List.mem_append_right _ (mnw2 h))) (hwv.up fun _ _ h => .inl (List.mem_append_right _ (mww2 h))) (by lia) (by lia) (by lia) (by lia) hProws hwr
      fun v nw3 s19 frs' SU Fs S19 hres => ?_⟩
    cases frs' with
    | cons _ _ => exact SU.elim
    | nil =>
    rw [List.append_nil] at S19
    rcases hres with ⟨rfl, _⟩ | ⟨td, htd, hnd, hdr, hmem, hord⟩
    ·refine q_cnone <| q_isnotnone <| q_tbool ?_
     refine if_n (by decide) ?_
     exact q_nil (q_nil ⟨rfl, ta, tb, nw3, hTa, hTb, S19.perm (List.perm_append_comm_assoc _ _ _)⟩)
    ·exact (no_told TT hb (told_of TT W PI hnd hmem hord)).elim
   | false =>
    refine if_n (by decide) ?_
    obtain ⟨code, hcode, hclt, hkept⟩ := web_kept TT hN.2 W PI hb
    have S18 : Stt s_1 g' env'.locals (lcs ["script", "above", "plain", "crooked", "j", "shared", "waits", "code", "orders", "left", "freed"] [some (.ref sa), some av, some (.ref pa), some (.ref ra), uj, us, some wv, none, none, none, none]) (((ta ++ tb) ++ R_2) ++ []) s17 := by rw [List.append_nil]; exact S17
    refine q_cons <| q_if <| q_tnot <| q_tval <| q_call <| q_glob C S17 (by walk_at "mem") <| q_cwK C S17 (by k_is) <| q_ic <| q_name C S17 (by walk_at "lk") <| q_ic <| q_nameX S17 hoN' (List.mem_append_right _ mN2) fN lN <| q_ic <| q_name C S17 (by walk_at "lk") <| q_ic <| q_name C S17 (by walk_at "lk") <| q_i0 ⟨⟨_, _, _, S17⟩,
     kept_spec (N := N) (up := upK ns) (code := code) C.X C S18 trivial (by with_reducible exact n36 (by assumption) (by decide)) (by rw [hU]; decide) hTa hTb (hav.up fun _ _ h => .inl (mnw2 h)) (hlv0.up fun _ _ h => .inl (mnw2 h)) (hpv0.up fun _ _ h => .inl (mnw2 h)) (hwv.up fun _ _ h => .inl (mww2 h)) hN.2 hrn hup h0
      (by lia) (by lia) hProws hwr hcode (by lia) rfl (ord_row TT hN.2 _) (ord_in TT _) fun b ta' tb' nw3 s19 frs' hTa' hTb' SU Fs S19 hK => ?_⟩
    cases frs' with
    | cons _ _ => exact SU.elim
    | nil =>
    rw [List.append_nil] at S19
    rw [hkept b hK]
    refine q_tbool ?_
    refine if_n (by decide) ?_
    exact q_nil (q_nil ⟨rfl, ta', tb', nw3, hTa', hTb', by rw [← List.append_assoc]; exact S19⟩)
  clear hTa hTb hta htb S14 S15 S16 S13
  rintro f s20 ⟨rfl, ta, tb, nw3, hTa, hTb, S20⟩
  obtain ⟨R_3, hR3⟩ : ∃ R_3, R_3 = nw3 ++ R_2 := ⟨_, rfl⟩
  rw [← hR3] at S20
  have mN3 : (n, oN') ∈ R_3 := by rw [hR3]; exact List.mem_append_right _ mN2
  have mnw3 : ∀ {a o}, (a, o) ∈ nw → (a, o) ∈ R_3 := fun h => by rw [hR3]; exact List.mem_append_right _ (mnw2 h)
  have hpl0 : 0 < prodLen (linesN ns N) := by rw [prod_of hrn]; lia
  refine q_cons <| q_assign <| q_binop <| q_binop <| q_binop <| q_call <| q_glob C S20 (by walk_at "mem") <| q_cwB <| q_ic <| q_name C S20 (by walk_at "lk") <| q_i0 <| q_sum C S20 (hsa.at fun o e => S20.base e) hI fun t_1 s21 S21 => q_int S21 fun t_2 s22 S22 => q_fdiv C S22 (by decide) (by decide) fun t_3 s23 S23 =>
   q_int S23 fun t_4 s24 S24 => q_add S24 fun t5 s25 S25 => q_call <| q_glob C S25 (by walk_at "mem") <| q_cwK C S25 (by k_is) <| q_ic <| q_nameX S25 hoN' (List.mem_append_right _ mN3) fN lN <| q_i0 ⟨⟨_, _, _, S25⟩,
    size_spec C.X C S25 (by with_reducible exact n36 (by assumption) (by decide)) (hlv0.up fun _ _ h => S25.get (List.mem_append_right _ (mnw3 h))) (by lia) (by lia) hr7 fun t6 s26 S26 => q_mod C S26 hpl0 fun t7 s27 S27 => q_store C S27 (by walk_at "up") fun s28 S28 => ?_⟩
  obtain ⟨code, hcode⟩ : ∃ code : Nat, (ns.sum / 4 + 4) % prodLen (linesN ns N) = (code : Int) := ⟨_, (Int.toNat_of_nonneg (Int.emod_nonneg _ (by lia))).symm⟩
  have hclt : code < prodN (lnR (linesN ns N)) N := by
   have := Int.emod_lt_of_pos (ns.sum / 4 + 4) hpl0
   rw [hcode, prod_of hrn] at this
   lia
  rw [hcode] at S28
  obtain ⟨hz, Wf, hfc, hkept⟩ := drawn_kept TT hN.2 PI hclt
  refine q_cons <| q_unpack2 C.hh <| q_call <| q_glob C S28 (by walk_at "mem") <| q_cwK C S28 (by k_is) <| q_ic <| q_name C S28 (by walk_at "lk") <| q_ic <| q_nameX S28 hoN' (List.mem_append_right _ mN3) fN lN <| q_ic <| q_name C S28 (by walk_at "lk") <| q_i0 ⟨⟨_, _, _, S28⟩,
   orders_spec (N := N) (up := upK ns) (rows := linesN ns N) C.X C S28 (by with_reducible exact n36 (by assumption) (by decide)) hTa hTb (hav.up fun _ _ h => S28.get (List.mem_append_right _ (mnw3 h))) (hlv0.up fun _ _ h => S28.get (List.mem_append_right _ (mnw3 h))) hN.2 hrn hup h0
    (fun k hk => hr7 _ (wAt_mem' (by exact Int.natCast_nonneg _) (by lia))) (by lia) fun ta' tb' rt ov t8 nw4 s29 hTa' hTb' S29 hrt hov => ?_⟩
  refine ⟨_, _, _, _, _, _, _, _, rfl, S29, S29.get (List.mem_append_left _ (List.mem_append_right _ hrt)), fun s30 S30 _ => q_store C S30 (by walk_at "up") fun s31 S31 => q_store C S31 (by walk_at "up") fun s32 S32 => ?_⟩
  rw [show cdn (fun k => (wAt (linesN ns N) (k : Nat)).length) N code N = 0 from hz] at S32
  obtain ⟨R4, hR4⟩ : ∃ R4, R4 = nw4 ++ R_3 := ⟨_, rfl⟩
  replace S32 := S32.perm (news' := (ta' ++ tb') ++ R4) (by rw [hR4, ← List.append_assoc])
  have mN4 : (n, oN') ∈ R4 := by rw [hR4]; exact List.mem_append_right _ mN3
  have mnw4 : ∀ {a o}, (a, o) ∈ nw → (a, o) ∈ R4 := fun h => by rw [hR4]; exact List.mem_append_right _ (mnw3 h)
  have mov4 : ∀ {a o}, (a, o) ∈ nw4 → (a, o) ∈ R4 := fun h => by rw [hR4]; exact List.mem_append_left _ h
  generalize hords : ordN (upK ns) (dgt (fun k => (wAt (linesN ns N) (k : Nat)).length) N code) N = ords at *
  have hol : ∀ r ∈ ords, r.length ≤ 7 := hords ▸ ord_row TT hN.2 _
  have hin : ∀ i : Nat, i + 1 < (linesN ns N).length → ((i + 1 : Nat) : Int) ∈ wAt ords ((i + 1 : Nat) : Int) := hords ▸ ord_in TT _
  have hollen : ords.length = (linesN ns N).length := by rw [← hords, ordN_length, hrn]
  refine q_cons <| q_assign <| q_call <| q_glob C S32 (by walk_at "mem") <| q_cwK C S32 (by k_is) <| q_ic <| q_nameX S32 hoN' (List.mem_append_right _ mN4) fN lN <| q_ic <| q_name C S32 (by walk_at "lk") <| q_i0 ⟨⟨_, _, _, S32⟩,
   freed_spec C.X C S32 (by with_reducible exact n36 (by assumption) (by decide)) (hlv0.up fun _ _ h => S32.get (List.mem_append_right _ (mnw4 h))) (hov.up fun _ _ h => S32.get (List.mem_append_right _ (mov4 h))) (by lia) (by lia) hr7 hollen hol hin fun fv nw5 s33 S33 hfv => q_store C S33 (by walk_at "up") fun s34 S34 => ?_⟩
  obtain ⟨R5, hR5⟩ : ∃ R5, R5 = nw5 ++ R4 := ⟨_, rfl⟩
  replace S34 := S34.perm (news' := (ta' ++ tb') ++ R5) (by rw [hR5]; exact List.perm_append_comm_assoc _ _ _)
  have mN5 : (n, oN') ∈ R5 := by rw [hR5]; exact List.mem_append_right _ mN4
  have mnw5 : ∀ {a o}, (a, o) ∈ nw → (a, o) ∈ R5 := fun h => by rw [hR5]; exact List.mem_append_right _ (mnw4 h)
  have mfv5 : ∀ {a o}, (a, o) ∈ nw5 → (a, o) ∈ R5 := fun h => by rw [hR5]; exact List.mem_append_left _ h
  have hfr := Wf.row TT hN.2
  have hf0 := Wf.1
  generalize freedOf (linesN ns N) ords = fd at *
  refine q_cons <| q_ret <| q_and3 <| q_cmp <| q_name C S34 (by walk_at "lk") <| q_int S34 fun t9 s35 S35 => q_eqi <| q_tbool ?_
  refine if_p (by decide) ?_
  refine q_and2 <| q_cmp <| q_call <| q_glob C S35 (by walk_at "mem") <| q_cwK C S35 (by k_is) <| q_ic <| q_nameX S35 hoN' (List.mem_append_right _ mN5) fN lN <| q_ic <| q_name C S35 (by walk_at "lk") <| q_i0 ⟨⟨_, _, _, S35⟩,
   code_spec C.X C S35 (by with_reducible exact n36 (by assumption) (by decide)) (hlv0.up fun _ _ h => S35.get (List.mem_append_right _ (mnw5 h))) (hfv.up fun _ _ h => S35.get (List.mem_append_right _ (mfv5 h))) (by lia) (by lia) (by lia) hr7 (fun r h => Nat.le_succ_of_le (hfr r h).1) fun t10 s36 S36 =>
    q_name C S36 (by walk_at "lk") <| q_eqi <| q_tbool ?_⟩
  rw [hfc, if_pos (by simp)]
  have S37 := S36.perm (news' := ((ta' ++ tb') ++ R5) ++ []) (by rw [List.append_nil])
  refine q_call <| q_glob C S36 (by walk_at "mem") <| q_cwK C S36 (by k_is) <| q_ic <| q_name C S36 (by walk_at "lk") <| q_ic <| q_nameX S36 hoN' (List.mem_append_right _ mN5) fN lN <| q_ic <| q_name C S36 (by walk_at "lk") <| q_ic <| q_name C S36 (by walk_at "lk") <| q_i0 ⟨⟨_, _, _, S36⟩,
   kept_spec (N := N) (up := upK ns) (code := code) C.X C S37 trivial (by with_reducible exact n36 (by assumption) (by decide)) (by rw [hU]; decide) hTa' hTb' (hav.up fun _ _ h => .inl (mnw5 h)) (hlv0.up fun _ _ h => .inl (mnw5 h)) (hpv0.up fun _ _ h => .inl (mnw5 h)) (hfv.up fun _ _ h => .inl (mfv5 h)) hN.2 hrn hup h0
    (by lia) (by lia) hProws hfr hfc (by lia) hords.symm hol hin fun b ta'' tb'' nw6 s38 frs' hTa'' hTb'' SU Fs S38 hK => ?_⟩
  rw [show cdn (fun k => (wAt (linesN ns N) (k : Nat)).length) N code N = 0 from hz] at hK
  rw [hkept b hK]
  obtain ⟨hh, tk, rfl⟩ := S38.same
  refine hRR _ _ ⟨⟨.inl ⟨_, _, _, rfl, fun _ => rfl, .bool true, (by kc_post), fun _ => ⟨.nil, fun a ha => by cases ha⟩⟩, fun b o e => S38.base e, rfl, hg⟩, ?_, ?_, trivial⟩
  ·obtain ⟨ps, hps⟩ := hTa''.tab
   exact ⟨ps, S38.get (List.mem_append_left _ (List.mem_append_left _ (List.mem_append_left _ (List.mem_append_left _ hps))))⟩
  ·obtain ⟨ps, hps⟩ := hTb''.tab
   exact ⟨ps, S38.get (List.mem_append_left _ (List.mem_append_left _ (List.mem_append_left _ (List.mem_append_right _ hps))))⟩)
end
end Mine
theorem PySem.Challenge.cw_rt0104_01_holds : PySem.Challenge.rw_rt0104_01.Holds :=
  Mine.holds_of
