import JvmDerived
import JvmDerived.Pilot.@@N@@Statement
import JvmDerived.Pilot.@@N@@Code
set_option linter.unusedVariables false
set_option linter.unusedSimpArgs false
namespace Jvm.RoadKit
open Sem ClassFile Op Lib Jvm.Stand Jvm.Free Jvm.LawKit
section New
variable {p : Program} {l : Launch} {e : Env} {R : Room} {s : State} {m : MethodId} {args : Array Value} {below : List Frame} {meth : Method} {c : Code} {T : State} {locs : List Loc} {cells slots : Nat}
theorem retI (X : Stand p l e R s m args below meth c T locs cells slots) (hx : p.tables.exec = Jvm.exec) {pc : Nat} {Ls : Array Slot} {z : Int32} {rest : List Value} (hret : meth.sig.returnType = some .int) (hd : decode c.code pc = .ok (.ireturn, 1)) {fs : List Frame}
    (hl : ∀ (f : JFrame) (acts : List Action), f.method = m → f.locked = none → f.entered = [] → (doReturn e (T.setTop f) acts (some (.int z))).1 = T.setFrames fs) : Steps p.tables e below (T.setTop (mkF m pc Ls (.int z :: rest))) (T.setFrames fs) := by
  have hm' : T.vm.method? m = some meth := X.method'
  have hn : narrow .int (.int z) = .int z := rfl
  show Steps p.tables e below (T.setTop { method := m, pc := pc, locals := Ls, stack := _ :: rest, locked := none }) _
  jvm_step X.here [X.here.top, hx, hd, hm', hret, hn]
  first | (intro acts; rw [hl _ acts rfl rfl rfl]) | rw [hl _ _ rfl rfl rfl]
  exact Steps.refl _
end New
end Jvm.RoadKit
namespace Jvm.Pilot.@@N@@
open Jvm Jvm.ClassFile Sem Op Lib Jvm.Free Jvm.Stand Jvm.LawKit Jvm.RoadKit Bundle Jvm.Pilot.@@N@@.Jvm.D
abbrev SS (p : Program) (e : Env) (below : List Frame) (T : State) (g : JFrame) (t : State) : Prop := Steps p.tables e below (T.setTop g) t
abbrev vi (x : Int32) : Slot := .val (.int x)
abbrev vl (x : Int64) : Slot := .val (.long x)
abbrev vr (x : Addr) : Slot := .val (.ref x)
abbrev vd (x : UInt64) : Slot := .val (.double x)
abbrev uu : Slot := .unset
abbrev us : Slot := .second
theorem wd {a0 : Array Value} {Z : State} (hw : ∀ d ∈ tables_1, d.before a0 Z = true) (i : Nat) {d : Jvm.Cond} (h : tables_1[i]? = some d) : d.before a0 Z = true := hw _ (List.mem_of_getElem? h)
theorem own_hk {T : State} {h : Heap} {k : Nat} (e : T.heap = h) (q : k ≤ h.size) : k ≤ T.heap.size := e ▸ q
theorem own_szW {h h' : Heap} {a : Addr} {sl : Nat} {v : Value} {k : Nat} (W : Wr h h' a sl v) (q : k ≤ h.size) : k ≤ h'.size := by rw [W.size]; exact q
theorem own_at {T : State} {h : Heap} {a : Addr} {c : Cell} (e : T.heap = h) (q : h[a]? = some c) : T.heap[a]? = some c := e ▸ q
theorem own_rng (x : Int64) : 1 ≤ (((x &&& (9223372036854775807 : Int64)) % (100 : Int64)) + (1 : Int64)).toInt ∧ (((x &&& (9223372036854775807 : Int64)) % (100 : Int64)) + (1 : Int64)).toInt ≤ 100 := by
  have h1 := c_andSL x (9223372036854775807 : Int64)
  have h2 := (h1.2.2 (by decide))
  have h3 := (c_lrem (x &&& (9223372036854775807 : Int64)) (100 : Int64) 100 (by decide)).1 h2
  rw [lrem_mod] at h3
  have h4 := c_ladd ((x &&& (9223372036854775807 : Int64)) % (100 : Int64)) (1 : Int64)
  have h5 := rng64 (((x &&& (9223372036854775807 : Int64)) % (100 : Int64)) + (1 : Int64))
  have h6 : ((1 : Int64)).toInt = 1 := by decide
  omega
theorem own_c {c : Int64} (h1 : 1 ≤ c.toInt) (h2 : c.toInt ≤ 100) : ¬ (lcmpW c (1 : Int64) < (0 : Int32)) ∧ ¬ ((0 : Int32) < lcmpW c (100 : Int64)) ∧ lcmpW c.toInt32.toInt64 c = 0 ∧ ¬ (c.toInt32 < 1) ∧ ¬ ((100 : Int32) < c.toInt32) := by
  have q1 : ((1 : Int64)).toInt = 1 := by decide
  have q2 : ((100 : Int64)).toInt = 100 := by decide
  have q3 := c_l2i c
  have q4 := rng32 c.toInt32
  have q5 : c.toInt32.toInt = c.toInt := by omega
  refine ⟨?_, ?_, ?_, ?_, ?_⟩
  · rw [lw_lt, Int64.lt_iff_toInt_lt]; omega
  · rw [lw_gt, Int64.lt_iff_toInt_lt]; omega
  · rw [lw_eq]; apply Int64.toInt_inj.mp; rw [c_i2l]; exact q5
  · rw [Int32.lt_iff_toInt_lt]; have : ((1 : Int32)).toInt = 1 := by decide
    omega
  · rw [Int32.lt_iff_toInt_lt]; have : ((100 : Int32)).toInt = 100 := by decide
    omega
theorem ef_0 (m : MethodId) (x0 : Int64) : entryFrame m #[(.long x0)] 2 = mkF m 0 #[vl x0, us] [] := by first | (simp [entryFrame, mkF, argsToLocals, Value.category]; done) | rfl
theorem pn_0 : plainName "com/example/plain_hub/plainhub/Paging" = true := by first | (simp [plainName, overriddenIn]; done) | decide +kernel
theorem d1_0 : decode prog_4_method_2_code 0 = .ok (.lload_n 0, 1) := by decide +kernel
theorem d1_1 : decode prog_4_method_2_code 1 = .ok (.lconst 1, 1) := by decide +kernel
theorem d1_2 : decode prog_4_method_2_code 2 = .ok (.lcmp, 1) := by decide +kernel
theorem d1_3 : decode prog_4_method_2_code 3 = .ok (.ifCond .lt 11, 3) := by decide +kernel
theorem d1_6 : decode prog_4_method_2_code 6 = .ok (.lload_n 0, 1) := by decide +kernel
theorem d1_7 : decode prog_4_method_2_code 7 = .ok (.ldc2_w 9, 3) := by decide +kernel
theorem d1_10 : decode prog_4_method_2_code 10 = .ok (.lcmp, 1) := by decide +kernel
theorem d1_11 : decode prog_4_method_2_code 11 = .ok (.ifCond .le 9, 3) := by decide +kernel
theorem d1_20 : decode prog_4_method_2_code 20 = .ok (.lload_n 0, 1) := by decide +kernel
theorem d1_21 : decode prog_4_method_2_code 21 = .ok (.l2i, 1) := by decide +kernel
theorem d1_22 : decode prog_4_method_2_code 22 = .ok (.ireturn, 1) := by decide +kernel
def Q_rm1 (Z : State) (q0 : Int64) (h0 : Heap) (n0 : Nat) (v : Option Value) (h : Heap) (L : List Loc) : Prop := (v = some (.int (q0.toInt32)) ∧ Fr n0 L ∧ h = h0)
set_option maxRecDepth 65536 in
set_option maxHeartbeats 40000000 in
theorem rm1 (l : Launch) (Z : State) (a0 : Array Value) (hw : ∀ d ∈ tables_1, d.before a0 Z = true) (ws : List Jvm.Cond) (q0 : Int64) (h0 : Heap) (n0 : Nat) (Z0 : n0 ≤ h0.size) (h1 : ¬ (lcmpW q0 (1 : Int64) < (0 : Int32))) (h2 : ¬ ((0 : Int32) < lcmpW q0 (100 : Int64))) :
    MetFree l (⟨"com/example/plain_hub/plainhub/Paging", "count", "(J)I"⟩ : MethodName) (head1 (Jvm.Cond.code (⟨"com/example/plain_hub/plainhub/Paging", "count", "(J)I"⟩ : MethodName) prog_4_method_2_code 2 (some .int) :: ws) ({ frames := 0, cells := 0, slots := 0, locals := 0 } : Room)) (fun a U => a = #[(.long q0)] ∧ Z.Warmed39 U.vm ∧ U.heap = h0) (fun _ _ _ _ _ => True) (fun _ U o U' => ∃ v L, o = .returned v ∧ Q_rm1 Z q0 h0 n0 v U'.heap L ∧ FrameEnd U o U' L ({ frames := 0, cells := 0, slots := 0, locals := 0 } : Room).cells ({ frames := 0, cells := 0, slots := 0, locals := 0 } : Room).slots) := by
  refine MetFree.of_bodySF (plainFor_of_name pn_0) hisR ?_
  intro p e s m args below meth c s₁ Bd hml0 hP hK
  obtain ⟨rfl, hZ, hh⟩ := hP
  have hx := Bd.exec
  have hby := Bd.bytes
  have hml : c.maxLocals = 2 := hml0
  have hown : s.vm.findClass "com/example/plain_hub/plainhub/Paging" = some m.cls := findClass_of_methodNamed Bd.named
  have hnm := (name_of_methodNamed Bd.named Bd.method).1
  have X0 : Stand p l e ({ frames := 0, cells := 0, slots := 0, locals := 0 } : Room) s m #[(.long q0)] below meth c s₁ [] 0 0 := Stand.of_body Bd
  have e0 : s₁.heap = h0 := by rw [← hh, Bd.state]; rfl
  have N0 := Fr.nil n0
  have pre0 : ∀ t, Steps p.tables e below (s₁.setTop (mkF m 0 #[vl q0, us] [])) t → Steps p.tables e below (s₁.setTop (entryFrame m #[(.long q0)] 2)) t := fun t k => castTop (ef_0 m q0) k
  obtain ⟨fs, hr, hrun, hended, hW, hsame⟩ := X0.leave (v := some (.int (q0.toInt32))) (fun h => by rw [Bd.returns] at h; cases h)
  refine ⟨_, _, pre0 _ ?_, hrun, hended, _, _, rfl, ?_, ⟨_, rfl⟩, hW, hsame.mono (by decide) (by decide)⟩
  · show SS p e below s₁ (mkF m 0 #[vl q0, us] []) _
    refine XS.lloadN X0.here hx rfl (hb hby d1_0) rfl ?_
    show SS p e below s₁ (mkF m 1 #[vl q0, us] [(.long q0)]) _
    refine XS.lconst X0.here hx rfl (hb hby d1_1) ?_
    show SS p e below s₁ (mkF m 2 #[vl q0, us] [(.long (1 : Int64)), (.long q0)]) _
    refine XS.lcmp X0.here hx rfl (hb hby d1_2) rfl ?_
    show SS p e below s₁ (mkF m 3 #[vl q0, us] [(.int (lcmpW q0 (1 : Int64)))]) _
    refine XS.ifNo X0.here hx rfl (hb hby d1_3) rfl ((if0 _ _).trans (flt (h1 : ¬ ((lcmpW q0 (1 : Int64)) < (0 : Int32)))).1) ?_
    show SS p e below s₁ (mkF m 6 #[vl q0, us] []) _
    refine XS.lloadN X0.here hx rfl (hb hby d1_6) rfl ?_
    show SS p e below s₁ (mkF m 7 #[vl q0, us] [(.long q0)]) _
    refine X0.ldc2Long hx hown (mvT hZ (wd hw 6 rfl)) (g := (mkF m 7 #[vl q0, us] [(.long q0)])) rfl (hb hby d1_7) _ ?_
    show SS p e below s₁ (mkF m 10 #[vl q0, us] [(.long (100 : Int64)), (.long q0)]) _
    refine XS.lcmp X0.here hx rfl (hb hby d1_10) rfl ?_
    show SS p e below s₁ (mkF m 11 #[vl q0, us] [(.int (lcmpW q0 (100 : Int64)))]) _
    refine XS.ifYes X0.here hx rfl (pc0 := 11) (pc' := 20) rfl (hb hby d1_11) rfl ((if0 _ _).trans (flt (h2 : ¬ ((0 : Int32) < (lcmpW q0 (100 : Int64))))).2.2.2) (by decide) (by decide) ?_
    show SS p e below s₁ (mkF m 20 #[vl q0, us] []) _
    refine XS.lloadN X0.here hx rfl (hb hby d1_20) rfl ?_
    show SS p e below s₁ (mkF m 21 #[vl q0, us] [(.long q0)]) _
    refine XS.l2i X0.here hx rfl (hb hby d1_21) rfl ?_
    show SS p e below s₁ (mkF m 22 #[vl q0, us] [(.int (q0.toInt32))]) _
    exact retI X0 hx Bd.returns (hb hby d1_22) hr
  · show Q_rm1 Z q0 h0 n0 _ s₁.heap _
    rw [e0]
    exact ⟨rfl, N0, rfl⟩
theorem ef_1 (m : MethodId) (x0 : Int64) : entryFrame m #[(.long x0)] maxLocals = mkF m 0 #[vl x0, us, uu, uu, uu] [] := by first | (simp [entryFrame, mkF, argsToLocals, Value.category, maxLocals]; done) | rfl
theorem pn_1 : plainName "com/example/plain_hub/plainhub/PagingCountPinLaw" = true := by first | (simp [plainName, overriddenIn]; done) | decide +kernel
theorem pd_0 : parseMethodDescriptor "(J)I" = some ⟨[.long], some .int⟩ := by decide +kernel
def Q_rm0 (Z : State) (q0 : Int64) (cc : Int64) (h0 : Heap) (n0 : Nat) (v : Option Value) (h : Heap) (L : List Loc) : Prop := (v = some (.int 1) ∧ Fr n0 L)
set_option maxRecDepth 65536 in
set_option maxHeartbeats 40000000 in
theorem rm0 (l : Launch) (Z : State) (a0 : Array Value) (hw : ∀ d ∈ tables_1, d.before a0 Z = true) (ws : List Jvm.Cond) (q0 : Int64) (cc : Int64) (h0 : Heap) (n0 : Nat) (Z0 : n0 ≤ h0.size) (hcc : (q0 &&& (9223372036854775807 : Int64)) % (100 : Int64) + (1 : Int64) = cc) (h1 : ¬ (lcmpW cc (1 : Int64) < (0 : Int32))) (h2 : ¬ ((0 : Int32) < lcmpW cc (100 : Int64))) (h3 : lcmpW cc.toInt32.toInt64 cc = 0) (h4 : ¬ (cc.toInt32 < 1)) (h5 : ¬ ((100 : Int32) < cc.toInt32)) :
    MetFree l x (head1 (Jvm.Cond.code x code maxLocals ret :: ws) room_1) (fun a U => a = #[(.long q0)] ∧ Z.Warmed39 U.vm ∧ U.heap = h0) (fun _ _ _ _ _ => True) (fun _ U o U' => ∃ v L, o = .returned v ∧ Q_rm0 Z q0 cc h0 n0 v U'.heap L ∧ FrameEnd U o U' L room_1.cells room_1.slots) := by
  refine MetFree.of_bodySF (plainFor_of_name pn_1) hisR ?_
  intro p e s m args below meth c s₁ Bd hml0 hP hK
  obtain ⟨rfl, hZ, hh⟩ := hP
  have hx := Bd.exec
  have hby := Bd.bytes
  have hml : c.maxLocals = 5 := hml0
  have hown : s.vm.findClass "com/example/plain_hub/plainhub/PagingCountPinLaw" = some m.cls := findClass_of_methodNamed Bd.named
  have hnm := (name_of_methodNamed Bd.named Bd.method).1
  have X0 : Stand p l e room_1 s m #[(.long q0)] below meth c s₁ [] 0 0 := Stand.of_body Bd
  have e0 : s₁.heap = h0 := by rw [← hh, Bd.state]; rfl
  have N0 := Fr.nil n0
  have pre0 : ∀ t, Steps p.tables e below (s₁.setTop (mkF m 0 #[vl q0, us, uu, uu, uu] [])) t → Steps p.tables e below (s₁.setTop (entryFrame m #[(.long q0)] maxLocals)) t := fun t k => castTop (ef_1 m q0) k
  obtain ⟨_, _, ⟨T1, L1, k1, n1⟩, -, X1, ⟨Lc1, hQ1, l1, y1, z1⟩, st1⟩ := Jvm.LawKit.callS X0 hx (y := (⟨"com/example/plain_hub/plainhub/Paging", "count", "(J)I"⟩ : MethodName)) hown (mvT hZ (wd hw 2 rfl)) (mvT hZ (wd hw 3 rfl)) (mvT hZ (wd hw 4 rfl)) (mvT hZ (wd hw 5 rfl)) (by decide) (backOf (W := 0) (rm1 l Z a0 hw [] cc h0 n0 Z0 h1 h2) hZ (wd hw 5 rfl) (wd hw 4 rfl) (by decide) (by decide)) (g := (mkF m 13 #[vl q0, us, vl cc, us, uu] [(.long cc)])) rfl (by rw [hml]; rfl) (argsL := [(.long cc)]) (rest := []) (lenOf pd_0 rfl) rfl (by show 2 * 0 + _ ≤ _; exact Nat.le_of_eq rfl) (hb hby at_13) (fun _ _ => ⟨rfl, e0, (by decide : 0 + 0 ≤ _), (by decide : 0 + 0 ≤ _)⟩)
  dsimp only [Pt.U, Pt.locs, Pt.cells, Pt.slots] at X1 l1 y1 z1 st1 hQ1
  subst l1 y1 z1
  obtain ⟨rfl, Nq1, eh1⟩ := hQ1
  have N1 := Fr.app N0 Nq1
  obtain ⟨fs, hr, hrun, hended, hW, hsame⟩ := X1.leave (v := some (.int (nar .boolean (1 : Int32)))) (fun h => by rw [Bd.returns] at h; cases h)
  refine ⟨_, _, pre0 _ ?_, hrun, hended, _, _, rfl, ?_, ⟨_, rfl⟩, hW, hsame.mono (by decide) (by decide)⟩
  · show SS p e below s₁ (mkF m 0 #[vl q0, us, uu, uu, uu] []) _
    refine XS.lloadN X0.here hx rfl (hb hby at_0) rfl ?_
    show SS p e below s₁ (mkF m 1 #[vl q0, us, uu, uu, uu] [(.long q0)]) _
    refine X0.ldc2Long hx hown (mvT hZ (wd hw 0 rfl)) (g := (mkF m 1 #[vl q0, us, uu, uu, uu] [(.long q0)])) rfl (hb hby at_1) _ ?_
    show SS p e below s₁ (mkF m 4 #[vl q0, us, uu, uu, uu] [(.long (9223372036854775807 : Int64)), (.long q0)]) _
    refine XS.land X0.here hx rfl (hb hby at_4) rfl ?_
    show SS p e below s₁ (mkF m 5 #[vl q0, us, uu, uu, uu] [(.long (q0 &&& (9223372036854775807 : Int64)))]) _
    refine X0.ldc2Long hx hown (mvT hZ (wd hw 1 rfl)) (g := (mkF m 5 #[vl q0, us, uu, uu, uu] [(.long (q0 &&& (9223372036854775807 : Int64)))])) rfl (hb hby at_5) _ ?_
    show SS p e below s₁ (mkF m 8 #[vl q0, us, uu, uu, uu] [(.long (100 : Int64)), (.long (q0 &&& (9223372036854775807 : Int64)))]) _
    refine XS.lrem X0.here hx rfl (hb hby at_8) rfl (by decide) ?_
    show SS p e below s₁ (mkF m 9 #[vl q0, us, uu, uu, uu] [(.long ((q0 &&& (9223372036854775807 : Int64)) - (q0 &&& (9223372036854775807 : Int64)) / (100 : Int64) * (100 : Int64)))]) _
    rw [lrem_mod]
    show SS p e below s₁ (mkF m 9 #[vl q0, us, uu, uu, uu] [(.long ((q0 &&& (9223372036854775807 : Int64)) % (100 : Int64)))]) _
    refine XS.lconst X0.here hx rfl (hb hby at_9) ?_
    show SS p e below s₁ (mkF m 10 #[vl q0, us, uu, uu, uu] [(.long (1 : Int64)), (.long ((q0 &&& (9223372036854775807 : Int64)) % (100 : Int64)))]) _
    refine XS.ladd X0.here hx rfl (hb hby at_10) rfl ?_
    show SS p e below s₁ (mkF m 11 #[vl q0, us, uu, uu, uu] [(.long (((q0 &&& (9223372036854775807 : Int64)) % (100 : Int64)) + (1 : Int64)))]) _
    rw [hcc]
    show SS p e below s₁ (mkF m 11 #[vl q0, us, uu, uu, uu] [(.long cc)]) _
    refine XS.lstoreN X0.here hx rfl (hb hby at_11) rfl (l' := #[vl q0, us, vl cc, us, uu]) rfl ?_
    show SS p e below s₁ (mkF m 12 #[vl q0, us, vl cc, us, uu] []) _
    refine XS.lloadN X0.here hx rfl (hb hby at_12) rfl ?_
    show SS p e below s₁ (mkF m 13 #[vl q0, us, vl cc, us, uu] [(.long cc)]) _
    refine st1 _ ?_
    show SS p e below T1 (mkF m 16 #[vl q0, us, vl cc, us, uu] [(.int (cc.toInt32))]) _
    refine XS.istore X1.here hx rfl (hb hby at_16) rfl (l' := #[vl q0, us, vl cc, us, vi (cc.toInt32)]) rfl ?_
    show SS p e below T1 (mkF m 18 #[vl q0, us, vl cc, us, vi (cc.toInt32)] []) _
    refine XS.iload X1.here hx rfl (hb hby at_18) rfl ?_
    show SS p e below T1 (mkF m 20 #[vl q0, us, vl cc, us, vi (cc.toInt32)] [(.int (cc.toInt32))]) _
    refine XS.i2l X1.here hx rfl (hb hby at_20) rfl ?_
    show SS p e below T1 (mkF m 21 #[vl q0, us, vl cc, us, vi (cc.toInt32)] [(.long ((cc.toInt32).toInt64))]) _
    refine XS.lloadN X1.here hx rfl (hb hby at_21) rfl ?_
    show SS p e below T1 (mkF m 22 #[vl q0, us, vl cc, us, vi (cc.toInt32)] [(.long cc), (.long ((cc.toInt32).toInt64))]) _
    refine XS.lcmp X1.here hx rfl (hb hby at_22) rfl ?_
    show SS p e below T1 (mkF m 23 #[vl q0, us, vl cc, us, vi (cc.toInt32)] [(.int (lcmpW ((cc.toInt32).toInt64) cc))]) _
    refine XS.ifNo X1.here hx rfl (hb hby at_23) rfl ((if0 _ _).trans (teq (h3 : (lcmpW ((cc.toInt32).toInt64) cc) = (0 : Int32))).2) ?_
    show SS p e below T1 (mkF m 26 #[vl q0, us, vl cc, us, vi (cc.toInt32)] []) _
    refine XS.iload X1.here hx rfl (hb hby at_26) rfl ?_
    show SS p e below T1 (mkF m 28 #[vl q0, us, vl cc, us, vi (cc.toInt32)] [(.int (cc.toInt32))]) _
    refine XS.iconst X1.here hx rfl (hb hby at_28) ?_
    show SS p e below T1 (mkF m 29 #[vl q0, us, vl cc, us, vi (cc.toInt32)] [(.int (1 : Int32)), (.int (cc.toInt32))]) _
    refine XS.icmpNo X1.here hx rfl (hb hby at_29) rfl (flt (h4 : ¬ ((cc.toInt32) < (1 : Int32)))).1 ?_
    show SS p e below T1 (mkF m 32 #[vl q0, us, vl cc, us, vi (cc.toInt32)] []) _
    refine XS.iload X1.here hx rfl (hb hby at_32) rfl ?_
    show SS p e below T1 (mkF m 34 #[vl q0, us, vl cc, us, vi (cc.toInt32)] [(.int (cc.toInt32))]) _
    refine XS.bipush X1.here hx rfl (hb hby at_34) ?_
    show SS p e below T1 (mkF m 36 #[vl q0, us, vl cc, us, vi (cc.toInt32)] [(.int (100 : Int32)), (.int (cc.toInt32))]) _
    refine XS.icmpNo X1.here hx rfl (hb hby at_36) rfl (flt (h5 : ¬ ((100 : Int32) < (cc.toInt32)))).2.2.1 ?_
    show SS p e below T1 (mkF m 39 #[vl q0, us, vl cc, us, vi (cc.toInt32)] []) _
    refine XS.iconst X1.here hx rfl (hb hby at_39) ?_
    show SS p e below T1 (mkF m 40 #[vl q0, us, vl cc, us, vi (cc.toInt32)] [(.int (1 : Int32))]) _
    refine XS.goto X1.here hx rfl (pc0 := 40) (pc' := 44) rfl (hb hby at_40) (by decide) (by decide) ?_
    show SS p e below T1 (mkF m 44 #[vl q0, us, vl cc, us, vi (cc.toInt32)] [(.int (1 : Int32))]) _
    exact retN X1 hx (t := .boolean) Bd.returns (by simp) (hb hby at_44) hr
  · show Q_rm0 Z q0 cc h0 n0 _ T1.heap _
    rw [eh1]
    exact ⟨rfl, N1⟩
set_option maxRecDepth 65536 in
set_option maxHeartbeats 40000000 in
theorem comes_1 {Post : Tables → Env → Array Value → State → Outcome → State → Prop} (hpost : ∀ tb e args s v u, (limb_1_1.after args s (.returned v) u = true ∧ limb_1_2.after args s (.returned v) u = true ∧ True) → FrameEnd s (.returned v) u (Jvm.fieldLocs frame_1_writes args s ++ Jvm.arrayLocs frame_1_arrays args s ++ Jvm.staticLocs frame_1_statics s) 0 0 → Post tb e args s (.returned v) u) :
    ArmFor flags0 classFile x code maxLocals ret World_1 tables_1 room_1 Calls_1 rest_1 Pre_1 Post := by
  intro l hfl _ _ p e ha hc hk s m args below hf hA hF happ hP
  obtain ⟨hcalls, hrest, hpre⟩ := hP
  obtain ⟨-, -, -, hnamed, -, -, -, hat⟩ := (Spec.applies_iff hf).mp happ
  obtain ⟨hg, hn⟩ := and_e (Cond.before_iff.mp (show (Jvm.Cond.and given_1 narrow_1).before args s = true from hpre))
  obtain ⟨g1, g2⟩ := and_e hg
  obtain ⟨w0, rfl⟩ : ∃ w0 : Value, args = #[w0] := by
    have hs : args.size = 1 := by simpa [Cond.value, given_1] using g1
    obtain ⟨L⟩ := args
    match L, hs with
    | [w0], _ => exact ⟨w0, rfl⟩
  have hw := fun d (hd : d ∈ tables_1) => atoms_spec (ws := Jvm.Cond.code x code maxLocals ret :: tables_1) hat d (List.mem_cons_of_mem _ hd)
  have hfit : Fit s := fun {y c} hc i hi => by
    obtain ⟨ha, rfl⟩ := Array.getElem?_eq_some_iff.mp hc
    have q := List.all_eq_true.mp ((Array.all_eq_true_iff_forall_mem.mp hF) _ (Array.getElem_mem ha)) i (List.mem_range.mpr hi)
    simpa [Array.getElem?_eq_getElem hi] using q
  obtain ⟨i0, ei0⟩ := isL_v g2
  obtain rfl : w0 = (.long i0) := Option.some.inj ei0
  have hr := own_rng i0
  have hq := own_c hr.1 hr.2
  obtain ⟨n, o, h1, h2, h3, _, L, rfl, ⟨rfl, N⟩, hq⟩ := rm0 l s _ hw tables_1 i0 _ s.heap s.heap.size (Nat.le_refl _) rfl hq.1 hq.2.1 hq.2.2.1 hq.2.2.2.1 hq.2.2.2.2 p e ha hc hk s m _ below hf ((Spec.applies_iff_loose hf).mp happ).1 ⟨rfl, State.Warmed39.refl s, rfl⟩ trivial
  refine ⟨n, _, h1, h2, h3, hpost _ _ _ _ _ _ ⟨Cond.after_iff.mpr rfl, Cond.after_iff.mpr (eq_i res_at (Term.int_eval (1)) rfl), trivial⟩ ⟨hq.1, hq.2.1, (hq.2.2.sift fun y hy => Or.inr (N y hy)).mono (by decide) (by decide)⟩⟩
theorem main_1_1 : Claimed_1_1 := comes_1 fun _ _ _ _ _ _ h hF => ⟨h.1, hF⟩
theorem main_1_2 : Claimed_1_2 := comes_1 fun _ _ _ _ _ _ h hF => ⟨h.2.1, hF⟩
end Jvm.Pilot.@@N@@
namespace Jvm.Pilot.@@N@@
open Jvm Jvm.ClassFile Sem Op Lib Jvm.Free Jvm.Stand Jvm.Pilot.@@N@@.Jvm.D
/-! MADE BY PROGRAM (witnessworld.py) out of the Statement's table words and the real class files: 9 classes; the members and pool entries that the words name. The judged class is class 1, her method 1. -/
namespace start1
open Jvm.ClassFile
def u (s : String) : CpInfo := .utf8 (stringToUtf16 s)
/-- a pool by its gaps: so many unusable entries, then the entry; so many at the end -/
def gap : Nat → List CpInfo → List CpInfo
  | 0, r => r
  | n + 1, r => .unusable :: gap n r
def poolList (es : List (Nat × CpInfo)) (last : Nat) : List CpInfo := es.foldr (fun e r => gap e.1 (e.2 :: r)) (gap last [])
def pool (es : List (Nat × CpInfo)) (last : Nat) : Array CpInfo := ⟨poolList es last⟩
def fileOf (pool : Array CpInfo) (this : Nat) (attrs : Array Attribute := #[]) (ms : Array MethodInfo := #[]) (fl : Nat := 33) (sup : Nat := 0) (ifs : Array Nat := #[]) (fds : Array FieldInfo := #[]) : ClassFile where
  minorVersion := 0
  majorVersion := 65
  constantPool := pool
  accessFlags := fl
  thisClass := this
  superClass := sup
  interfaces := ifs
  fields := fds
  methods := ms
  attributes := attrs
def plain (name : String) (sup : Option ClassId) : Class where
  name := name
  kind := .ordinary
  loader := none
  accessFlags := 33
  super := sup
  interfaces := #[]
  cf := none
  fields := #[]
  methods := #[]
  instanceTypes := #[]
  staticTypes := #[]
  resolved := #[]
  callSites := []
  init := .initialized
  statics := none
  mirror := none

def pool0 : Array CpInfo := pool [(5, u "<init>"), (0, u "()V"), (1, .class_ 10), (1, u "java/lang/Object")] 113

def k0m0 : Method := { name := "<init>", desc := "()V", sig := { parameters := [], returnType := none }, accessFlags := 1, code := none }
/-- java/lang/Object -/
def k0 : Class := { plain "java/lang/Object" none with
  accessFlags := 33
  interfaces := #[]
  cf := some (fileOf pool0 8 #[] #[{ accessFlags := 1, nameIndex := 5, descriptorIndex := 6, attributes := #[] }] 33 0 #[] #[])
  fields := #[]
  methods := #[k0m0]
  instanceTypes := #[]
  staticTypes := #[]
  resolved := Array.replicate 124 none
  statics := none }

def pool1 : Array CpInfo := pool [(2, .class_ 4), (1, u "java/lang/Object"), (0, u "<init>"), (0, u "()V"), (0, .long 9223372036854775807), (1, .long 100), (1, .methodref 12 13), (0, .class_ 14), (0, .nameAndType 15 16), (0, u "com/example/plain_hub/plainhub/Paging"), (0, u "count"), (0, u "(J)I"), (0, .class_ 18), (0, u "com/example/plain_hub/plainhub/PagingCountPinLaw"), (2, u "law"), (0, u "(J)Z")] 3

def k1m0 : Method := { name := "<init>", desc := "()V", sig := { parameters := [], returnType := none }, accessFlags := 2, code := none }
def k1c1 : Code := { maxStack := 4, maxLocals := 5, code := code, exceptionTable := #[], attributes := #[] }
def k1m1 : Method := { name := "law", desc := "(J)Z", sig := { parameters := [.long], returnType := some .boolean }, accessFlags := 9, code := some k1c1 }
/-- com/example/plain_hub/plainhub/PagingCountPinLaw -/
def k1 : Class := { plain "com/example/plain_hub/plainhub/PagingCountPinLaw" (some 0) with
  accessFlags := 49
  interfaces := #[]
  cf := some (fileOf pool1 17 #[] #[{ accessFlags := 2, nameIndex := 5, descriptorIndex := 6, attributes := #[] }, { accessFlags := 9, nameIndex := 21, descriptorIndex := 22, attributes := #[] }] 49 2 #[] #[])
  fields := #[]
  methods := #[k1m0, k1m1]
  instanceTypes := #[]
  staticTypes := #[]
  resolved := Array.replicate 26 none
  statics := none }

def pool2 : Array CpInfo := pool [(2, .class_ 4), (1, u "java/lang/Object"), (0, u "<init>"), (0, u "()V"), (0, .class_ 8), (0, u "com/example/plain_hub/plainhub/Paging"), (0, .long 100), (9, u "MAX_COUNT"), (0, u "I"), (4, u "count"), (0, u "(J)I"), (4, .class_ 32), (0, u "com/example/plain_hub/plainhub/Paging$Page"), (0, .class_ 34), (0, u "com/example/plain_hub/plainhub/Paging$Range")] 3

def k2m0 : Method := { name := "<init>", desc := "()V", sig := { parameters := [], returnType := none }, accessFlags := 2, code := none }
def k2c1 : Code := { maxStack := 4, maxLocals := 2, code := prog_4_method_2_code, exceptionTable := #[], attributes := #[] }
def k2m1 : Method := { name := "count", desc := "(J)I", sig := { parameters := [.long], returnType := some .int }, accessFlags := 8, code := some k2c1 }
/-- com/example/plain_hub/plainhub/Paging -/
def k2 : Class := { plain "com/example/plain_hub/plainhub/Paging" (some 0) with
  accessFlags := 33
  interfaces := #[]
  cf := some (fileOf pool2 7 #[.nestMembers #[31, 33]] #[{ accessFlags := 2, nameIndex := 5, descriptorIndex := 6, attributes := #[] }, { accessFlags := 8, nameIndex := 25, descriptorIndex := 26, attributes := #[] }] 33 2 #[] #[{ accessFlags := 25, nameIndex := 19, descriptorIndex := 20, attributes := #[] }])
  fields := #[{ name := "MAX_COUNT", type := .int, accessFlags := 25, slot := 0, constantValue := 0 }]
  methods := #[k2m0, k2m1]
  instanceTypes := #[]
  staticTypes := #[.int]
  resolved := Array.replicate 38 none
  statics := none }

def pool3 : Array CpInfo := pool [(1, u "java/lang/Cloneable"), (0, .class_ 1), (0, u "java/lang/Object"), (0, .class_ 3)] 3

/-- java/lang/Cloneable -/
def k3 : Class := { plain "java/lang/Cloneable" (some 0) with
  accessFlags := 1537
  interfaces := #[]
  cf := some (fileOf pool3 2 #[] #[] 1537 4 #[] #[])
  fields := #[]
  methods := #[]
  instanceTypes := #[]
  staticTypes := #[]
  resolved := Array.replicate 8 none
  statics := none }

def pool4 : Array CpInfo := pool [(1, u "java/io/Serializable"), (0, .class_ 1), (0, u "java/lang/Object"), (0, .class_ 3)] 3

/-- java/io/Serializable -/
def k4 : Class := { plain "java/io/Serializable" (some 0) with
  accessFlags := 1537
  interfaces := #[]
  cf := some (fileOf pool4 2 #[] #[] 1537 4 #[] #[])
  fields := #[]
  methods := #[]
  instanceTypes := #[]
  staticTypes := #[]
  resolved := Array.replicate 8 none
  statics := none }

/-- the primitive byte -/
def k5 : Class := { plain "byte" none with kind := .primitive 'B', accessFlags := 0x411 }
/-- [B -/
def k6 : Class := { plain "[B" (some 0) with kind := .array 5 .byte, interfaces := #[3, 4], accessFlags := 1041 }

/-- the primitive int -/
def k7 : Class := { plain "int" none with kind := .primitive 'I', accessFlags := 0x411 }
/-- [I -/
def k8 : Class := { plain "[I" (some 0) with kind := .array 7 .int, interfaces := #[3, 4], accessFlags := 1041 }

def heap : Heap := #[]
def classes : Array Class := #[k0, k1, k2, k3, k4, k5, k6, k7, k8]
def interned : List (Array UInt16 × Addr) := []
def slotsUsed : Nat := 0
def theMethod : MethodId := ⟨1, 1⟩
def args0 : Array Value := #[.long 5]
def aboutOver (below : List Frame) : State where
  vm := { classes := classes, interned := interned.toArray }
  heap := heap
  slotsUsed := slotsUsed
  threads := #[{ frames := .invoking theMethod args0 :: below }]
def below0 : List Frame := [.native { method := ⟨0, 0⟩, args := #[] }]
def about1 : State := aboutOver below0
def p0 : Program := .bare "" "" ""
def e0 : Env := launch0.env 0 0 0
theorem w_frames : about1.frames = Frame.invoking theMethod args0 :: below0 := rfl
set_option maxRecDepth 65536 in
theorem w_args : argsFit about1.vm theMethod args0 = true := by decide +kernel
set_option maxRecDepth 65536 in
theorem w_heap : heapFits about1 = true := by decide +kernel
set_option maxRecDepth 65536 in
theorem w_runnable : about1.curStatus? = some .runnable := by decide +kernel
set_option maxRecDepth 65536 in
theorem w_alone : about1.alone = true := by decide +kernel
set_option maxRecDepth 65536 in
theorem w_named : about1.methodNamed? x = some theMethod := by decide +kernel
set_option maxRecDepth 65536 in
theorem w_hears : about1.hears theMethod below0 = true := by decide +kernel
set_option maxRecDepth 65536 in
theorem w_ripe : about1.ripe theMethod args0 below0 = true := by decide +kernel
theorem w_running : about1.status = .running := rfl
set_option maxRecDepth 65536 in
theorem w_room : about1.hasRoom e0.platform room_1 = true :=
  launch0.hasRoom_least _ room_1 (by decide +kernel) (by decide +kernel) (by decide +kernel) (by decide +kernel) (by decide +kernel) (by decide +kernel)
theorem allAtoms_all (ts : List Jvm.Cond) (a : Array Jvm.Value) (st : Jvm.State) : (allAtoms ts).before a st = ts.all (fun c => c.before a st) := by
  induction ts with
  | nil => rfl
  | cons c t ih =>
    show (Jvm.Cond.and c (allAtoms t)).before a st = _
    rw [Jvm.Cond.before_and, ih, List.all_cons]
def words1 : List Jvm.Cond := Jvm.Cond.code x code maxLocals ret :: tables_1
/-- a 'code' word, met by the world's own term for the bytes: nothing is compared byte by byte -/
theorem code_word {y : MethodName} {bytes : ByteArray} {mx : Nat} {rt : Option FieldType} {a : Array Value} {s : State} {m : MethodId} {meth : Method} {c : Code} (h1 : s.methodNamed? y = some m) (h2 : s.vm.method? m = some meth) (h3 : meth.code = some c) (h4 : c.code = bytes)
    (h5 : (c.maxLocals == mx && c.exceptionTable.isEmpty && decide (c.maxStack ≤ mostOperands) && decide (meth.sig.returnType = rt) && !meth.locks && decide (parseMethodDescriptor y.desc = some meth.sig)) = true) : (Jvm.Cond.code y bytes mx rt).before a s = true := by
  simp only [Bool.and_eq_true, beq_iff_eq, Bool.not_eq_true', decide_eq_true_eq] at h5
  obtain ⟨⟨⟨⟨⟨g1, g2⟩, g3⟩, g4⟩, g5⟩, g6⟩ := h5
  simp [Cond.before, Cond.holds, Cond.value, h1, h2, h3, h4, g1, g2, g3, g4, g5, g6]
def isCode : Jvm.Cond → Bool
  | .code _ _ _ _ => true
  | _ => false
theorem all_split {L : List Jvm.Cond} {P : Jvm.Cond → Bool} (h1 : L.all (fun c => isCode c || P c) = true) (h2 : ∀ c ∈ L.filter isCode, P c = true) : L.all P = true := by
  refine List.all_eq_true.mpr fun c hc => ?_
  have h := List.all_eq_true.mp h1 c hc
  rcases Bool.eq_false_or_eq_true (isCode c) with hi | hi
  · exact h2 c (List.mem_filter.mpr ⟨hc, hi⟩)
  · simpa [hi] using h
set_option maxRecDepth 65536 in
theorem w_c0 : (Jvm.Cond.code x code maxLocals ret).before args0 about1 = true := code_word (m := ⟨1, 1⟩) (meth := k1m1) (c := k1c1) (by decide +kernel) rfl rfl rfl (by decide +kernel)
set_option maxRecDepth 65536 in
theorem w_c1 : (Jvm.Cond.code ({ cls := "com/example/plain_hub/plainhub/Paging", name := "count", desc := "(J)I" } : Jvm.MethodName) prog_4_method_2_code (2 : Nat) (Option.some Jvm.ClassFile.FieldType.int)).before args0 about1 = true := code_word (m := ⟨2, 1⟩) (meth := k2m1) (c := k2c1) (by decide +kernel) rfl rfl rfl (by decide +kernel)
def codes1 : List Jvm.Cond := [Jvm.Cond.code x code maxLocals ret, Jvm.Cond.code ({ cls := "com/example/plain_hub/plainhub/Paging", name := "count", desc := "(J)I" } : Jvm.MethodName) prog_4_method_2_code (2 : Nat) (Option.some Jvm.ClassFile.FieldType.int)]
set_option maxRecDepth 65536 in
theorem codes_eq : words1.filter isCode = codes1 := rfl
theorem w_codes : ∀ c ∈ words1.filter isCode, c.before args0 about1 = true := by
  rw [codes_eq]
  intro c hc
  simp only [codes1, List.mem_cons, List.not_mem_nil, or_false] at hc
  rcases hc with rfl | rfl
  · exact w_c0
  · exact w_c1
set_option maxRecDepth 65536 in
theorem w_t1 : words1.all (fun c => isCode c || c.before args0 about1) = true := by decide +kernel
theorem w_tables : (allAtoms (Jvm.Cond.code x code maxLocals ret :: tables_1)).before args0 about1 = true := by
  rw [allAtoms_all]
  show words1.all (fun c => c.before args0 about1) = true
  refine all_split ?_ w_codes
  rw [w_t1]
set_option maxRecDepth 65536 in
theorem w_case : (Jvm.Cond.and given_1 narrow_1).before args0 about1 = true := by decide +kernel
theorem w_applies : (headSpec (Jvm.Cond.code x code maxLocals ret :: tables_1) room_1).applies x e0.platform about1 = true :=
  (Spec.applies_iff w_frames).mpr ⟨w_running, w_runnable, w_alone, w_named, w_hears, w_ripe, w_room, w_tables⟩
theorem atStart : AtStart classFile x code maxLocals ret World_1 tables_1 room_1 Calls_1 rest_1 Pre_1 launch0 p0 e0 about1 theMethod args0 below0 :=
  ⟨lists_1, trivial, launch0.admits_env _ _ _, launch0.least_env, fairChoices_fair.cas, fairChoices_fair.clock, w_frames, w_args, w_heap, w_applies, trivial, trivial, w_case⟩
end start1
theorem witness_1 : WitnessClaimed_1 := ⟨start1.p0, start1.e0, start1.about1, start1.theMethod, start1.args0, start1.below0, start1.atStart⟩
end Jvm.Pilot.@@N@@
