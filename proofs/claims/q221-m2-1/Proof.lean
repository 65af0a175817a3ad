import JvmDerived
import JvmDerived.Pilot.@@N@@Statement
import JvmDerived.Pilot.@@N@@Code
set_option linter.unusedVariables false
set_option linter.unusedSimpArgs false
namespace Jvm.RoadKit
open Sem ClassFile Op Lib Jvm.Stand Jvm.Free Jvm.LawKit
section New
variable {p : Program} {l : Launch} {e : Env} {R : Room} {s : State} {m : MethodId} {args : Array Value} {below : List Frame} {meth : Method} {c : Code} {T : State} {locs : List Loc} {cells slots : Nat}
theorem retI (X : Stand p l e R s m args below meth c T locs cells slots) (hx : p.tables.exec = Jvm.exec) {pc : Nat} {Ls : Array Slot} {z : Int32} {rest : List Value} (hret : meth.sig.returnType = some .int) (hd : decode c.code pc = .ok (.ireturn, 1)) {fs : List Frame}
    (hl : ∀ (f : JFrame) (acts : List Action), f.method = m → f.locked = none → f.entered = [] → (doReturn e (T.setTop f) acts (some (.int z))).1 = T.setFrames fs) : Steps p.tables e below (T.setTop (mkF m pc Ls (.int z :: rest))) (T.setFrames fs) := by
  have hm' : T.vm.method? m = some meth := X.method'
  have hn : narrow .int (.int z) = .int z := rfl
  show Steps p.tables e below (T.setTop { method := m, pc := pc, locals := Ls, stack := _ :: rest, locked := none }) _
  jvm_step X.here [X.here.top, hx, hd, hm', hret, hn]
  first | (intro acts; rw [hl _ acts rfl rfl rfl]) | rw [hl _ _ rfl rfl rfl]
  exact Steps.refl _
end New
end Jvm.RoadKit
namespace Jvm.Pilot.@@N@@
open Jvm Jvm.ClassFile Sem Op Lib Jvm.Free Jvm.Stand Jvm.LawKit Jvm.RoadKit Bundle Jvm.Pilot.@@N@@.Jvm.D
abbrev SS (p : Program) (e : Env) (below : List Frame) (T : State) (g : JFrame) (t : State) : Prop := Steps p.tables e below (T.setTop g) t
abbrev vi (x : Int32) : Slot := .val (.int x)
abbrev vl (x : Int64) : Slot := .val (.long x)
abbrev vr (x : Addr) : Slot := .val (.ref x)
abbrev vd (x : UInt64) : Slot := .val (.double x)
abbrev uu : Slot := .unset
abbrev us : Slot := .second
theorem wd {a0 : Array Value} {Z : State} (hw : ∀ d ∈ tables_1, d.before a0 Z = true) (i : Nat) {d : Jvm.Cond} (h : tables_1[i]? = some d) : d.before a0 Z = true := hw _ (List.mem_of_getElem? h)
theorem own_hk {T : State} {h : Heap} {k : Nat} (e : T.heap = h) (q : k ≤ h.size) : k ≤ T.heap.size := e ▸ q
theorem own_szW {h h' : Heap} {a : Addr} {sl : Nat} {v : Value} {k : Nat} (W : Wr h h' a sl v) (q : k ≤ h.size) : k ≤ h'.size := by rw [W.size]; exact q
theorem own_at {T : State} {h : Heap} {a : Addr} {c : Cell} (e : T.heap = h) (q : h[a]? = some c) : T.heap[a]? = some c := e ▸ q
theorem own_max {a : UInt64} (h : Jvm.Free.Fl.Fin64 a) : ¬ ((0 : Int32) < (cmpValue (FP.dcmp (a &&& (0x7fffffffffffffff : UInt64)) (9218868437227405311 : UInt64)) .g)) := by
  have q := (Jvm.Free.Fl.le_max_iff h.noNaN).mpr h
  rcases Jvm.Free.Fl.relLe_iff.mp q with e | e
  · have e' : FP.dcmp (a &&& (0x7fffffffffffffff : UInt64)) (9218868437227405311 : UInt64) = some .lt := e
    rw [e']; decide
  · have e' : FP.dcmp (a &&& (0x7fffffffffffffff : UInt64)) (9218868437227405311 : UInt64) = some .eq := e
    rw [e']; decide
theorem own_b {v : Int64} (h0 : 0 ≤ v.toInt) (h1 : v.toInt < 9007199254740992) : B53 v := ⟨by omega, h1⟩
theorem own_nn {v : Int64} (h0 : 0 ≤ v.toInt) (h1 : v.toInt < 2147483648) : ¬ ((cmpValue (FP.dcmp (FP.l2d v) (0 : UInt64)) .l) < (0 : Int32)) := by
  rw [← l2d_zero, dcmpV_w (own_b h0 (by omega)) (own_b (v := 0) (by decide) (by decide)), lw_lt, Int64.lt_iff_toInt_lt]
  have : ((0 : Int64)).toInt = 0 := by decide
  omega
theorem own_mulk (k : Int64) (hk0 : 0 ≤ k.toInt) (hk : k.toInt ≤ 3) {v : Int64} (h0 : 0 ≤ v.toInt) (h1 : v.toInt < 2147483648) : FP.dmul (FP.l2d k) (FP.l2d v) = FP.l2d (k * v) := by
  refine dmul_k (A := 3) (B := 2147483648) (by omega) hk (by omega) (by omega) (by decide) (by decide) (by decide) (fun q => ?_) (fun q => ?_)
  · have := Int64.lt_iff_toInt_lt.mp q.2
    have e : ((0 : Int64)).toInt = 0 := by decide
    omega
  · have := Int64.lt_iff_toInt_lt.mp q.2
    have e : ((0 : Int64)).toInt = 0 := by decide
    omega
theorem own_mul1 {v : Int64} (h0 : 0 ≤ v.toInt) (h1 : v.toInt < 2147483648) : FP.dmul (FP.l2d (1 : Int64)) (FP.l2d v) = FP.l2d v := by
  rw [own_mulk 1 (by decide) (by decide) h0 h1, Int64.one_mul]
theorem own_add0 {v : Int64} (h0 : 0 ≤ v.toInt) (h1 : v.toInt < 2147483648) : FP.dadd (FP.l2d (0 : Int64)) (FP.l2d v) = FP.l2d ((0 : Int64) + v) ∧ 0 ≤ ((0 : Int64) + v).toInt ∧ ((0 : Int64) + v).toInt < 17179869184 := by
  refine ⟨dadd_w (own_b (by decide) (by decide)) (own_b h0 (by omega)), ?_, ?_⟩ <;> rw [Int64.zero_add] <;> omega
theorem own_addk (k : Int64) (hk0 : 0 ≤ k.toInt) (hk : k.toInt ≤ 3) {s v : Int64} (s0 : 0 ≤ s.toInt) (s1 : s.toInt < 35184372088832) (h0 : 0 ≤ v.toInt) (h1 : v.toInt < 2147483648) : FP.dadd (FP.l2d s) (FP.l2d (k * v)) = FP.l2d (s + (k * v)) ∧ 0 ≤ (s + (k * v)).toInt ∧ (s + (k * v)).toInt < s.toInt + 6442450944 := by
  have m := c_lmul k v
  have mr := rng64 (k * v)
  have m2 : 0 ≤ k.toInt * v.toInt := Int.mul_nonneg hk0 h0
  have m3 : k.toInt * v.toInt ≤ 3 * v.toInt := Int.mul_le_mul_of_nonneg_right hk h0
  have m4 : (k * v).toInt = k.toInt * v.toInt := by omega
  have a := c_ladd s (k * v)
  have ar := rng64 (s + k * v)
  exact ⟨dadd_w (own_b s0 (by omega)) (own_b (by omega) (by omega)), by omega, by omega⟩
theorem own_dnn (s : Int64) {t : Int64} (h : t ≠ 0) : Jvm.Free.Fl.NoNaN64 (FP.ddiv (FP.l2d s) (FP.l2d t)) := Jvm.Free.Fl.ddiv_out (Jvm.Free.Fl.l2d_fin s).noNaN (Jvm.Free.Fl.l2d_fin t) (Jvm.Free.Fl.l2d_nz h)
theorem ef_0 (m : MethodId) (x0 : UInt64) : entryFrame m #[(.double x0)] 2 = mkF m 0 #[vd x0, us] [] := by first | (simp [entryFrame, mkF, argsToLocals, Value.category]; done) | rfl
theorem pn_0 : plainName "java/lang/Double" = true := by first | (simp [plainName, overriddenIn]; done) | decide +kernel
theorem d6_0 : decode jdk_117_method_8_code 0 = .ok (.dload_n 0, 1) := by decide +kernel
theorem d6_1 : decode jdk_117_method_8_code 1 = .ok (.invokestatic 38, 3) := by decide +kernel
theorem pd_0 : parseMethodDescriptor "(D)D" = some ⟨[.double], some .double⟩ := by decide +kernel
theorem d6_4 : decode jdk_117_method_8_code 4 = .ok (.ldc2_w 111, 3) := by decide +kernel
theorem d6_7 : decode jdk_117_method_8_code 7 = .ok (.dcmp .g, 1) := by decide +kernel
theorem d6_8 : decode jdk_117_method_8_code 8 = .ok (.ifCond .gt 7, 3) := by decide +kernel
theorem d6_11 : decode jdk_117_method_8_code 11 = .ok (.iconst 1, 1) := by decide +kernel
theorem d6_12 : decode jdk_117_method_8_code 12 = .ok (.goto 4, 3) := by decide +kernel
theorem d6_16 : decode jdk_117_method_8_code 16 = .ok (.ireturn, 1) := by decide +kernel
def Q_rmF (Z : State) (f0 : UInt64) (h0 : Heap) (n0 : Nat) (v : Option Value) (h : Heap) (L : List Loc) : Prop := (v = some (.int (1 : Int32)) ∧ Fr n0 L ∧ h = h0)
set_option maxRecDepth 65536 in
set_option maxHeartbeats 40000000 in
theorem rmF (l : Launch) (Z : State) (a0 : Array Value) (hw : ∀ d ∈ tables_1, d.before a0 Z = true) (ws : List Jvm.Cond) (f0 : UInt64) (h0 : Heap) (n0 : Nat) (Z0 : n0 ≤ h0.size) (uF : Jvm.Free.Fl.Fin64 f0) :
    MetFree l (⟨"java/lang/Double", "isFinite", "(D)Z"⟩ : MethodName) (head1 (Jvm.Cond.code (⟨"java/lang/Double", "isFinite", "(D)Z"⟩ : MethodName) jdk_117_method_8_code 2 (some .boolean) :: ws) ({ frames := 1, cells := 0, slots := 0, locals := 13 } : Room)) (fun a U => a = #[(.double f0)] ∧ Z.Warmed39 U.vm ∧ U.heap = h0) (fun _ _ _ _ _ => True) (fun _ U o U' => ∃ v L, o = .returned v ∧ Q_rmF Z f0 h0 n0 v U'.heap L ∧ FrameEnd U o U' L ({ frames := 1, cells := 0, slots := 0, locals := 13 } : Room).cells ({ frames := 1, cells := 0, slots := 0, locals := 13 } : Room).slots) := by
  refine MetFree.of_bodySF (plainFor_of_name pn_0) hisR ?_
  intro p e s m args below meth c s₁ Bd hml0 hP hK
  obtain ⟨rfl, hZ, hh⟩ := hP
  have hx := Bd.exec
  have hby := Bd.bytes
  have hml : c.maxLocals = 2 := hml0
  have hown : s.vm.findClass "java/lang/Double" = some m.cls := findClass_of_methodNamed Bd.named
  have hnm := (name_of_methodNamed Bd.named Bd.method).1
  have X0 : Stand p l e ({ frames := 1, cells := 0, slots := 0, locals := 13 } : Room) s m #[(.double f0)] below meth c s₁ [] 0 0 := Stand.of_body Bd
  have e0 : s₁.heap = h0 := by rw [← hh, Bd.state]; rfl
  have N0 := Fr.nil n0
  have pre0 : ∀ t, Steps p.tables e below (s₁.setTop (mkF m 0 #[vd f0, us] [])) t → Steps p.tables e below (s₁.setTop (entryFrame m #[(.double f0)] 2)) t := fun t k => castTop (ef_0 m f0) k
  obtain ⟨T1, X1, e1, st1⟩ := natS X0 hx hZ (y := (⟨"java/lang/Math", "abs", "(D)D"⟩ : MethodName)) hown (wd hw 40 rfl) (wd hw 41 rfl) (wd hw 42 rfl) (wd hw 43 rfl) (by decide) e0 (W := 0) (fun hc => Jvm.Free.Fl.Abs.absD_pays f0 hc (by decide) (by decide)) (g := (mkF m 1 #[vd f0, us] [(.double f0)])) rfl (by rw [hml]; rfl) (argsL := [(.double f0)]) (rest := []) (lenOf pd_0 rfl) rfl (by show 2 * 0 + _ ≤ _; exact Nat.le_of_eq rfl) (hb hby d6_1) (by decide) (by decide) ⟨rfl, uF.noNaN⟩ (val' := (.double (f0 &&& (0x7fffffffffffffff : UInt64)))) rfl
  obtain ⟨fs, hr, hrun, hended, hW, hsame⟩ := X1.leave (v := some (.int (nar .boolean (1 : Int32)))) (fun h => by rw [Bd.returns] at h; cases h)
  refine ⟨_, _, pre0 _ ?_, hrun, hended, _, _, rfl, ?_, ⟨_, rfl⟩, hW, hsame.mono (by decide) (by decide)⟩
  · show SS p e below s₁ (mkF m 0 #[vd f0, us] []) _
    refine XS.dloadN X0.here hx rfl (hb hby d6_0) rfl ?_
    show SS p e below s₁ (mkF m 1 #[vd f0, us] [(.double f0)]) _
    refine st1 _ ?_
    show SS p e below T1 (mkF m 4 #[vd f0, us] [(.double (f0 &&& (0x7fffffffffffffff : UInt64)))]) _
    refine X1.ldc2DoubleC hx hown (mvT hZ (wd hw 44 rfl)) (g := (mkF m 4 #[vd f0, us] [(.double (f0 &&& (0x7fffffffffffffff : UInt64)))])) rfl (hb hby d6_4) _ ?_
    show SS p e below T1 (mkF m 7 #[vd f0, us] [(.double (9218868437227405311 : UInt64)), (.double (f0 &&& (0x7fffffffffffffff : UInt64)))]) _
    refine XS.dcmpS X1.here hx rfl (hb hby d6_7) rfl (v := (cmpValue (FP.dcmp (f0 &&& (0x7fffffffffffffff : UInt64)) (9218868437227405311 : UInt64)) .g)) rfl ?_
    show SS p e below T1 (mkF m 8 #[vd f0, us] [(.int (cmpValue (FP.dcmp (f0 &&& (0x7fffffffffffffff : UInt64)) (9218868437227405311 : UInt64)) .g))]) _
    refine XS.ifNo X1.here hx rfl (hb hby d6_8) rfl ((if0 _ _).trans (flt (own_max uF : ¬ ((0 : Int32) < (cmpValue (FP.dcmp (f0 &&& (0x7fffffffffffffff : UInt64)) (9218868437227405311 : UInt64)) .g)))).2.2.1) ?_
    show SS p e below T1 (mkF m 11 #[vd f0, us] []) _
    refine XS.iconst X1.here hx rfl (hb hby d6_11) ?_
    show SS p e below T1 (mkF m 12 #[vd f0, us] [(.int (1 : Int32))]) _
    refine XS.goto X1.here hx rfl (pc0 := 12) (pc' := 16) rfl (hb hby d6_12) (by decide) (by decide) ?_
    show SS p e below T1 (mkF m 16 #[vd f0, us] [(.int (1 : Int32))]) _
    exact retN X1 hx (t := .boolean) Bd.returns (by simp) (hb hby d6_16) hr
  · show Q_rmF Z f0 h0 n0 _ T1.heap _
    rw [e1]
    exact ⟨rfl, N0, rfl⟩
theorem ef_1 (m : MethodId) (x0 : UInt64) : entryFrame m #[(.double x0)] 2 = mkF m 0 #[vd x0, us] [] := by first | (simp [entryFrame, mkF, argsToLocals, Value.category]; done) | rfl
theorem pn_1 : plainName "org/quarrel/model/Distribution" = true := by first | (simp [plainName, overriddenIn]; done) | decide +kernel
theorem d5_0 : decode prog_15_method_6_code 0 = .ok (.dload_n 0, 1) := by decide +kernel
theorem d5_1 : decode prog_15_method_6_code 1 = .ok (.dconst 0, 1) := by decide +kernel
theorem d5_2 : decode prog_15_method_6_code 2 = .ok (.dcmp .l, 1) := by decide +kernel
theorem d5_3 : decode prog_15_method_6_code 3 = .ok (.ifCond .lt 10, 3) := by decide +kernel
theorem d5_6 : decode prog_15_method_6_code 6 = .ok (.dload_n 0, 1) := by decide +kernel
theorem d5_7 : decode prog_15_method_6_code 7 = .ok (.invokestatic 51, 3) := by decide +kernel
theorem pd_1 : parseMethodDescriptor "(D)Z" = some ⟨[.double], some .boolean⟩ := by decide +kernel
theorem d5_10 : decode prog_15_method_6_code 10 = .ok (.ifCond .ne 17, 3) := by decide +kernel
theorem d5_27 : decode prog_15_method_6_code 27 = .ok (.return_, 1) := by decide +kernel
def Q_rmR (Z : State) (f0 : UInt64) (h0 : Heap) (n0 : Nat) (v : Option Value) (h : Heap) (L : List Loc) : Prop := (v = none ∧ Fr n0 L ∧ h = h0)
set_option maxRecDepth 65536 in
set_option maxHeartbeats 40000000 in
theorem rmR (l : Launch) (Z : State) (a0 : Array Value) (hw : ∀ d ∈ tables_1, d.before a0 Z = true) (ws : List Jvm.Cond) (f0 : UInt64) (h0 : Heap) (n0 : Nat) (Z0 : n0 ≤ h0.size) (uF : Jvm.Free.Fl.Fin64 f0) (uN : ¬ ((cmpValue (FP.dcmp f0 (0 : UInt64)) .l) < (0 : Int32))) :
    MetFree l (⟨"org/quarrel/model/Distribution", "requireProbability", "(D)V"⟩ : MethodName) (head1 (Jvm.Cond.code (⟨"org/quarrel/model/Distribution", "requireProbability", "(D)V"⟩ : MethodName) prog_15_method_6_code 2 none :: ws) ({ frames := 2, cells := 0, slots := 0, locals := 26 } : Room)) (fun a U => a = #[(.double f0)] ∧ Z.Warmed39 U.vm ∧ U.heap = h0) (fun _ _ _ _ _ => True) (fun _ U o U' => ∃ v L, o = .returned v ∧ Q_rmR Z f0 h0 n0 v U'.heap L ∧ FrameEnd U o U' L ({ frames := 2, cells := 0, slots := 0, locals := 26 } : Room).cells ({ frames := 2, cells := 0, slots := 0, locals := 26 } : Room).slots) := by
  refine MetFree.of_bodySF (plainFor_of_name pn_1) hisR ?_
  intro p e s m args below meth c s₁ Bd hml0 hP hK
  obtain ⟨rfl, hZ, hh⟩ := hP
  have hx := Bd.exec
  have hby := Bd.bytes
  have hml : c.maxLocals = 2 := hml0
  have hown : s.vm.findClass "org/quarrel/model/Distribution" = some m.cls := findClass_of_methodNamed Bd.named
  have hnm := (name_of_methodNamed Bd.named Bd.method).1
  have X0 : Stand p l e ({ frames := 2, cells := 0, slots := 0, locals := 26 } : Room) s m #[(.double f0)] below meth c s₁ [] 0 0 := Stand.of_body Bd
  have e0 : s₁.heap = h0 := by rw [← hh, Bd.state]; rfl
  have N0 := Fr.nil n0
  have pre0 : ∀ t, Steps p.tables e below (s₁.setTop (mkF m 0 #[vd f0, us] [])) t → Steps p.tables e below (s₁.setTop (entryFrame m #[(.double f0)] 2)) t := fun t k => castTop (ef_1 m f0) k
  obtain ⟨_, _, ⟨T1, L1, k1, n1⟩, -, X1, ⟨Lc1, hQ1, l1, y1, z1⟩, st1⟩ := Jvm.LawKit.callS X0 hx (y := (⟨"java/lang/Double", "isFinite", "(D)Z"⟩ : MethodName)) hown (mvT hZ (wd hw 36 rfl)) (mvT hZ (wd hw 37 rfl)) (mvT hZ (wd hw 38 rfl)) (mvT hZ (wd hw 39 rfl)) (by decide) (backOf (W := 0) (rmF l Z a0 hw [] f0 h0 n0 Z0 uF) hZ (wd hw 39 rfl) (wd hw 38 rfl) (by decide) (by decide)) (g := (mkF m 7 #[vd f0, us] [(.double f0)])) rfl (by rw [hml]; rfl) (argsL := [(.double f0)]) (rest := []) (lenOf pd_1 rfl) rfl (by show 2 * 0 + _ ≤ _; exact Nat.le_of_eq rfl) (hb hby d5_7) (fun _ _ => ⟨rfl, e0, (by decide : 0 + 0 ≤ _), (by decide : 0 + 0 ≤ _)⟩)
  dsimp only [Pt.U, Pt.locs, Pt.cells, Pt.slots] at X1 l1 y1 z1 st1 hQ1
  subst l1 y1 z1
  obtain ⟨rfl, Nq1, eh1⟩ := hQ1
  have N1 := Fr.app N0 Nq1
  obtain ⟨fs, hr, hrun, hended, hW, hsame⟩ := X1.leave (v := none) (fun _ => rfl)
  refine ⟨_, _, pre0 _ ?_, hrun, hended, _, _, rfl, ?_, ⟨_, rfl⟩, hW, hsame.mono (by decide) (by decide)⟩
  · show SS p e below s₁ (mkF m 0 #[vd f0, us] []) _
    refine XS.dloadN X0.here hx rfl (hb hby d5_0) rfl ?_
    show SS p e below s₁ (mkF m 1 #[vd f0, us] [(.double f0)]) _
    refine XS.dconst0 X0.here hx rfl (hb hby d5_1) (v := (0 : UInt64)) (by decide) ?_
    show SS p e below s₁ (mkF m 2 #[vd f0, us] [(.double (0 : UInt64)), (.double f0)]) _
    refine XS.dcmpS X0.here hx rfl (hb hby d5_2) rfl (v := (cmpValue (FP.dcmp f0 (0 : UInt64)) .l)) rfl ?_
    show SS p e below s₁ (mkF m 3 #[vd f0, us] [(.int (cmpValue (FP.dcmp f0 (0 : UInt64)) .l))]) _
    refine XS.ifNo X0.here hx rfl (hb hby d5_3) rfl ((if0 _ _).trans (flt (uN : ¬ ((cmpValue (FP.dcmp f0 (0 : UInt64)) .l) < (0 : Int32)))).1) ?_
    show SS p e below s₁ (mkF m 6 #[vd f0, us] []) _
    refine XS.dloadN X0.here hx rfl (hb hby d5_6) rfl ?_
    show SS p e below s₁ (mkF m 7 #[vd f0, us] [(.double f0)]) _
    refine st1 _ ?_
    show SS p e below T1 (mkF m 10 #[vd f0, us] [(.int (1 : Int32))]) _
    refine XS.ifYes X1.here hx rfl (pc0 := 10) (pc' := 27) rfl (hb hby d5_10) rfl ((if0 _ _).trans (feq (by decide : ¬ ((1 : Int32) = (0 : Int32)))).2) (by decide) (by decide) ?_
    show SS p e below T1 (mkF m 27 #[vd f0, us] []) _
    exact X1.returnOut hx Bd.returns (hb hby d5_27) hr
  · show Q_rmR Z f0 h0 n0 _ T1.heap _
    rw [eh1]
    exact ⟨rfl, N1, rfl⟩
theorem ef_2 (m : MethodId) (x1 : UInt64) (x2 : UInt64) (x3 : UInt64) (x4 : UInt64) : entryFrame m #[(.int (0 : Int32)), (.double x1), (.double x2), (.double x3), (.double x4)] 9 = mkF m 0 #[vi (0 : Int32), vd x1, us, vd x2, us, vd x3, us, vd x4, us] [] := by first | (simp [entryFrame, mkF, argsToLocals, Value.category]; done) | rfl
theorem pn_2 : plainName "org/quarrel/model/DistributionMeanPinLaw" = true := by first | (simp [plainName, overriddenIn]; done) | decide +kernel
theorem d1_0 : decode method_2_code 0 = .ok (.iload_n 0, 1) := by decide +kernel
theorem d1_1 : decode method_2_code 1 = .ok (.ifCond .ne 7, 3) := by decide +kernel
theorem d1_4 : decode method_2_code 4 = .ok (.iconst 0, 1) := by decide +kernel
theorem d1_5 : decode method_2_code 5 = .ok (.newarray .double, 2) := by decide +kernel
theorem d1_7 : decode method_2_code 7 = .ok (.areturn, 1) := by decide +kernel
def Q_rmW0 (Z : State) (f1 : UInt64) (f2 : UInt64) (f3 : UInt64) (f4 : UInt64) (h0 : Heap) (n0 : Nat) (v : Option Value) (h : Heap) (L : List Loc) : Prop := ∃ (nb : Addr), ∃ (kn : ClassId), (v = some (.ref nb) ∧ Fr n0 L ∧ Keep h0 h [] ∧ h0.size ≤ nb ∧ Exa Z h nb "[D" ∧ Arv Z h nb kn .double (0 : Int32) [] (.double 0))
set_option maxRecDepth 65536 in
set_option maxHeartbeats 40000000 in
theorem rmW0 (l : Launch) (Z : State) (a0 : Array Value) (hw : ∀ d ∈ tables_1, d.before a0 Z = true) (ws : List Jvm.Cond) (f1 : UInt64) (f2 : UInt64) (f3 : UInt64) (f4 : UInt64) (h0 : Heap) (n0 : Nat) (Z0 : n0 ≤ h0.size) :
    MetFree l (⟨"org/quarrel/model/DistributionMeanPinLaw", "weights", "(IDDDD)[D"⟩ : MethodName) (head1 (Jvm.Cond.code (⟨"org/quarrel/model/DistributionMeanPinLaw", "weights", "(IDDDD)[D"⟩ : MethodName) method_2_code 9 (some (.array .double)) :: ws) ({ frames := 0, cells := 1, slots := 0, locals := 0 } : Room)) (fun a U => a = #[(.int (0 : Int32)), (.double f1), (.double f2), (.double f3), (.double f4)] ∧ Z.Warmed39 U.vm ∧ U.heap = h0) (fun _ _ _ _ _ => True) (fun _ U o U' => ∃ v L, o = .returned v ∧ Q_rmW0 Z f1 f2 f3 f4 h0 n0 v U'.heap L ∧ FrameEnd U o U' L ({ frames := 0, cells := 1, slots := 0, locals := 0 } : Room).cells ({ frames := 0, cells := 1, slots := 0, locals := 0 } : Room).slots) := by
  refine MetFree.of_bodySF (plainFor_of_name pn_2) hisR ?_
  intro p e s m args below meth c s₁ Bd hml0 hP hK
  obtain ⟨rfl, hZ, hh⟩ := hP
  have hx := Bd.exec
  have hby := Bd.bytes
  have hml : c.maxLocals = 9 := hml0
  have hown : s.vm.findClass "org/quarrel/model/DistributionMeanPinLaw" = some m.cls := findClass_of_methodNamed Bd.named
  have hnm := (name_of_methodNamed Bd.named Bd.method).1
  have X0 : Stand p l e ({ frames := 0, cells := 1, slots := 0, locals := 0 } : Room) s m #[(.int (0 : Int32)), (.double f1), (.double f2), (.double f3), (.double f4)] below meth c s₁ [] 0 0 := Stand.of_body Bd
  have e0 : s₁.heap = h0 := by rw [← hh, Bd.state]; rfl
  have N0 := Fr.nil n0
  have pre0 : ∀ t, Steps p.tables e below (s₁.setTop (mkF m 0 #[vi (0 : Int32), vd f1, us, vd f2, us, vd f3, us, vd f4, us] [])) t → Steps p.tables e below (s₁.setTop (entryFrame m #[(.int (0 : Int32)), (.double f1), (.double f2), (.double f3), (.double f4)] 9)) t := fun t k => castTop (ef_2 m f1 f2 f3 f4) k
  obtain ⟨T1, h1, k1, X1, e1, E1, A1, AX1, st1⟩ := newPE X0 hx hZ (wd hw 5 rfl) e0 (g := (mkF m 5 #[vi (0 : Int32), vd f1, us, vd f2, us, vd f3, us, vd f4, us] [(.int (0 : Int32))])) rfl (hb hby d1_5) rfl (by decide) (cap := 0) (by decide) (by decide) (by decide) (by decide) (ad := "[D") (by decide)
  obtain ⟨b1, g1⟩ : ∃ z, z = h0.size := ⟨_, rfl⟩
  rw [← g1] at A1 AX1 st1
  have V1 : Arv Z h1 b1 k1 .double (0 : Int32) [] (.double 0) := (Arv.new A1 (by decide))
  have g_b1 : n0 ≤ b1 := Nat.le_trans Z0 (Nat.le_of_eq g1.symm)
  have sz_b1 : h0.size ≤ b1 := Nat.le_trans (Keep.refl h0 []).1 (Nat.le_of_eq g1.symm)
  have K1 : Keep h0 h1 [] := (Keep.refl h0 []).ext E1
  have Z1 : n0 ≤ h1.size := Nat.le_trans Z0 E1.1
  obtain ⟨fs, hr, hrun, hended, hW, hsame⟩ := X1.leave (v := some (.ref b1)) (fun h => by rw [Bd.returns] at h; cases h)
  refine ⟨_, _, pre0 _ ?_, hrun, hended, _, _, rfl, ?_, ⟨_, rfl⟩, hW, hsame.mono (by decide) (by decide)⟩
  · show SS p e below s₁ (mkF m 0 #[vi (0 : Int32), vd f1, us, vd f2, us, vd f3, us, vd f4, us] []) _
    refine XS.iloadN X0.here hx rfl (hb hby d1_0) rfl ?_
    show SS p e below s₁ (mkF m 1 #[vi (0 : Int32), vd f1, us, vd f2, us, vd f3, us, vd f4, us] [(.int (0 : Int32))]) _
    refine XS.ifNo X0.here hx rfl (hb hby d1_1) rfl ((if0 _ _).trans (teq (by decide : (0 : Int32) = (0 : Int32))).2) ?_
    show SS p e below s₁ (mkF m 4 #[vi (0 : Int32), vd f1, us, vd f2, us, vd f3, us, vd f4, us] []) _
    refine XS.iconst X0.here hx rfl (hb hby d1_4) ?_
    show SS p e below s₁ (mkF m 5 #[vi (0 : Int32), vd f1, us, vd f2, us, vd f3, us, vd f4, us] [(.int (0 : Int32))]) _
    refine st1 _ ?_
    show SS p e below T1 (mkF m 7 #[vi (0 : Int32), vd f1, us, vd f2, us, vd f3, us, vd f4, us] [(.ref b1)]) _
    exact retOut X1 hx Bd.returns rfl (Or.inr (Or.inr (Or.inr (Or.inr ⟨rfl, rfl, rfl⟩)))) (hb hby d1_7) hr
  · show Q_rmW0 Z f1 f2 f3 f4 h0 n0 _ T1.heap _
    rw [e1]
    exact ⟨b1, k1, rfl, N0, K1, sz_b1, AX1, V1⟩
theorem ef_3 (m : MethodId) (x0 : Addr) (x1 : Addr) (x2 : UInt64) : entryFrame m #[(.ref x0), (.ref x1), (.double x2)] 9 = mkF m 0 #[vr x0, vr x1, vd x2, us, uu, uu, uu, uu, uu] [] := by first | (simp [entryFrame, mkF, argsToLocals, Value.category]; done) | rfl
theorem d2_0 : decode prog_15_method_2_code 0 = .ok (.aload_n 0, 1) := by decide +kernel
theorem d2_1 : decode prog_15_method_2_code 1 = .ok (.invokespecial 7, 3) := by decide +kernel
theorem d2_4 : decode prog_15_method_2_code 4 = .ok (.aload_n 1, 1) := by decide +kernel
theorem d2_5 : decode prog_15_method_2_code 5 = .ok (.astore 4, 2) := by decide +kernel
theorem d2_7 : decode prog_15_method_2_code 7 = .ok (.aload 4, 2) := by decide +kernel
theorem d2_9 : decode prog_15_method_2_code 9 = .ok (.arraylength, 1) := by decide +kernel
theorem d2_10 : decode prog_15_method_2_code 10 = .ok (.istore 5, 2) := by decide +kernel
theorem d2_12 : decode prog_15_method_2_code 12 = .ok (.iconst 0, 1) := by decide +kernel
theorem d2_13 : decode prog_15_method_2_code 13 = .ok (.istore 6, 2) := by decide +kernel
theorem d2_15 : decode prog_15_method_2_code 15 = .ok (.iload 6, 2) := by decide +kernel
theorem d2_17 : decode prog_15_method_2_code 17 = .ok (.iload 5, 2) := by decide +kernel
theorem d2_19 : decode prog_15_method_2_code 19 = .ok (.if_icmp .ge 21, 3) := by decide +kernel
theorem d2_40 : decode prog_15_method_2_code 40 = .ok (.aload_n 0, 1) := by decide +kernel
theorem d2_41 : decode prog_15_method_2_code 41 = .ok (.aload_n 1, 1) := by decide +kernel
theorem d2_42 : decode prog_15_method_2_code 42 = .ok (.invokevirtual 16, 3) := by decide +kernel
theorem d2_45 : decode prog_15_method_2_code 45 = .ok (.checkcast 17, 3) := by decide +kernel
theorem d2_48 : decode prog_15_method_2_code 48 = .ok (.putfield 22, 3) := by decide +kernel
theorem d2_51 : decode prog_15_method_2_code 51 = .ok (.aload_n 0, 1) := by decide +kernel
theorem d2_52 : decode prog_15_method_2_code 52 = .ok (.dload_n 2, 1) := by decide +kernel
theorem d2_53 : decode prog_15_method_2_code 53 = .ok (.putfield 25, 3) := by decide +kernel
theorem d2_56 : decode prog_15_method_2_code 56 = .ok (.return_, 1) := by decide +kernel
def Q_rmI0 (Z : State) (r0 : Addr) (r1 : Addr) (f2 : UInt64) (kb : ClassId) (h0 : Heap) (n0 : Nat) (v : Option Value) (h : Heap) (L : List Loc) : Prop := ∃ (nb : Addr), (v = none ∧ Fr n0 L ∧ Keep h0 h [r0] ∧ Exa Z h r0 "org/quarrel/model/Distribution" ∧ Fld Z h r0 "org/quarrel/model/Distribution" "weights" "[D" (.ref nb) ∧ Fld Z h r0 "org/quarrel/model/Distribution" "total" "D" (.double f2) ∧ h0.size ≤ nb ∧ Arv Z h nb kb .double (0 : Int32) [] (.double 0))
set_option maxRecDepth 65536 in
set_option maxHeartbeats 40000000 in
theorem rmI0 (l : Launch) (Z : State) (a0 : Array Value) (hw : ∀ d ∈ tables_1, d.before a0 Z = true) (ws : List Jvm.Cond) (r0 : Addr) (r1 : Addr) (f2 : UInt64) (kb : ClassId) (h0 : Heap) (n0 : Nat) (Z0 : n0 ≤ h0.size) (uE : Exa Z h0 r0 "org/quarrel/model/Distribution") (uw : Fld Z h0 r0 "org/quarrel/model/Distribution" "weights" "[D" .null) (uo : Fld Z h0 r0 "org/quarrel/model/Distribution" "total" "D" (.double 0)) (ug : n0 ≤ r0) (uEb : Exa Z h0 r1 "[D") (uV : Arv Z h0 r1 kb .double (0 : Int32) [] (.double 0)) :
    MetFree l (⟨"org/quarrel/model/Distribution", "<init>", "([DD)V"⟩ : MethodName) (head1 (Jvm.Cond.code (⟨"org/quarrel/model/Distribution", "<init>", "([DD)V"⟩ : MethodName) prog_15_method_2_code 9 none :: ws) ({ frames := 1, cells := 1, slots := 0, locals := 15 } : Room)) (fun a U => a = #[(.ref r0), (.ref r1), (.double f2)] ∧ Z.Warmed39 U.vm ∧ U.heap = h0) (fun _ _ _ _ _ => True) (fun _ U o U' => ∃ v L, o = .returned v ∧ Q_rmI0 Z r0 r1 f2 kb h0 n0 v U'.heap L ∧ FrameEnd U o U' L ({ frames := 1, cells := 1, slots := 0, locals := 15 } : Room).cells ({ frames := 1, cells := 1, slots := 0, locals := 15 } : Room).slots) := by
  refine MetFree.of_bodySF (plainFor_of_name pn_1) hisR ?_
  intro p e s m args below meth c s₁ Bd hml0 hP hK
  obtain ⟨rfl, hZ, hh⟩ := hP
  have hx := Bd.exec
  have hby := Bd.bytes
  have hml : c.maxLocals = 9 := hml0
  have hown : s.vm.findClass "org/quarrel/model/Distribution" = some m.cls := findClass_of_methodNamed Bd.named
  have hnm := (name_of_methodNamed Bd.named Bd.method).1
  have X0 : Stand p l e ({ frames := 1, cells := 1, slots := 0, locals := 15 } : Room) s m #[(.ref r0), (.ref r1), (.double f2)] below meth c s₁ [] 0 0 := Stand.of_body Bd
  have e0 : s₁.heap = h0 := by rw [← hh, Bd.state]; rfl
  have N0 := Fr.nil n0
  have pre0 : ∀ t, Steps p.tables e below (s₁.setTop (mkF m 0 #[vr r0, vr r1, vd f2, us, uu, uu, uu, uu, uu] [])) t → Steps p.tables e below (s₁.setTop (entryFrame m #[(.ref r0), (.ref r1), (.double f2)] 9)) t := fun t k => castTop (ef_3 m r0 r1 f2) k
  obtain ⟨T1, X1, e1, st1⟩ := initO X0 hx hZ hown (wd hw 12 rfl) (wd hw 13 rfl) (wd hw 14 rfl) e0 (g := (mkF m 1 #[vr r0, vr r1, vd f2, us, uu, uu, uu, uu, uu] [(.ref r0)])) rfl (by rw [hml]; rfl) rfl (hb hby d2_1) (by decide) (W := 0) (by show 2 * 0 + _ ≤ _; exact Nat.le_of_eq rfl) (by decide)
  obtain ⟨cl2, Ar2, q2, S2, Nn2, H2, G2⟩ := (id uV)
  obtain ⟨T3, h3, X3, e3, E3, V3, A3, st3⟩ := cloneH X1 hx hZ hown (wd hw 15 rfl) (wd hw 16 rfl) (wd hw 20 rfl) (wd hw 18 rfl) (wd hw 19 rfl) (wd hw 21 rfl) e1 (Arv.arh uV) uEb (g := (mkF m 42 #[vr r0, vr r1, vd f2, us, vr r1, vi (0 : Int32), vi (0 : Int32), uu, uu] [(.ref r1), (.ref r0)])) rfl (by rw [hml]; rfl) rfl (hb hby d2_42) (by decide) (W := 1) (cap := 0) (by show 2 * 0 + _ ≤ _; exact Nat.le_of_eq rfl) (by decide) (by decide) (by decide) (by decide)
  obtain ⟨b3, g3⟩ : ∃ z, z = h0.size := ⟨_, rfl⟩
  rw [← g3] at V3 A3 st3
  have ne_r0_b3 : r0 ≠ b3 := Nat.ne_of_lt (Nat.lt_of_lt_of_le uE.lt (Nat.le_of_eq g3.symm))
  have ne_r1_b3 : r1 ≠ b3 := Nat.ne_of_lt (Nat.lt_of_lt_of_le uEb.lt (Nat.le_of_eq g3.symm))
  have Va3 : Arv Z h3 b3 kb .double (0 : Int32) [] (.double 0) := V3
  have g_b3 : n0 ≤ b3 := Nat.le_trans Z0 (Nat.le_of_eq g3.symm)
  have sz_b3 : h0.size ≤ b3 := Nat.le_trans (Keep.refl h0 [r0]).1 (Nat.le_of_eq g3.symm)
  have K3 : Keep h0 h3 [r0] := (Keep.refl h0 [r0]).ext E3
  have Z3 : n0 ≤ h3.size := Nat.le_trans Z0 E3.1
  obtain ⟨T4, X4, e4, st4⟩ := castY X3 hx hZ hown (wd hw 22 rfl) e3 (Ins.self A3) (g := (mkF m 45 #[vr r0, vr r1, vd f2, us, vr r1, vi (0 : Int32), vi (0 : Int32), uu, uu] [(.ref b3), (.ref r0)])) rfl rfl (hb hby d2_45)
  have c6 := (uE.ext E3)
  have c7 := (uw.ext E3)
  obtain ⟨T5, h5, X5, e5, W5, st5⟩ := putF X4 hx hZ hown (host := "") (Or.inl (wd hw 24 rfl)) Via.refl e4 c7 c6 (Or.inr ⟨(wd hw 25 rfl), rfl, hnm⟩) (wd hw 7 rfl) (ty := (.array .double)) (by decide) rfl rfl (g := (mkF m 48 #[vr r0, vr r1, vd f2, us, vr r1, vi (0 : Int32), vi (0 : Int32), uu, uu] [(.ref b3), (.ref r0)])) rfl rfl (hb hby d2_48)
  have Fw5 := c7.same W5
  have N5 := Fr.snoc X5 N0 ug
  have K5 : Keep h0 h5 [r0] := K3.wr W5 (Or.inl (List.mem_of_getElem? (i := 0) rfl))
  have Z5 : n0 ≤ h5.size := by rw [W5.size]; exact Z3
  have c9 := (c6.wr W5)
  have c10 := ((uo.ext E3).other W5 (Or.inr (slot_ne (Or.inr (wd hw 27 rfl)) (Or.inr (wd hw 25 rfl)) (by decide) (t := .double) (t' := (.array .double)) (by decide) (by decide))))
  obtain ⟨T8, h8, X8, e8, W8, st8⟩ := putF X5 hx hZ hown (host := "") (Or.inl (wd hw 26 rfl)) Via.refl e5 c10 c9 (Or.inr ⟨(wd hw 27 rfl), rfl, hnm⟩) (wd hw 7 rfl) (ty := .double) (by decide) rfl rfl (g := (mkF m 53 #[vr r0, vr r1, vd f2, us, vr r1, vi (0 : Int32), vi (0 : Int32), uu, uu] [(.double f2), (.ref r0)])) rfl rfl (hb hby d2_53)
  have Fw8 := c10.same W8
  have N8 := Fr.snoc X8 N5 ug
  have K8 : Keep h0 h8 [r0] := K5.wr W8 (Or.inl (List.mem_of_getElem? (i := 0) rfl))
  have Z8 : n0 ≤ h8.size := by rw [W8.size]; exact Z5
  have c11 := (c9.wr W8)
  have c12 := (Fw5.other W8 (Or.inr (slot_ne (Or.inr (wd hw 25 rfl)) (Or.inr (wd hw 27 rfl)) (by decide) (t := (.array .double)) (t' := .double) (by decide) (by decide))))
  have c13 := ((Va3.other W5 (Ne.symm ne_r0_b3)).other W8 (Ne.symm ne_r0_b3))
  obtain ⟨fs, hr, hrun, hended, hW, hsame⟩ := X8.leave (v := none) (fun _ => rfl)
  refine ⟨_, _, pre0 _ ?_, hrun, hended, _, _, rfl, ?_, ⟨_, rfl⟩, hW, hsame.mono (by decide) (by decide)⟩
  · show SS p e below s₁ (mkF m 0 #[vr r0, vr r1, vd f2, us, uu, uu, uu, uu, uu] []) _
    refine XS.aloadN X0.here hx rfl (hb hby d2_0) rfl rfl ?_
    show SS p e below s₁ (mkF m 1 #[vr r0, vr r1, vd f2, us, uu, uu, uu, uu, uu] [(.ref r0)]) _
    refine st1 _ ?_
    show SS p e below T1 (mkF m 4 #[vr r0, vr r1, vd f2, us, uu, uu, uu, uu, uu] []) _
    refine XS.aloadN X1.here hx rfl (hb hby d2_4) rfl rfl ?_
    show SS p e below T1 (mkF m 5 #[vr r0, vr r1, vd f2, us, uu, uu, uu, uu, uu] [(.ref r1)]) _
    refine XS.astore X1.here hx rfl (hb hby d2_5) rfl rfl (l' := #[vr r0, vr r1, vd f2, us, vr r1, uu, uu, uu, uu]) rfl ?_
    show SS p e below T1 (mkF m 7 #[vr r0, vr r1, vd f2, us, vr r1, uu, uu, uu, uu] []) _
    refine XS.aload X1.here hx rfl (hb hby d2_7) rfl rfl ?_
    show SS p e below T1 (mkF m 9 #[vr r0, vr r1, vd f2, us, vr r1, uu, uu, uu, uu] [(.ref r1)]) _
    refine X1.arraylength hx (own_at e1 Ar2.1) (State.isArrayOf_alike hZ.alike Ar2.2.1) (g := (mkF m 9 #[vr r0, vr r1, vd f2, us, vr r1, uu, uu, uu, uu] [(.ref r1)])) rfl rfl (hb hby d2_9) _ ?_
    rw [len_of S2 Nn2]
    show SS p e below T1 (mkF m 10 #[vr r0, vr r1, vd f2, us, vr r1, uu, uu, uu, uu] [(.int (0 : Int32))]) _
    refine XS.istore X1.here hx rfl (hb hby d2_10) rfl (l' := #[vr r0, vr r1, vd f2, us, vr r1, vi (0 : Int32), uu, uu, uu]) rfl ?_
    show SS p e below T1 (mkF m 12 #[vr r0, vr r1, vd f2, us, vr r1, vi (0 : Int32), uu, uu, uu] []) _
    refine XS.iconst X1.here hx rfl (hb hby d2_12) ?_
    show SS p e below T1 (mkF m 13 #[vr r0, vr r1, vd f2, us, vr r1, vi (0 : Int32), uu, uu, uu] [(.int (0 : Int32))]) _
    refine XS.istore X1.here hx rfl (hb hby d2_13) rfl (l' := #[vr r0, vr r1, vd f2, us, vr r1, vi (0 : Int32), vi (0 : Int32), uu, uu]) rfl ?_
    show SS p e below T1 (mkF m 15 #[vr r0, vr r1, vd f2, us, vr r1, vi (0 : Int32), vi (0 : Int32), uu, uu] []) _
    refine XS.iload X1.here hx rfl (hb hby d2_15) rfl ?_
    show SS p e below T1 (mkF m 17 #[vr r0, vr r1, vd f2, us, vr r1, vi (0 : Int32), vi (0 : Int32), uu, uu] [(.int (0 : Int32))]) _
    refine XS.iload X1.here hx rfl (hb hby d2_17) rfl ?_
    show SS p e below T1 (mkF m 19 #[vr r0, vr r1, vd f2, us, vr r1, vi (0 : Int32), vi (0 : Int32), uu, uu] [(.int (0 : Int32)), (.int (0 : Int32))]) _
    refine XS.icmpYes X1.here hx rfl (pc0 := 19) (pc' := 40) rfl (hb hby d2_19) rfl (flt (by decide : ¬ ((0 : Int32) < (0 : Int32)))).2.1 (by decide) (by decide) ?_
    show SS p e below T1 (mkF m 40 #[vr r0, vr r1, vd f2, us, vr r1, vi (0 : Int32), vi (0 : Int32), uu, uu] []) _
    refine XS.aloadN X1.here hx rfl (hb hby d2_40) rfl rfl ?_
    show SS p e below T1 (mkF m 41 #[vr r0, vr r1, vd f2, us, vr r1, vi (0 : Int32), vi (0 : Int32), uu, uu] [(.ref r0)]) _
    refine XS.aloadN X1.here hx rfl (hb hby d2_41) rfl rfl ?_
    show SS p e below T1 (mkF m 42 #[vr r0, vr r1, vd f2, us, vr r1, vi (0 : Int32), vi (0 : Int32), uu, uu] [(.ref r1), (.ref r0)]) _
    refine st3 _ ?_
    show SS p e below T3 (mkF m 45 #[vr r0, vr r1, vd f2, us, vr r1, vi (0 : Int32), vi (0 : Int32), uu, uu] [(.ref b3), (.ref r0)]) _
    refine st4 _ ?_
    show SS p e below T4 (mkF m 48 #[vr r0, vr r1, vd f2, us, vr r1, vi (0 : Int32), vi (0 : Int32), uu, uu] [(.ref b3), (.ref r0)]) _
    refine st5 _ ?_
    show SS p e below T5 (mkF m 51 #[vr r0, vr r1, vd f2, us, vr r1, vi (0 : Int32), vi (0 : Int32), uu, uu] []) _
    refine XS.aloadN X5.here hx rfl (hb hby d2_51) rfl rfl ?_
    show SS p e below T5 (mkF m 52 #[vr r0, vr r1, vd f2, us, vr r1, vi (0 : Int32), vi (0 : Int32), uu, uu] [(.ref r0)]) _
    refine XS.dloadN X5.here hx rfl (hb hby d2_52) rfl ?_
    show SS p e below T5 (mkF m 53 #[vr r0, vr r1, vd f2, us, vr r1, vi (0 : Int32), vi (0 : Int32), uu, uu] [(.double f2), (.ref r0)]) _
    refine st8 _ ?_
    show SS p e below T8 (mkF m 56 #[vr r0, vr r1, vd f2, us, vr r1, vi (0 : Int32), vi (0 : Int32), uu, uu] []) _
    exact X8.returnOut hx Bd.returns (hb hby d2_56) hr
  · show Q_rmI0 Z r0 r1 f2 kb h0 n0 _ T8.heap _
    rw [e8]
    exact ⟨b3, rfl, N8, K8, c11, c12, Fw8, sz_b3, c13⟩
theorem ef_4 (m : MethodId) (x0 : Addr) : entryFrame m #[(.ref x0)] 4 = mkF m 0 #[vr x0, uu, uu, uu] [] := by first | (simp [entryFrame, mkF, argsToLocals, Value.category]; done) | rfl
theorem d4_0 : decode prog_15_method_11_code 0 = .ok (.dconst 0, 1) := by decide +kernel
theorem d4_1 : decode prog_15_method_11_code 1 = .ok (.dstore_n 1, 1) := by decide +kernel
theorem d4_2 : decode prog_15_method_11_code 2 = .ok (.iconst 1, 1) := by decide +kernel
theorem d4_3 : decode prog_15_method_11_code 3 = .ok (.istore_n 3, 1) := by decide +kernel
theorem d4_4 : decode prog_15_method_11_code 4 = .ok (.iload_n 3, 1) := by decide +kernel
theorem d4_5 : decode prog_15_method_11_code 5 = .ok (.aload_n 0, 1) := by decide +kernel
theorem d4_6 : decode prog_15_method_11_code 6 = .ok (.getfield 22, 3) := by decide +kernel
theorem d4_9 : decode prog_15_method_11_code 9 = .ok (.arraylength, 1) := by decide +kernel
theorem d4_10 : decode prog_15_method_11_code 10 = .ok (.if_icmp .ge 21, 3) := by decide +kernel
theorem d4_31 : decode prog_15_method_11_code 31 = .ok (.dload_n 1, 1) := by decide +kernel
theorem d4_32 : decode prog_15_method_11_code 32 = .ok (.aload_n 0, 1) := by decide +kernel
theorem d4_33 : decode prog_15_method_11_code 33 = .ok (.getfield 25, 3) := by decide +kernel
theorem d4_36 : decode prog_15_method_11_code 36 = .ok (.ddiv, 1) := by decide +kernel
theorem d4_37 : decode prog_15_method_11_code 37 = .ok (.dreturn, 1) := by decide +kernel
def Q_rmM0 (Z : State) (r0 : Addr) (rb : Addr) (kb : ClassId) (vt : Int64) (h0 : Heap) (n0 : Nat) (v : Option Value) (h : Heap) (L : List Loc) : Prop := (v = some (.double (FP.ddiv (FP.l2d (0 : Int64)) (FP.l2d vt))) ∧ Fr n0 L ∧ h = h0)
set_option maxRecDepth 65536 in
set_option maxHeartbeats 40000000 in
theorem rmM0 (l : Launch) (Z : State) (a0 : Array Value) (hw : ∀ d ∈ tables_1, d.before a0 Z = true) (ws : List Jvm.Cond) (r0 : Addr) (rb : Addr) (kb : ClassId) (vt : Int64) (h0 : Heap) (n0 : Nat) (Z0 : n0 ≤ h0.size) (uw : Fld Z h0 r0 "org/quarrel/model/Distribution" "weights" "[D" (.ref rb)) (uo : Fld Z h0 r0 "org/quarrel/model/Distribution" "total" "D" (.double (FP.l2d vt))) (uV : Arv Z h0 rb kb .double (0 : Int32) [] (.double 0)) (unz : vt ≠ 0) :
    MetFree l (⟨"org/quarrel/model/Distribution", "mean", "()D"⟩ : MethodName) (head1 (Jvm.Cond.code (⟨"org/quarrel/model/Distribution", "mean", "()D"⟩ : MethodName) prog_15_method_11_code 4 (some .double) :: ws) ({ frames := 0, cells := 0, slots := 0, locals := 0 } : Room)) (fun a U => a = #[(.ref r0)] ∧ Z.Warmed39 U.vm ∧ U.heap = h0) (fun _ _ _ _ _ => True) (fun _ U o U' => ∃ v L, o = .returned v ∧ Q_rmM0 Z r0 rb kb vt h0 n0 v U'.heap L ∧ FrameEnd U o U' L ({ frames := 0, cells := 0, slots := 0, locals := 0 } : Room).cells ({ frames := 0, cells := 0, slots := 0, locals := 0 } : Room).slots) := by
  refine MetFree.of_bodySF (plainFor_of_name pn_1) hisR ?_
  intro p e s m args below meth c s₁ Bd hml0 hP hK
  obtain ⟨rfl, hZ, hh⟩ := hP
  have hx := Bd.exec
  have hby := Bd.bytes
  have hml : c.maxLocals = 4 := hml0
  have hown : s.vm.findClass "org/quarrel/model/Distribution" = some m.cls := findClass_of_methodNamed Bd.named
  have hnm := (name_of_methodNamed Bd.named Bd.method).1
  have X0 : Stand p l e ({ frames := 0, cells := 0, slots := 0, locals := 0 } : Room) s m #[(.ref r0)] below meth c s₁ [] 0 0 := Stand.of_body Bd
  have e0 : s₁.heap = h0 := by rw [← hh, Bd.state]; rfl
  have N0 := Fr.nil n0
  have pre0 : ∀ t, Steps p.tables e below (s₁.setTop (mkF m 0 #[vr r0, uu, uu, uu] [])) t → Steps p.tables e below (s₁.setTop (entryFrame m #[(.ref r0)] 4)) t := fun t k => castTop (ef_4 m r0) k
  obtain ⟨T1, X1, e1, st1⟩ := getF X0 hx hZ hown (host := "") (Or.inl (wd hw 24 rfl)) Via.refl e0 uw (g := (mkF m 6 #[vr r0, vd (FP.l2d (0 : Int64)), us, vi (1 : Int32)] [(.ref r0), (.int (1 : Int32))])) rfl rfl (hb hby d4_6)
  obtain ⟨cl2, Ar2, q2, S2, Nn2, H2, G2⟩ := (id uV)
  obtain ⟨T3, X3, e3, st3⟩ := getF X1 hx hZ hown (host := "") (Or.inl (wd hw 26 rfl)) Via.refl e1 uo (g := (mkF m 33 #[vr r0, vd (FP.l2d (0 : Int64)), us, vi (1 : Int32)] [(.ref r0), (.double (FP.l2d (0 : Int64)))])) rfl rfl (hb hby d4_33)
  obtain ⟨fs, hr, hrun, hended, hW, hsame⟩ := X3.leave (v := some (.double (FP.ddiv (FP.l2d (0 : Int64)) (FP.l2d vt)))) (fun h => by rw [Bd.returns] at h; cases h)
  refine ⟨_, _, pre0 _ ?_, hrun, hended, _, _, rfl, ?_, ⟨_, rfl⟩, hW, hsame.mono (by decide) (by decide)⟩
  · show SS p e below s₁ (mkF m 0 #[vr r0, uu, uu, uu] []) _
    refine XS.dconst0 X0.here hx rfl (hb hby d4_0) (v := (FP.l2d (0 : Int64))) (by decide) ?_
    show SS p e below s₁ (mkF m 1 #[vr r0, uu, uu, uu] [(.double (FP.l2d (0 : Int64)))]) _
    refine XS.dstoreN X0.here hx rfl (hb hby d4_1) rfl (l' := #[vr r0, vd (FP.l2d (0 : Int64)), us, uu]) rfl ?_
    show SS p e below s₁ (mkF m 2 #[vr r0, vd (FP.l2d (0 : Int64)), us, uu] []) _
    refine XS.iconst X0.here hx rfl (hb hby d4_2) ?_
    show SS p e below s₁ (mkF m 3 #[vr r0, vd (FP.l2d (0 : Int64)), us, uu] [(.int (1 : Int32))]) _
    refine XS.istoreN X0.here hx rfl (hb hby d4_3) rfl (l' := #[vr r0, vd (FP.l2d (0 : Int64)), us, vi (1 : Int32)]) rfl ?_
    show SS p e below s₁ (mkF m 4 #[vr r0, vd (FP.l2d (0 : Int64)), us, vi (1 : Int32)] []) _
    refine XS.iloadN X0.here hx rfl (hb hby d4_4) rfl ?_
    show SS p e below s₁ (mkF m 5 #[vr r0, vd (FP.l2d (0 : Int64)), us, vi (1 : Int32)] [(.int (1 : Int32))]) _
    refine XS.aloadN X0.here hx rfl (hb hby d4_5) rfl rfl ?_
    show SS p e below s₁ (mkF m 6 #[vr r0, vd (FP.l2d (0 : Int64)), us, vi (1 : Int32)] [(.ref r0), (.int (1 : Int32))]) _
    refine st1 _ ?_
    show SS p e below T1 (mkF m 9 #[vr r0, vd (FP.l2d (0 : Int64)), us, vi (1 : Int32)] [(.ref rb), (.int (1 : Int32))]) _
    refine X1.arraylength hx (own_at e1 Ar2.1) (State.isArrayOf_alike hZ.alike Ar2.2.1) (g := (mkF m 9 #[vr r0, vd (FP.l2d (0 : Int64)), us, vi (1 : Int32)] [(.ref rb), (.int (1 : Int32))])) rfl rfl (hb hby d4_9) _ ?_
    rw [len_of S2 Nn2]
    show SS p e below T1 (mkF m 10 #[vr r0, vd (FP.l2d (0 : Int64)), us, vi (1 : Int32)] [(.int (0 : Int32)), (.int (1 : Int32))]) _
    refine XS.icmpYes X1.here hx rfl (pc0 := 10) (pc' := 31) rfl (hb hby d4_10) rfl (flt (by decide : ¬ ((1 : Int32) < (0 : Int32)))).2.1 (by decide) (by decide) ?_
    show SS p e below T1 (mkF m 31 #[vr r0, vd (FP.l2d (0 : Int64)), us, vi (1 : Int32)] []) _
    refine XS.dloadN X1.here hx rfl (hb hby d4_31) rfl ?_
    show SS p e below T1 (mkF m 32 #[vr r0, vd (FP.l2d (0 : Int64)), us, vi (1 : Int32)] [(.double (FP.l2d (0 : Int64)))]) _
    refine XS.aloadN X1.here hx rfl (hb hby d4_32) rfl rfl ?_
    show SS p e below T1 (mkF m 33 #[vr r0, vd (FP.l2d (0 : Int64)), us, vi (1 : Int32)] [(.ref r0), (.double (FP.l2d (0 : Int64)))]) _
    refine st3 _ ?_
    show SS p e below T3 (mkF m 36 #[vr r0, vd (FP.l2d (0 : Int64)), us, vi (1 : Int32)] [(.double (FP.l2d vt)), (.double (FP.l2d (0 : Int64)))]) _
    refine XS.ddivS X3.here hx rfl (hb hby d4_36) rfl (v := (FP.ddiv (FP.l2d (0 : Int64)) (FP.l2d vt))) (own_dnn _ unz) rfl ?_
    show SS p e below T3 (mkF m 37 #[vr r0, vd (FP.l2d (0 : Int64)), us, vi (1 : Int32)] [(.double (FP.ddiv (FP.l2d (0 : Int64)) (FP.l2d vt)))]) _
    exact retOut X3 hx Bd.returns rfl (Or.inr (Or.inr (Or.inl ⟨rfl, rfl, _, rfl⟩))) (hb hby d4_37) hr
  · show Q_rmM0 Z r0 rb kb vt h0 n0 _ T3.heap _
    rw [e3]
    exact ⟨rfl, N0, rfl⟩
theorem ef_5 (m : MethodId) (x1 : UInt64) (x2 : UInt64) (x3 : UInt64) (x4 : UInt64) : entryFrame m #[(.int (1 : Int32)), (.double x1), (.double x2), (.double x3), (.double x4)] 9 = mkF m 0 #[vi (1 : Int32), vd x1, us, vd x2, us, vd x3, us, vd x4, us] [] := by first | (simp [entryFrame, mkF, argsToLocals, Value.category]; done) | rfl
theorem d1_8 : decode method_2_code 8 = .ok (.iload_n 0, 1) := by decide +kernel
theorem d1_9 : decode method_2_code 9 = .ok (.iconst 1, 1) := by decide +kernel
theorem d1_10 : decode method_2_code 10 = .ok (.if_icmp .ne 11, 3) := by decide +kernel
theorem d1_13 : decode method_2_code 13 = .ok (.iconst 1, 1) := by decide +kernel
theorem d1_14 : decode method_2_code 14 = .ok (.newarray .double, 2) := by decide +kernel
theorem d1_16 : decode method_2_code 16 = .ok (.dup, 1) := by decide +kernel
theorem d1_17 : decode method_2_code 17 = .ok (.iconst 0, 1) := by decide +kernel
theorem d1_18 : decode method_2_code 18 = .ok (.dload_n 1, 1) := by decide +kernel
theorem d1_19 : decode method_2_code 19 = .ok (.dastore, 1) := by decide +kernel
theorem d1_20 : decode method_2_code 20 = .ok (.areturn, 1) := by decide +kernel
def Q_rmW1 (Z : State) (f1 : UInt64) (f2 : UInt64) (f3 : UInt64) (f4 : UInt64) (h0 : Heap) (n0 : Nat) (v : Option Value) (h : Heap) (L : List Loc) : Prop := ∃ (nb : Addr), ∃ (kn : ClassId), (v = some (.ref nb) ∧ Fr n0 L ∧ Keep h0 h [] ∧ h0.size ≤ nb ∧ Exa Z h nb "[D" ∧ Arv Z h nb kn .double (1 : Int32) [(.double f1)] (.double 0))
set_option maxRecDepth 65536 in
set_option maxHeartbeats 40000000 in
theorem rmW1 (l : Launch) (Z : State) (a0 : Array Value) (hw : ∀ d ∈ tables_1, d.before a0 Z = true) (ws : List Jvm.Cond) (f1 : UInt64) (f2 : UInt64) (f3 : UInt64) (f4 : UInt64) (h0 : Heap) (n0 : Nat) (Z0 : n0 ≤ h0.size) :
    MetFree l (⟨"org/quarrel/model/DistributionMeanPinLaw", "weights", "(IDDDD)[D"⟩ : MethodName) (head1 (Jvm.Cond.code (⟨"org/quarrel/model/DistributionMeanPinLaw", "weights", "(IDDDD)[D"⟩ : MethodName) method_2_code 9 (some (.array .double)) :: ws) ({ frames := 0, cells := 1, slots := 1, locals := 0 } : Room)) (fun a U => a = #[(.int (1 : Int32)), (.double f1), (.double f2), (.double f3), (.double f4)] ∧ Z.Warmed39 U.vm ∧ U.heap = h0) (fun _ _ _ _ _ => True) (fun _ U o U' => ∃ v L, o = .returned v ∧ Q_rmW1 Z f1 f2 f3 f4 h0 n0 v U'.heap L ∧ FrameEnd U o U' L ({ frames := 0, cells := 1, slots := 1, locals := 0 } : Room).cells ({ frames := 0, cells := 1, slots := 1, locals := 0 } : Room).slots) := by
  refine MetFree.of_bodySF (plainFor_of_name pn_2) hisR ?_
  intro p e s m args below meth c s₁ Bd hml0 hP hK
  obtain ⟨rfl, hZ, hh⟩ := hP
  have hx := Bd.exec
  have hby := Bd.bytes
  have hml : c.maxLocals = 9 := hml0
  have hown : s.vm.findClass "org/quarrel/model/DistributionMeanPinLaw" = some m.cls := findClass_of_methodNamed Bd.named
  have hnm := (name_of_methodNamed Bd.named Bd.method).1
  have X0 : Stand p l e ({ frames := 0, cells := 1, slots := 1, locals := 0 } : Room) s m #[(.int (1 : Int32)), (.double f1), (.double f2), (.double f3), (.double f4)] below meth c s₁ [] 0 0 := Stand.of_body Bd
  have e0 : s₁.heap = h0 := by rw [← hh, Bd.state]; rfl
  have N0 := Fr.nil n0
  have pre0 : ∀ t, Steps p.tables e below (s₁.setTop (mkF m 0 #[vi (1 : Int32), vd f1, us, vd f2, us, vd f3, us, vd f4, us] [])) t → Steps p.tables e below (s₁.setTop (entryFrame m #[(.int (1 : Int32)), (.double f1), (.double f2), (.double f3), (.double f4)] 9)) t := fun t k => castTop (ef_5 m f1 f2 f3 f4) k
  obtain ⟨T1, h1, k1, X1, e1, E1, A1, AX1, st1⟩ := newPE X0 hx hZ (wd hw 5 rfl) e0 (g := (mkF m 14 #[vi (1 : Int32), vd f1, us, vd f2, us, vd f3, us, vd f4, us] [(.int (1 : Int32))])) rfl (hb hby d1_14) rfl (by decide) (cap := 1) (by decide) (by decide) (by decide) (by decide) (ad := "[D") (by decide)
  obtain ⟨b1, g1⟩ : ∃ z, z = h0.size := ⟨_, rfl⟩
  rw [← g1] at A1 AX1 st1
  have V1 : Arv Z h1 b1 k1 .double (1 : Int32) [(.double 0)] (.double 0) := (Arv.new A1 (by decide)).pad (pad_rep [] (.double 0) 1)
  have g_b1 : n0 ≤ b1 := Nat.le_trans Z0 (Nat.le_of_eq g1.symm)
  have sz_b1 : h0.size ≤ b1 := Nat.le_trans (Keep.refl h0 []).1 (Nat.le_of_eq g1.symm)
  have K1 : Keep h0 h1 [] := (Keep.refl h0 []).ext E1
  have Z1 : n0 ≤ h1.size := Nat.le_trans Z0 E1.1
  obtain ⟨cl2, Ar2, q2, S2, Nn2, H2, G2⟩ := (id V1)
  have hin2 : ¬ ((0 : Int32) < 0 ∨ cl2.slots.size ≤ ((0 : Int32)).toNatClampNeg) := inb_of S2 ⟨by decide, by decide⟩
  obtain ⟨T2, h2, X2, e2, W2, st2⟩ := stD X1 hx hZ e1 Ar2 (j := (0 : Int32)) hin2 (g := (mkF m 19 #[vi (1 : Int32), vd f1, us, vd f2, us, vd f3, us, vd f4, us] [(.double f1), (.int (0 : Int32)), (.ref b1), (.ref b1)])) rfl rfl (hb hby d1_19)
  have V2 : Arv Z h2 b1 k1 .double (1 : Int32) [(.double f1)] (.double 0) := Arv.set Ar2 q2 S2 Nn2 H2 G2 rfl W2 0 rfl (Nat.le_of_ble_eq_true rfl)
  have N2 := Fr.snoc X2 N0 g_b1
  have K2 : Keep h0 h2 [] := K1.wr W2 (Or.inr sz_b1)
  have Z2 : n0 ≤ h2.size := by rw [W2.size]; exact Z1
  have c3 := (AX1.wr W2)
  obtain ⟨fs, hr, hrun, hended, hW, hsame⟩ := X2.leave (v := some (.ref b1)) (fun h => by rw [Bd.returns] at h; cases h)
  refine ⟨_, _, pre0 _ ?_, hrun, hended, _, _, rfl, ?_, ⟨_, rfl⟩, hW, hsame.mono (by decide) (by decide)⟩
  · show SS p e below s₁ (mkF m 0 #[vi (1 : Int32), vd f1, us, vd f2, us, vd f3, us, vd f4, us] []) _
    refine XS.iloadN X0.here hx rfl (hb hby d1_0) rfl ?_
    show SS p e below s₁ (mkF m 1 #[vi (1 : Int32), vd f1, us, vd f2, us, vd f3, us, vd f4, us] [(.int (1 : Int32))]) _
    refine XS.ifYes X0.here hx rfl (pc0 := 1) (pc' := 8) rfl (hb hby d1_1) rfl ((if0 _ _).trans (feq (by decide : ¬ ((1 : Int32) = (0 : Int32)))).2) (by decide) (by decide) ?_
    show SS p e below s₁ (mkF m 8 #[vi (1 : Int32), vd f1, us, vd f2, us, vd f3, us, vd f4, us] []) _
    refine XS.iloadN X0.here hx rfl (hb hby d1_8) rfl ?_
    show SS p e below s₁ (mkF m 9 #[vi (1 : Int32), vd f1, us, vd f2, us, vd f3, us, vd f4, us] [(.int (1 : Int32))]) _
    refine XS.iconst X0.here hx rfl (hb hby d1_9) ?_
    show SS p e below s₁ (mkF m 10 #[vi (1 : Int32), vd f1, us, vd f2, us, vd f3, us, vd f4, us] [(.int (1 : Int32)), (.int (1 : Int32))]) _
    refine XS.icmpNo X0.here hx rfl (hb hby d1_10) rfl (teq (by decide : (1 : Int32) = (1 : Int32))).2 ?_
    show SS p e below s₁ (mkF m 13 #[vi (1 : Int32), vd f1, us, vd f2, us, vd f3, us, vd f4, us] []) _
    refine XS.iconst X0.here hx rfl (hb hby d1_13) ?_
    show SS p e below s₁ (mkF m 14 #[vi (1 : Int32), vd f1, us, vd f2, us, vd f3, us, vd f4, us] [(.int (1 : Int32))]) _
    refine st1 _ ?_
    show SS p e below T1 (mkF m 16 #[vi (1 : Int32), vd f1, us, vd f2, us, vd f3, us, vd f4, us] [(.ref b1)]) _
    refine XS.dup X1.here hx rfl (hb hby d1_16) rfl rfl ?_
    show SS p e below T1 (mkF m 17 #[vi (1 : Int32), vd f1, us, vd f2, us, vd f3, us, vd f4, us] [(.ref b1), (.ref b1)]) _
    refine XS.iconst X1.here hx rfl (hb hby d1_17) ?_
    show SS p e below T1 (mkF m 18 #[vi (1 : Int32), vd f1, us, vd f2, us, vd f3, us, vd f4, us] [(.int (0 : Int32)), (.ref b1), (.ref b1)]) _
    refine XS.dloadN X1.here hx rfl (hb hby d1_18) rfl ?_
    show SS p e below T1 (mkF m 19 #[vi (1 : Int32), vd f1, us, vd f2, us, vd f3, us, vd f4, us] [(.double f1), (.int (0 : Int32)), (.ref b1), (.ref b1)]) _
    refine st2 _ ?_
    show SS p e below T2 (mkF m 20 #[vi (1 : Int32), vd f1, us, vd f2, us, vd f3, us, vd f4, us] [(.ref b1)]) _
    exact retOut X2 hx Bd.returns rfl (Or.inr (Or.inr (Or.inr (Or.inr ⟨rfl, rfl, rfl⟩)))) (hb hby d1_20) hr
  · show Q_rmW1 Z f1 f2 f3 f4 h0 n0 _ T2.heap _
    rw [e2]
    exact ⟨b1, k1, rfl, N2, K2, sz_b1, c3, V2⟩
theorem d2_22 : decode prog_15_method_2_code 22 = .ok (.aload 4, 2) := by decide +kernel
theorem d2_24 : decode prog_15_method_2_code 24 = .ok (.iload 6, 2) := by decide +kernel
theorem d2_26 : decode prog_15_method_2_code 26 = .ok (.daload, 1) := by decide +kernel
theorem d2_27 : decode prog_15_method_2_code 27 = .ok (.dstore 7, 2) := by decide +kernel
theorem d2_29 : decode prog_15_method_2_code 29 = .ok (.dload 7, 2) := by decide +kernel
theorem d2_31 : decode prog_15_method_2_code 31 = .ok (.invokestatic 12, 3) := by decide +kernel
theorem pd_2 : parseMethodDescriptor "(D)V" = some ⟨[.double], none⟩ := by decide +kernel
theorem d2_34 : decode prog_15_method_2_code 34 = .ok (.iinc 6 1, 3) := by decide +kernel
theorem d2_37 : decode prog_15_method_2_code 37 = .ok (.goto (-22), 3) := by decide +kernel
def Q_rmI1 (Z : State) (r0 : Addr) (r1 : Addr) (f2 : UInt64) (kb : ClassId) (v0 : Int64) (h0 : Heap) (n0 : Nat) (v : Option Value) (h : Heap) (L : List Loc) : Prop := ∃ (nb : Addr), (v = none ∧ Fr n0 L ∧ Keep h0 h [r0] ∧ Exa Z h r0 "org/quarrel/model/Distribution" ∧ Fld Z h r0 "org/quarrel/model/Distribution" "weights" "[D" (.ref nb) ∧ Fld Z h r0 "org/quarrel/model/Distribution" "total" "D" (.double f2) ∧ h0.size ≤ nb ∧ Arv Z h nb kb .double (1 : Int32) [(.double (FP.l2d v0))] (.double 0))
set_option maxRecDepth 65536 in
set_option maxHeartbeats 40000000 in
theorem rmI1 (l : Launch) (Z : State) (a0 : Array Value) (hw : ∀ d ∈ tables_1, d.before a0 Z = true) (ws : List Jvm.Cond) (r0 : Addr) (r1 : Addr) (f2 : UInt64) (kb : ClassId) (v0 : Int64) (h0 : Heap) (n0 : Nat) (Z0 : n0 ≤ h0.size) (uE : Exa Z h0 r0 "org/quarrel/model/Distribution") (uw : Fld Z h0 r0 "org/quarrel/model/Distribution" "weights" "[D" .null) (uo : Fld Z h0 r0 "org/quarrel/model/Distribution" "total" "D" (.double 0)) (ug : n0 ≤ r0) (uEb : Exa Z h0 r1 "[D") (uV : Arv Z h0 r1 kb .double (1 : Int32) [(.double (FP.l2d v0))] (.double 0)) (uz_v0 : 0 ≤ v0.toInt) (ut_v0 : v0.toInt < 2147483648) :
    MetFree l (⟨"org/quarrel/model/Distribution", "<init>", "([DD)V"⟩ : MethodName) (head1 (Jvm.Cond.code (⟨"org/quarrel/model/Distribution", "<init>", "([DD)V"⟩ : MethodName) prog_15_method_2_code 9 none :: ws) ({ frames := 3, cells := 1, slots := 1, locals := 39 } : Room)) (fun a U => a = #[(.ref r0), (.ref r1), (.double f2)] ∧ Z.Warmed39 U.vm ∧ U.heap = h0) (fun _ _ _ _ _ => True) (fun _ U o U' => ∃ v L, o = .returned v ∧ Q_rmI1 Z r0 r1 f2 kb v0 h0 n0 v U'.heap L ∧ FrameEnd U o U' L ({ frames := 3, cells := 1, slots := 1, locals := 39 } : Room).cells ({ frames := 3, cells := 1, slots := 1, locals := 39 } : Room).slots) := by
  refine MetFree.of_bodySF (plainFor_of_name pn_1) hisR ?_
  intro p e s m args below meth c s₁ Bd hml0 hP hK
  obtain ⟨rfl, hZ, hh⟩ := hP
  have hx := Bd.exec
  have hby := Bd.bytes
  have hml : c.maxLocals = 9 := hml0
  have hown : s.vm.findClass "org/quarrel/model/Distribution" = some m.cls := findClass_of_methodNamed Bd.named
  have hnm := (name_of_methodNamed Bd.named Bd.method).1
  have X0 : Stand p l e ({ frames := 3, cells := 1, slots := 1, locals := 39 } : Room) s m #[(.ref r0), (.ref r1), (.double f2)] below meth c s₁ [] 0 0 := Stand.of_body Bd
  have e0 : s₁.heap = h0 := by rw [← hh, Bd.state]; rfl
  have N0 := Fr.nil n0
  have pre0 : ∀ t, Steps p.tables e below (s₁.setTop (mkF m 0 #[vr r0, vr r1, vd f2, us, uu, uu, uu, uu, uu] [])) t → Steps p.tables e below (s₁.setTop (entryFrame m #[(.ref r0), (.ref r1), (.double f2)] 9)) t := fun t k => castTop (ef_3 m r0 r1 f2) k
  obtain ⟨T1, X1, e1, st1⟩ := initO X0 hx hZ hown (wd hw 12 rfl) (wd hw 13 rfl) (wd hw 14 rfl) e0 (g := (mkF m 1 #[vr r0, vr r1, vd f2, us, uu, uu, uu, uu, uu] [(.ref r0)])) rfl (by rw [hml]; rfl) rfl (hb hby d2_1) (by decide) (W := 0) (by show 2 * 0 + _ ≤ _; exact Nat.le_of_eq rfl) (by decide)
  obtain ⟨cl2, Ar2, q2, S2, Nn2, H2, G2⟩ := (id uV)
  obtain ⟨cl3, Ar3, q3, S3, Nn3, H3, G3⟩ := (id uV)
  have hin3 : ¬ ((0 : Int32) < 0 ∨ cl3.slots.size ≤ ((0 : Int32)).toNatClampNeg) := inb_of S3 ⟨by decide, by decide⟩
  have hat3 : cl3.slots[((0 : Int32)).toNatClampNeg]? = some (.double (FP.l2d v0)) := H3.at hin3 rfl
  obtain ⟨_, _, ⟨T4, L4, k4, n4⟩, -, X4, ⟨Lc4, hQ4, l4, y4, z4⟩, st4⟩ := Jvm.LawKit.callS X1 hx (y := (⟨"org/quarrel/model/Distribution", "requireProbability", "(D)V"⟩ : MethodName)) hown (mvT hZ (wd hw 33 rfl)) (mvT hZ (wd hw 34 rfl)) (mvT hZ (wd hw 8 rfl)) (mvT hZ (wd hw 35 rfl)) (by decide) (backOf (W := 0) (rmR l Z a0 hw [] (FP.l2d v0) h0 n0 Z0 (Jvm.Free.Fl.l2d_fin _) (own_nn uz_v0 ut_v0)) hZ (wd hw 35 rfl) (wd hw 8 rfl) (by decide) (by decide)) (g := (mkF m 31 #[vr r0, vr r1, vd f2, us, vr r1, vi (1 : Int32), vi (0 : Int32), vd (FP.l2d v0), us] [(.double (FP.l2d v0))])) rfl (by rw [hml]; rfl) (argsL := [(.double (FP.l2d v0))]) (rest := []) (lenOf pd_2 rfl) rfl (by show 2 * 0 + _ ≤ _; exact Nat.le_of_eq rfl) (hb hby d2_31) (fun _ _ => ⟨rfl, e1, (by decide : 0 + 0 ≤ _), (by decide : 0 + 0 ≤ _)⟩)
  dsimp only [Pt.U, Pt.locs, Pt.cells, Pt.slots] at X4 l4 y4 z4 st4 hQ4
  subst l4 y4 z4
  obtain ⟨rfl, Nq4, eh4⟩ := hQ4
  have N4 := Fr.app N0 Nq4
  obtain ⟨T5, h5, X5, e5, E5, V5, A5, st5⟩ := cloneH X4 hx hZ hown (wd hw 15 rfl) (wd hw 16 rfl) (wd hw 20 rfl) (wd hw 18 rfl) (wd hw 19 rfl) (wd hw 21 rfl) eh4 (Arv.arh uV) uEb (g := (mkF m 42 #[vr r0, vr r1, vd f2, us, vr r1, vi (1 : Int32), vi (1 : Int32), vd (FP.l2d v0), us] [(.ref r1), (.ref r0)])) rfl (by rw [hml]; rfl) rfl (hb hby d2_42) (by decide) (W := 1) (cap := 1) (by show 2 * 0 + _ ≤ _; exact Nat.le_of_eq rfl) (by decide) (by decide) (by decide) (by decide)
  obtain ⟨b5, g5⟩ : ∃ z, z = h0.size := ⟨_, rfl⟩
  rw [← g5] at V5 A5 st5
  have ne_r0_b5 : r0 ≠ b5 := Nat.ne_of_lt (Nat.lt_of_lt_of_le uE.lt (Nat.le_of_eq g5.symm))
  have ne_r1_b5 : r1 ≠ b5 := Nat.ne_of_lt (Nat.lt_of_lt_of_le uEb.lt (Nat.le_of_eq g5.symm))
  have Va5 : Arv Z h5 b5 kb .double (1 : Int32) [(.double (FP.l2d v0))] (.double 0) := V5
  have g_b5 : n0 ≤ b5 := Nat.le_trans Z0 (Nat.le_of_eq g5.symm)
  have sz_b5 : h0.size ≤ b5 := Nat.le_trans (Keep.refl h0 [r0]).1 (Nat.le_of_eq g5.symm)
  have K5 : Keep h0 h5 [r0] := (Keep.refl h0 [r0]).ext E5
  have Z5 : n0 ≤ h5.size := Nat.le_trans Z0 E5.1
  obtain ⟨T6, X6, e6, st6⟩ := castY X5 hx hZ hown (wd hw 22 rfl) e5 (Ins.self A5) (g := (mkF m 45 #[vr r0, vr r1, vd f2, us, vr r1, vi (1 : Int32), vi (1 : Int32), vd (FP.l2d v0), us] [(.ref b5), (.ref r0)])) rfl rfl (hb hby d2_45)
  have c8 := (uE.ext E5)
  have c9 := (uw.ext E5)
  obtain ⟨T7, h7, X7, e7, W7, st7⟩ := putF X6 hx hZ hown (host := "") (Or.inl (wd hw 24 rfl)) Via.refl e6 c9 c8 (Or.inr ⟨(wd hw 25 rfl), rfl, hnm⟩) (wd hw 7 rfl) (ty := (.array .double)) (by decide) rfl rfl (g := (mkF m 48 #[vr r0, vr r1, vd f2, us, vr r1, vi (1 : Int32), vi (1 : Int32), vd (FP.l2d v0), us] [(.ref b5), (.ref r0)])) rfl rfl (hb hby d2_48)
  have Fw7 := c9.same W7
  have N7 := Fr.snoc X7 N4 ug
  have K7 : Keep h0 h7 [r0] := K5.wr W7 (Or.inl (List.mem_of_getElem? (i := 0) rfl))
  have Z7 : n0 ≤ h7.size := by rw [W7.size]; exact Z5
  have c11 := (c8.wr W7)
  have c12 := ((uo.ext E5).other W7 (Or.inr (slot_ne (Or.inr (wd hw 27 rfl)) (Or.inr (wd hw 25 rfl)) (by decide) (t := .double) (t' := (.array .double)) (by decide) (by decide))))
  obtain ⟨T10, h10, X10, e10, W10, st10⟩ := putF X7 hx hZ hown (host := "") (Or.inl (wd hw 26 rfl)) Via.refl e7 c12 c11 (Or.inr ⟨(wd hw 27 rfl), rfl, hnm⟩) (wd hw 7 rfl) (ty := .double) (by decide) rfl rfl (g := (mkF m 53 #[vr r0, vr r1, vd f2, us, vr r1, vi (1 : Int32), vi (1 : Int32), vd (FP.l2d v0), us] [(.double f2), (.ref r0)])) rfl rfl (hb hby d2_53)
  have Fw10 := c12.same W10
  have N10 := Fr.snoc X10 N7 ug
  have K10 : Keep h0 h10 [r0] := K7.wr W10 (Or.inl (List.mem_of_getElem? (i := 0) rfl))
  have Z10 : n0 ≤ h10.size := by rw [W10.size]; exact Z7
  have c13 := (c11.wr W10)
  have c14 := (Fw7.other W10 (Or.inr (slot_ne (Or.inr (wd hw 25 rfl)) (Or.inr (wd hw 27 rfl)) (by decide) (t := (.array .double)) (t' := .double) (by decide) (by decide))))
  have c15 := ((Va5.other W7 (Ne.symm ne_r0_b5)).other W10 (Ne.symm ne_r0_b5))
  obtain ⟨fs, hr, hrun, hended, hW, hsame⟩ := X10.leave (v := none) (fun _ => rfl)
  refine ⟨_, _, pre0 _ ?_, hrun, hended, _, _, rfl, ?_, ⟨_, rfl⟩, hW, hsame.mono (by decide) (by decide)⟩
  · show SS p e below s₁ (mkF m 0 #[vr r0, vr r1, vd f2, us, uu, uu, uu, uu, uu] []) _
    refine XS.aloadN X0.here hx rfl (hb hby d2_0) rfl rfl ?_
    show SS p e below s₁ (mkF m 1 #[vr r0, vr r1, vd f2, us, uu, uu, uu, uu, uu] [(.ref r0)]) _
    refine st1 _ ?_
    show SS p e below T1 (mkF m 4 #[vr r0, vr r1, vd f2, us, uu, uu, uu, uu, uu] []) _
    refine XS.aloadN X1.here hx rfl (hb hby d2_4) rfl rfl ?_
    show SS p e below T1 (mkF m 5 #[vr r0, vr r1, vd f2, us, uu, uu, uu, uu, uu] [(.ref r1)]) _
    refine XS.astore X1.here hx rfl (hb hby d2_5) rfl rfl (l' := #[vr r0, vr r1, vd f2, us, vr r1, uu, uu, uu, uu]) rfl ?_
    show SS p e below T1 (mkF m 7 #[vr r0, vr r1, vd f2, us, vr r1, uu, uu, uu, uu] []) _
    refine XS.aload X1.here hx rfl (hb hby d2_7) rfl rfl ?_
    show SS p e below T1 (mkF m 9 #[vr r0, vr r1, vd f2, us, vr r1, uu, uu, uu, uu] [(.ref r1)]) _
    refine X1.arraylength hx (own_at e1 Ar2.1) (State.isArrayOf_alike hZ.alike Ar2.2.1) (g := (mkF m 9 #[vr r0, vr r1, vd f2, us, vr r1, uu, uu, uu, uu] [(.ref r1)])) rfl rfl (hb hby d2_9) _ ?_
    rw [len_of S2 Nn2]
    show SS p e below T1 (mkF m 10 #[vr r0, vr r1, vd f2, us, vr r1, uu, uu, uu, uu] [(.int (1 : Int32))]) _
    refine XS.istore X1.here hx rfl (hb hby d2_10) rfl (l' := #[vr r0, vr r1, vd f2, us, vr r1, vi (1 : Int32), uu, uu, uu]) rfl ?_
    show SS p e below T1 (mkF m 12 #[vr r0, vr r1, vd f2, us, vr r1, vi (1 : Int32), uu, uu, uu] []) _
    refine XS.iconst X1.here hx rfl (hb hby d2_12) ?_
    show SS p e below T1 (mkF m 13 #[vr r0, vr r1, vd f2, us, vr r1, vi (1 : Int32), uu, uu, uu] [(.int (0 : Int32))]) _
    refine XS.istore X1.here hx rfl (hb hby d2_13) rfl (l' := #[vr r0, vr r1, vd f2, us, vr r1, vi (1 : Int32), vi (0 : Int32), uu, uu]) rfl ?_
    show SS p e below T1 (mkF m 15 #[vr r0, vr r1, vd f2, us, vr r1, vi (1 : Int32), vi (0 : Int32), uu, uu] []) _
    refine XS.iload X1.here hx rfl (hb hby d2_15) rfl ?_
    show SS p e below T1 (mkF m 17 #[vr r0, vr r1, vd f2, us, vr r1, vi (1 : Int32), vi (0 : Int32), uu, uu] [(.int (0 : Int32))]) _
    refine XS.iload X1.here hx rfl (hb hby d2_17) rfl ?_
    show SS p e below T1 (mkF m 19 #[vr r0, vr r1, vd f2, us, vr r1, vi (1 : Int32), vi (0 : Int32), uu, uu] [(.int (1 : Int32)), (.int (0 : Int32))]) _
    refine XS.icmpNo X1.here hx rfl (hb hby d2_19) rfl (tlt (by decide : (0 : Int32) < (1 : Int32))).2.1 ?_
    show SS p e below T1 (mkF m 22 #[vr r0, vr r1, vd f2, us, vr r1, vi (1 : Int32), vi (0 : Int32), uu, uu] []) _
    refine XS.aload X1.here hx rfl (hb hby d2_22) rfl rfl ?_
    show SS p e below T1 (mkF m 24 #[vr r0, vr r1, vd f2, us, vr r1, vi (1 : Int32), vi (0 : Int32), uu, uu] [(.ref r1)]) _
    refine XS.iload X1.here hx rfl (hb hby d2_24) rfl ?_
    show SS p e below T1 (mkF m 26 #[vr r0, vr r1, vd f2, us, vr r1, vi (1 : Int32), vi (0 : Int32), uu, uu] [(.int (0 : Int32)), (.ref r1)]) _
    refine X1.daload hx (j := (0 : Int32)) (v := (.double (FP.l2d v0))) (own_at e1 Ar3.1) (State.isArrayOf_alike hZ.alike Ar3.2.1) Ar3.2.2 hin3 hat3 (g := (mkF m 26 #[vr r0, vr r1, vd f2, us, vr r1, vi (1 : Int32), vi (0 : Int32), uu, uu] [(.int (0 : Int32)), (.ref r1)])) rfl rfl (hb hby d2_26) _ ?_
    show SS p e below T1 (mkF m 27 #[vr r0, vr r1, vd f2, us, vr r1, vi (1 : Int32), vi (0 : Int32), uu, uu] [(.double (FP.l2d v0))]) _
    refine XS.dstore X1.here hx rfl (hb hby d2_27) rfl (l' := #[vr r0, vr r1, vd f2, us, vr r1, vi (1 : Int32), vi (0 : Int32), vd (FP.l2d v0), us]) rfl ?_
    show SS p e below T1 (mkF m 29 #[vr r0, vr r1, vd f2, us, vr r1, vi (1 : Int32), vi (0 : Int32), vd (FP.l2d v0), us] []) _
    refine XS.dload X1.here hx rfl (hb hby d2_29) rfl ?_
    show SS p e below T1 (mkF m 31 #[vr r0, vr r1, vd f2, us, vr r1, vi (1 : Int32), vi (0 : Int32), vd (FP.l2d v0), us] [(.double (FP.l2d v0))]) _
    refine st4 _ ?_
    show SS p e below T4 (mkF m 34 #[vr r0, vr r1, vd f2, us, vr r1, vi (1 : Int32), vi (0 : Int32), vd (FP.l2d v0), us] []) _
    refine XS.iinc X4.here hx rfl (hb hby d2_34) rfl (l' := #[vr r0, vr r1, vd f2, us, vr r1, vi (1 : Int32), vi ((0 : Int32) + (1 : Int32)), vd (FP.l2d v0), us]) rfl ?_
    show SS p e below T4 (mkF m 37 #[vr r0, vr r1, vd f2, us, vr r1, vi (1 : Int32), vi ((0 : Int32) + (1 : Int32)), vd (FP.l2d v0), us] []) _
    rw [(by decide : ((0 : Int32) + (1 : Int32)) = (1 : Int32))]
    show SS p e below T4 (mkF m 37 #[vr r0, vr r1, vd f2, us, vr r1, vi (1 : Int32), vi (1 : Int32), vd (FP.l2d v0), us] []) _
    refine XS.goto X4.here hx rfl (pc0 := 37) (pc' := 15) rfl (hb hby d2_37) (by decide) (by decide) ?_
    show SS p e below T4 (mkF m 15 #[vr r0, vr r1, vd f2, us, vr r1, vi (1 : Int32), vi (1 : Int32), vd (FP.l2d v0), us] []) _
    refine XS.iload X4.here hx rfl (hb hby d2_15) rfl ?_
    show SS p e below T4 (mkF m 17 #[vr r0, vr r1, vd f2, us, vr r1, vi (1 : Int32), vi (1 : Int32), vd (FP.l2d v0), us] [(.int (1 : Int32))]) _
    refine XS.iload X4.here hx rfl (hb hby d2_17) rfl ?_
    show SS p e below T4 (mkF m 19 #[vr r0, vr r1, vd f2, us, vr r1, vi (1 : Int32), vi (1 : Int32), vd (FP.l2d v0), us] [(.int (1 : Int32)), (.int (1 : Int32))]) _
    refine XS.icmpYes X4.here hx rfl (pc0 := 19) (pc' := 40) rfl (hb hby d2_19) rfl (flt (by decide : ¬ ((1 : Int32) < (1 : Int32)))).2.1 (by decide) (by decide) ?_
    show SS p e below T4 (mkF m 40 #[vr r0, vr r1, vd f2, us, vr r1, vi (1 : Int32), vi (1 : Int32), vd (FP.l2d v0), us] []) _
    refine XS.aloadN X4.here hx rfl (hb hby d2_40) rfl rfl ?_
    show SS p e below T4 (mkF m 41 #[vr r0, vr r1, vd f2, us, vr r1, vi (1 : Int32), vi (1 : Int32), vd (FP.l2d v0), us] [(.ref r0)]) _
    refine XS.aloadN X4.here hx rfl (hb hby d2_41) rfl rfl ?_
    show SS p e below T4 (mkF m 42 #[vr r0, vr r1, vd f2, us, vr r1, vi (1 : Int32), vi (1 : Int32), vd (FP.l2d v0), us] [(.ref r1), (.ref r0)]) _
    refine st5 _ ?_
    show SS p e below T5 (mkF m 45 #[vr r0, vr r1, vd f2, us, vr r1, vi (1 : Int32), vi (1 : Int32), vd (FP.l2d v0), us] [(.ref b5), (.ref r0)]) _
    refine st6 _ ?_
    show SS p e below T6 (mkF m 48 #[vr r0, vr r1, vd f2, us, vr r1, vi (1 : Int32), vi (1 : Int32), vd (FP.l2d v0), us] [(.ref b5), (.ref r0)]) _
    refine st7 _ ?_
    show SS p e below T7 (mkF m 51 #[vr r0, vr r1, vd f2, us, vr r1, vi (1 : Int32), vi (1 : Int32), vd (FP.l2d v0), us] []) _
    refine XS.aloadN X7.here hx rfl (hb hby d2_51) rfl rfl ?_
    show SS p e below T7 (mkF m 52 #[vr r0, vr r1, vd f2, us, vr r1, vi (1 : Int32), vi (1 : Int32), vd (FP.l2d v0), us] [(.ref r0)]) _
    refine XS.dloadN X7.here hx rfl (hb hby d2_52) rfl ?_
    show SS p e below T7 (mkF m 53 #[vr r0, vr r1, vd f2, us, vr r1, vi (1 : Int32), vi (1 : Int32), vd (FP.l2d v0), us] [(.double f2), (.ref r0)]) _
    refine st10 _ ?_
    show SS p e below T10 (mkF m 56 #[vr r0, vr r1, vd f2, us, vr r1, vi (1 : Int32), vi (1 : Int32), vd (FP.l2d v0), us] []) _
    exact X10.returnOut hx Bd.returns (hb hby d2_56) hr
  · show Q_rmI1 Z r0 r1 f2 kb v0 h0 n0 _ T10.heap _
    rw [e10]
    exact ⟨b5, rfl, N10, K10, c13, c14, Fw10, sz_b5, c15⟩
def Q_rmM1 (Z : State) (r0 : Addr) (rb : Addr) (kb : ClassId) (vt : Int64) (v0 : Int64) (h0 : Heap) (n0 : Nat) (v : Option Value) (h : Heap) (L : List Loc) : Prop := (v = some (.double (FP.ddiv (FP.l2d (0 : Int64)) (FP.l2d vt))) ∧ Fr n0 L ∧ h = h0)
set_option maxRecDepth 65536 in
set_option maxHeartbeats 40000000 in
theorem rmM1 (l : Launch) (Z : State) (a0 : Array Value) (hw : ∀ d ∈ tables_1, d.before a0 Z = true) (ws : List Jvm.Cond) (r0 : Addr) (rb : Addr) (kb : ClassId) (vt : Int64) (v0 : Int64) (h0 : Heap) (n0 : Nat) (Z0 : n0 ≤ h0.size) (uw : Fld Z h0 r0 "org/quarrel/model/Distribution" "weights" "[D" (.ref rb)) (uo : Fld Z h0 r0 "org/quarrel/model/Distribution" "total" "D" (.double (FP.l2d vt))) (uV : Arv Z h0 rb kb .double (1 : Int32) [(.double (FP.l2d v0))] (.double 0)) (unz : vt ≠ 0) (uz_v0 : 0 ≤ v0.toInt) (ut_v0 : v0.toInt < 2147483648) :
    MetFree l (⟨"org/quarrel/model/Distribution", "mean", "()D"⟩ : MethodName) (head1 (Jvm.Cond.code (⟨"org/quarrel/model/Distribution", "mean", "()D"⟩ : MethodName) prog_15_method_11_code 4 (some .double) :: ws) ({ frames := 0, cells := 0, slots := 0, locals := 0 } : Room)) (fun a U => a = #[(.ref r0)] ∧ Z.Warmed39 U.vm ∧ U.heap = h0) (fun _ _ _ _ _ => True) (fun _ U o U' => ∃ v L, o = .returned v ∧ Q_rmM1 Z r0 rb kb vt v0 h0 n0 v U'.heap L ∧ FrameEnd U o U' L ({ frames := 0, cells := 0, slots := 0, locals := 0 } : Room).cells ({ frames := 0, cells := 0, slots := 0, locals := 0 } : Room).slots) := by
  refine MetFree.of_bodySF (plainFor_of_name pn_1) hisR ?_
  intro p e s m args below meth c s₁ Bd hml0 hP hK
  obtain ⟨rfl, hZ, hh⟩ := hP
  have hx := Bd.exec
  have hby := Bd.bytes
  have hml : c.maxLocals = 4 := hml0
  have hown : s.vm.findClass "org/quarrel/model/Distribution" = some m.cls := findClass_of_methodNamed Bd.named
  have hnm := (name_of_methodNamed Bd.named Bd.method).1
  have X0 : Stand p l e ({ frames := 0, cells := 0, slots := 0, locals := 0 } : Room) s m #[(.ref r0)] below meth c s₁ [] 0 0 := Stand.of_body Bd
  have e0 : s₁.heap = h0 := by rw [← hh, Bd.state]; rfl
  have N0 := Fr.nil n0
  have pre0 : ∀ t, Steps p.tables e below (s₁.setTop (mkF m 0 #[vr r0, uu, uu, uu] [])) t → Steps p.tables e below (s₁.setTop (entryFrame m #[(.ref r0)] 4)) t := fun t k => castTop (ef_4 m r0) k
  obtain ⟨T1, X1, e1, st1⟩ := getF X0 hx hZ hown (host := "") (Or.inl (wd hw 24 rfl)) Via.refl e0 uw (g := (mkF m 6 #[vr r0, vd (FP.l2d (0 : Int64)), us, vi (1 : Int32)] [(.ref r0), (.int (1 : Int32))])) rfl rfl (hb hby d4_6)
  obtain ⟨cl2, Ar2, q2, S2, Nn2, H2, G2⟩ := (id uV)
  obtain ⟨T3, X3, e3, st3⟩ := getF X1 hx hZ hown (host := "") (Or.inl (wd hw 26 rfl)) Via.refl e1 uo (g := (mkF m 33 #[vr r0, vd (FP.l2d (0 : Int64)), us, vi (1 : Int32)] [(.ref r0), (.double (FP.l2d (0 : Int64)))])) rfl rfl (hb hby d4_33)
  obtain ⟨fs, hr, hrun, hended, hW, hsame⟩ := X3.leave (v := some (.double (FP.ddiv (FP.l2d (0 : Int64)) (FP.l2d vt)))) (fun h => by rw [Bd.returns] at h; cases h)
  refine ⟨_, _, pre0 _ ?_, hrun, hended, _, _, rfl, ?_, ⟨_, rfl⟩, hW, hsame.mono (by decide) (by decide)⟩
  · show SS p e below s₁ (mkF m 0 #[vr r0, uu, uu, uu] []) _
    refine XS.dconst0 X0.here hx rfl (hb hby d4_0) (v := (FP.l2d (0 : Int64))) (by decide) ?_
    show SS p e below s₁ (mkF m 1 #[vr r0, uu, uu, uu] [(.double (FP.l2d (0 : Int64)))]) _
    refine XS.dstoreN X0.here hx rfl (hb hby d4_1) rfl (l' := #[vr r0, vd (FP.l2d (0 : Int64)), us, uu]) rfl ?_
    show SS p e below s₁ (mkF m 2 #[vr r0, vd (FP.l2d (0 : Int64)), us, uu] []) _
    refine XS.iconst X0.here hx rfl (hb hby d4_2) ?_
    show SS p e below s₁ (mkF m 3 #[vr r0, vd (FP.l2d (0 : Int64)), us, uu] [(.int (1 : Int32))]) _
    refine XS.istoreN X0.here hx rfl (hb hby d4_3) rfl (l' := #[vr r0, vd (FP.l2d (0 : Int64)), us, vi (1 : Int32)]) rfl ?_
    show SS p e below s₁ (mkF m 4 #[vr r0, vd (FP.l2d (0 : Int64)), us, vi (1 : Int32)] []) _
    refine XS.iloadN X0.here hx rfl (hb hby d4_4) rfl ?_
    show SS p e below s₁ (mkF m 5 #[vr r0, vd (FP.l2d (0 : Int64)), us, vi (1 : Int32)] [(.int (1 : Int32))]) _
    refine XS.aloadN X0.here hx rfl (hb hby d4_5) rfl rfl ?_
    show SS p e below s₁ (mkF m 6 #[vr r0, vd (FP.l2d (0 : Int64)), us, vi (1 : Int32)] [(.ref r0), (.int (1 : Int32))]) _
    refine st1 _ ?_
    show SS p e below T1 (mkF m 9 #[vr r0, vd (FP.l2d (0 : Int64)), us, vi (1 : Int32)] [(.ref rb), (.int (1 : Int32))]) _
    refine X1.arraylength hx (own_at e1 Ar2.1) (State.isArrayOf_alike hZ.alike Ar2.2.1) (g := (mkF m 9 #[vr r0, vd (FP.l2d (0 : Int64)), us, vi (1 : Int32)] [(.ref rb), (.int (1 : Int32))])) rfl rfl (hb hby d4_9) _ ?_
    rw [len_of S2 Nn2]
    show SS p e below T1 (mkF m 10 #[vr r0, vd (FP.l2d (0 : Int64)), us, vi (1 : Int32)] [(.int (1 : Int32)), (.int (1 : Int32))]) _
    refine XS.icmpYes X1.here hx rfl (pc0 := 10) (pc' := 31) rfl (hb hby d4_10) rfl (flt (by decide : ¬ ((1 : Int32) < (1 : Int32)))).2.1 (by decide) (by decide) ?_
    show SS p e below T1 (mkF m 31 #[vr r0, vd (FP.l2d (0 : Int64)), us, vi (1 : Int32)] []) _
    refine XS.dloadN X1.here hx rfl (hb hby d4_31) rfl ?_
    show SS p e below T1 (mkF m 32 #[vr r0, vd (FP.l2d (0 : Int64)), us, vi (1 : Int32)] [(.double (FP.l2d (0 : Int64)))]) _
    refine XS.aloadN X1.here hx rfl (hb hby d4_32) rfl rfl ?_
    show SS p e below T1 (mkF m 33 #[vr r0, vd (FP.l2d (0 : Int64)), us, vi (1 : Int32)] [(.ref r0), (.double (FP.l2d (0 : Int64)))]) _
    refine st3 _ ?_
    show SS p e below T3 (mkF m 36 #[vr r0, vd (FP.l2d (0 : Int64)), us, vi (1 : Int32)] [(.double (FP.l2d vt)), (.double (FP.l2d (0 : Int64)))]) _
    refine XS.ddivS X3.here hx rfl (hb hby d4_36) rfl (v := (FP.ddiv (FP.l2d (0 : Int64)) (FP.l2d vt))) (own_dnn _ unz) rfl ?_
    show SS p e below T3 (mkF m 37 #[vr r0, vd (FP.l2d (0 : Int64)), us, vi (1 : Int32)] [(.double (FP.ddiv (FP.l2d (0 : Int64)) (FP.l2d vt)))]) _
    exact retOut X3 hx Bd.returns rfl (Or.inr (Or.inr (Or.inl ⟨rfl, rfl, _, rfl⟩))) (hb hby d4_37) hr
  · show Q_rmM1 Z r0 rb kb vt v0 h0 n0 _ T3.heap _
    rw [e3]
    exact ⟨rfl, N0, rfl⟩
theorem ef_6 (m : MethodId) (x1 : UInt64) (x2 : UInt64) (x3 : UInt64) (x4 : UInt64) : entryFrame m #[(.int (2 : Int32)), (.double x1), (.double x2), (.double x3), (.double x4)] 9 = mkF m 0 #[vi (2 : Int32), vd x1, us, vd x2, us, vd x3, us, vd x4, us] [] := by first | (simp [entryFrame, mkF, argsToLocals, Value.category]; done) | rfl
theorem d1_21 : decode method_2_code 21 = .ok (.iload_n 0, 1) := by decide +kernel
theorem d1_22 : decode method_2_code 22 = .ok (.iconst 2, 1) := by decide +kernel
theorem d1_23 : decode method_2_code 23 = .ok (.if_icmp .ne 15, 3) := by decide +kernel
theorem d1_26 : decode method_2_code 26 = .ok (.iconst 2, 1) := by decide +kernel
theorem d1_27 : decode method_2_code 27 = .ok (.newarray .double, 2) := by decide +kernel
theorem d1_29 : decode method_2_code 29 = .ok (.dup, 1) := by decide +kernel
theorem d1_30 : decode method_2_code 30 = .ok (.iconst 0, 1) := by decide +kernel
theorem d1_31 : decode method_2_code 31 = .ok (.dload_n 1, 1) := by decide +kernel
theorem d1_32 : decode method_2_code 32 = .ok (.dastore, 1) := by decide +kernel
theorem d1_33 : decode method_2_code 33 = .ok (.dup, 1) := by decide +kernel
theorem d1_34 : decode method_2_code 34 = .ok (.iconst 1, 1) := by decide +kernel
theorem d1_35 : decode method_2_code 35 = .ok (.dload_n 3, 1) := by decide +kernel
theorem d1_36 : decode method_2_code 36 = .ok (.dastore, 1) := by decide +kernel
theorem d1_37 : decode method_2_code 37 = .ok (.areturn, 1) := by decide +kernel
def Q_rmW2 (Z : State) (f1 : UInt64) (f2 : UInt64) (f3 : UInt64) (f4 : UInt64) (h0 : Heap) (n0 : Nat) (v : Option Value) (h : Heap) (L : List Loc) : Prop := ∃ (nb : Addr), ∃ (kn : ClassId), (v = some (.ref nb) ∧ Fr n0 L ∧ Keep h0 h [] ∧ h0.size ≤ nb ∧ Exa Z h nb "[D" ∧ Arv Z h nb kn .double (2 : Int32) [(.double f1), (.double f2)] (.double 0))
set_option maxRecDepth 65536 in
set_option maxHeartbeats 40000000 in
theorem rmW2 (l : Launch) (Z : State) (a0 : Array Value) (hw : ∀ d ∈ tables_1, d.before a0 Z = true) (ws : List Jvm.Cond) (f1 : UInt64) (f2 : UInt64) (f3 : UInt64) (f4 : UInt64) (h0 : Heap) (n0 : Nat) (Z0 : n0 ≤ h0.size) :
    MetFree l (⟨"org/quarrel/model/DistributionMeanPinLaw", "weights", "(IDDDD)[D"⟩ : MethodName) (head1 (Jvm.Cond.code (⟨"org/quarrel/model/DistributionMeanPinLaw", "weights", "(IDDDD)[D"⟩ : MethodName) method_2_code 9 (some (.array .double)) :: ws) ({ frames := 0, cells := 1, slots := 2, locals := 0 } : Room)) (fun a U => a = #[(.int (2 : Int32)), (.double f1), (.double f2), (.double f3), (.double f4)] ∧ Z.Warmed39 U.vm ∧ U.heap = h0) (fun _ _ _ _ _ => True) (fun _ U o U' => ∃ v L, o = .returned v ∧ Q_rmW2 Z f1 f2 f3 f4 h0 n0 v U'.heap L ∧ FrameEnd U o U' L ({ frames := 0, cells := 1, slots := 2, locals := 0 } : Room).cells ({ frames := 0, cells := 1, slots := 2, locals := 0 } : Room).slots) := by
  refine MetFree.of_bodySF (plainFor_of_name pn_2) hisR ?_
  intro p e s m args below meth c s₁ Bd hml0 hP hK
  obtain ⟨rfl, hZ, hh⟩ := hP
  have hx := Bd.exec
  have hby := Bd.bytes
  have hml : c.maxLocals = 9 := hml0
  have hown : s.vm.findClass "org/quarrel/model/DistributionMeanPinLaw" = some m.cls := findClass_of_methodNamed Bd.named
  have hnm := (name_of_methodNamed Bd.named Bd.method).1
  have X0 : Stand p l e ({ frames := 0, cells := 1, slots := 2, locals := 0 } : Room) s m #[(.int (2 : Int32)), (.double f1), (.double f2), (.double f3), (.double f4)] below meth c s₁ [] 0 0 := Stand.of_body Bd
  have e0 : s₁.heap = h0 := by rw [← hh, Bd.state]; rfl
  have N0 := Fr.nil n0
  have pre0 : ∀ t, Steps p.tables e below (s₁.setTop (mkF m 0 #[vi (2 : Int32), vd f1, us, vd f2, us, vd f3, us, vd f4, us] [])) t → Steps p.tables e below (s₁.setTop (entryFrame m #[(.int (2 : Int32)), (.double f1), (.double f2), (.double f3), (.double f4)] 9)) t := fun t k => castTop (ef_6 m f1 f2 f3 f4) k
  obtain ⟨T1, h1, k1, X1, e1, E1, A1, AX1, st1⟩ := newPE X0 hx hZ (wd hw 5 rfl) e0 (g := (mkF m 27 #[vi (2 : Int32), vd f1, us, vd f2, us, vd f3, us, vd f4, us] [(.int (2 : Int32))])) rfl (hb hby d1_27) rfl (by decide) (cap := 2) (by decide) (by decide) (by decide) (by decide) (ad := "[D") (by decide)
  obtain ⟨b1, g1⟩ : ∃ z, z = h0.size := ⟨_, rfl⟩
  rw [← g1] at A1 AX1 st1
  have V1 : Arv Z h1 b1 k1 .double (2 : Int32) [(.double 0), (.double 0)] (.double 0) := (Arv.new A1 (by decide)).pad (pad_rep [] (.double 0) 2)
  have g_b1 : n0 ≤ b1 := Nat.le_trans Z0 (Nat.le_of_eq g1.symm)
  have sz_b1 : h0.size ≤ b1 := Nat.le_trans (Keep.refl h0 []).1 (Nat.le_of_eq g1.symm)
  have K1 : Keep h0 h1 [] := (Keep.refl h0 []).ext E1
  have Z1 : n0 ≤ h1.size := Nat.le_trans Z0 E1.1
  obtain ⟨cl2, Ar2, q2, S2, Nn2, H2, G2⟩ := (id V1)
  have hin2 : ¬ ((0 : Int32) < 0 ∨ cl2.slots.size ≤ ((0 : Int32)).toNatClampNeg) := inb_of S2 ⟨by decide, by decide⟩
  obtain ⟨T2, h2, X2, e2, W2, st2⟩ := stD X1 hx hZ e1 Ar2 (j := (0 : Int32)) hin2 (g := (mkF m 32 #[vi (2 : Int32), vd f1, us, vd f2, us, vd f3, us, vd f4, us] [(.double f1), (.int (0 : Int32)), (.ref b1), (.ref b1)])) rfl rfl (hb hby d1_32)
  have V2 : Arv Z h2 b1 k1 .double (2 : Int32) [(.double f1), (.double 0)] (.double 0) := Arv.set Ar2 q2 S2 Nn2 H2 G2 rfl W2 0 rfl (Nat.le_of_ble_eq_true rfl)
  have N2 := Fr.snoc X2 N0 g_b1
  have K2 : Keep h0 h2 [] := K1.wr W2 (Or.inr sz_b1)
  have Z2 : n0 ≤ h2.size := by rw [W2.size]; exact Z1
  obtain ⟨cl3, Ar3, q3, S3, Nn3, H3, G3⟩ := (id V2)
  have hin3 : ¬ ((1 : Int32) < 0 ∨ cl3.slots.size ≤ ((1 : Int32)).toNatClampNeg) := inb_of S3 ⟨by decide, by decide⟩
  obtain ⟨T3, h3, X3, e3, W3, st3⟩ := stD X2 hx hZ e2 Ar3 (j := (1 : Int32)) hin3 (g := (mkF m 36 #[vi (2 : Int32), vd f1, us, vd f2, us, vd f3, us, vd f4, us] [(.double f2), (.int (1 : Int32)), (.ref b1), (.ref b1)])) rfl rfl (hb hby d1_36)
  have V3 : Arv Z h3 b1 k1 .double (2 : Int32) [(.double f1), (.double f2)] (.double 0) := Arv.set Ar3 q3 S3 Nn3 H3 G3 rfl W3 1 rfl (Nat.le_of_ble_eq_true rfl)
  have N3 := Fr.snoc X3 N2 g_b1
  have K3 : Keep h0 h3 [] := K2.wr W3 (Or.inr sz_b1)
  have Z3 : n0 ≤ h3.size := by rw [W3.size]; exact Z2
  have c4 := ((AX1.wr W2).wr W3)
  obtain ⟨fs, hr, hrun, hended, hW, hsame⟩ := X3.leave (v := some (.ref b1)) (fun h => by rw [Bd.returns] at h; cases h)
  refine ⟨_, _, pre0 _ ?_, hrun, hended, _, _, rfl, ?_, ⟨_, rfl⟩, hW, hsame.mono (by decide) (by decide)⟩
  · show SS p e below s₁ (mkF m 0 #[vi (2 : Int32), vd f1, us, vd f2, us, vd f3, us, vd f4, us] []) _
    refine XS.iloadN X0.here hx rfl (hb hby d1_0) rfl ?_
    show SS p e below s₁ (mkF m 1 #[vi (2 : Int32), vd f1, us, vd f2, us, vd f3, us, vd f4, us] [(.int (2 : Int32))]) _
    refine XS.ifYes X0.here hx rfl (pc0 := 1) (pc' := 8) rfl (hb hby d1_1) rfl ((if0 _ _).trans (feq (by decide : ¬ ((2 : Int32) = (0 : Int32)))).2) (by decide) (by decide) ?_
    show SS p e below s₁ (mkF m 8 #[vi (2 : Int32), vd f1, us, vd f2, us, vd f3, us, vd f4, us] []) _
    refine XS.iloadN X0.here hx rfl (hb hby d1_8) rfl ?_
    show SS p e below s₁ (mkF m 9 #[vi (2 : Int32), vd f1, us, vd f2, us, vd f3, us, vd f4, us] [(.int (2 : Int32))]) _
    refine XS.iconst X0.here hx rfl (hb hby d1_9) ?_
    show SS p e below s₁ (mkF m 10 #[vi (2 : Int32), vd f1, us, vd f2, us, vd f3, us, vd f4, us] [(.int (1 : Int32)), (.int (2 : Int32))]) _
    refine XS.icmpYes X0.here hx rfl (pc0 := 10) (pc' := 21) rfl (hb hby d1_10) rfl (feq (by decide : ¬ ((2 : Int32) = (1 : Int32)))).2 (by decide) (by decide) ?_
    show SS p e below s₁ (mkF m 21 #[vi (2 : Int32), vd f1, us, vd f2, us, vd f3, us, vd f4, us] []) _
    refine XS.iloadN X0.here hx rfl (hb hby d1_21) rfl ?_
    show SS p e below s₁ (mkF m 22 #[vi (2 : Int32), vd f1, us, vd f2, us, vd f3, us, vd f4, us] [(.int (2 : Int32))]) _
    refine XS.iconst X0.here hx rfl (hb hby d1_22) ?_
    show SS p e below s₁ (mkF m 23 #[vi (2 : Int32), vd f1, us, vd f2, us, vd f3, us, vd f4, us] [(.int (2 : Int32)), (.int (2 : Int32))]) _
    refine XS.icmpNo X0.here hx rfl (hb hby d1_23) rfl (teq (by decide : (2 : Int32) = (2 : Int32))).2 ?_
    show SS p e below s₁ (mkF m 26 #[vi (2 : Int32), vd f1, us, vd f2, us, vd f3, us, vd f4, us] []) _
    refine XS.iconst X0.here hx rfl (hb hby d1_26) ?_
    show SS p e below s₁ (mkF m 27 #[vi (2 : Int32), vd f1, us, vd f2, us, vd f3, us, vd f4, us] [(.int (2 : Int32))]) _
    refine st1 _ ?_
    show SS p e below T1 (mkF m 29 #[vi (2 : Int32), vd f1, us, vd f2, us, vd f3, us, vd f4, us] [(.ref b1)]) _
    refine XS.dup X1.here hx rfl (hb hby d1_29) rfl rfl ?_
    show SS p e below T1 (mkF m 30 #[vi (2 : Int32), vd f1, us, vd f2, us, vd f3, us, vd f4, us] [(.ref b1), (.ref b1)]) _
    refine XS.iconst X1.here hx rfl (hb hby d1_30) ?_
    show SS p e below T1 (mkF m 31 #[vi (2 : Int32), vd f1, us, vd f2, us, vd f3, us, vd f4, us] [(.int (0 : Int32)), (.ref b1), (.ref b1)]) _
    refine XS.dloadN X1.here hx rfl (hb hby d1_31) rfl ?_
    show SS p e below T1 (mkF m 32 #[vi (2 : Int32), vd f1, us, vd f2, us, vd f3, us, vd f4, us] [(.double f1), (.int (0 : Int32)), (.ref b1), (.ref b1)]) _
    refine st2 _ ?_
    show SS p e below T2 (mkF m 33 #[vi (2 : Int32), vd f1, us, vd f2, us, vd f3, us, vd f4, us] [(.ref b1)]) _
    refine XS.dup X2.here hx rfl (hb hby d1_33) rfl rfl ?_
    show SS p e below T2 (mkF m 34 #[vi (2 : Int32), vd f1, us, vd f2, us, vd f3, us, vd f4, us] [(.ref b1), (.ref b1)]) _
    refine XS.iconst X2.here hx rfl (hb hby d1_34) ?_
    show SS p e below T2 (mkF m 35 #[vi (2 : Int32), vd f1, us, vd f2, us, vd f3, us, vd f4, us] [(.int (1 : Int32)), (.ref b1), (.ref b1)]) _
    refine XS.dloadN X2.here hx rfl (hb hby d1_35) rfl ?_
    show SS p e below T2 (mkF m 36 #[vi (2 : Int32), vd f1, us, vd f2, us, vd f3, us, vd f4, us] [(.double f2), (.int (1 : Int32)), (.ref b1), (.ref b1)]) _
    refine st3 _ ?_
    show SS p e below T3 (mkF m 37 #[vi (2 : Int32), vd f1, us, vd f2, us, vd f3, us, vd f4, us] [(.ref b1)]) _
    exact retOut X3 hx Bd.returns rfl (Or.inr (Or.inr (Or.inr (Or.inr ⟨rfl, rfl, rfl⟩)))) (hb hby d1_37) hr
  · show Q_rmW2 Z f1 f2 f3 f4 h0 n0 _ T3.heap _
    rw [e3]
    exact ⟨b1, k1, rfl, N3, K3, sz_b1, c4, V3⟩
def Q_rmI2 (Z : State) (r0 : Addr) (r1 : Addr) (f2 : UInt64) (kb : ClassId) (v0 : Int64) (v1 : Int64) (h0 : Heap) (n0 : Nat) (v : Option Value) (h : Heap) (L : List Loc) : Prop := ∃ (nb : Addr), (v = none ∧ Fr n0 L ∧ Keep h0 h [r0] ∧ Exa Z h r0 "org/quarrel/model/Distribution" ∧ Fld Z h r0 "org/quarrel/model/Distribution" "weights" "[D" (.ref nb) ∧ Fld Z h r0 "org/quarrel/model/Distribution" "total" "D" (.double f2) ∧ h0.size ≤ nb ∧ Arv Z h nb kb .double (2 : Int32) [(.double (FP.l2d v0)), (.double (FP.l2d v1))] (.double 0))
set_option maxRecDepth 65536 in
set_option maxHeartbeats 40000000 in
theorem rmI2 (l : Launch) (Z : State) (a0 : Array Value) (hw : ∀ d ∈ tables_1, d.before a0 Z = true) (ws : List Jvm.Cond) (r0 : Addr) (r1 : Addr) (f2 : UInt64) (kb : ClassId) (v0 : Int64) (v1 : Int64) (h0 : Heap) (n0 : Nat) (Z0 : n0 ≤ h0.size) (uE : Exa Z h0 r0 "org/quarrel/model/Distribution") (uw : Fld Z h0 r0 "org/quarrel/model/Distribution" "weights" "[D" .null) (uo : Fld Z h0 r0 "org/quarrel/model/Distribution" "total" "D" (.double 0)) (ug : n0 ≤ r0) (uEb : Exa Z h0 r1 "[D") (uV : Arv Z h0 r1 kb .double (2 : Int32) [(.double (FP.l2d v0)), (.double (FP.l2d v1))] (.double 0)) (uz_v0 : 0 ≤ v0.toInt) (ut_v0 : v0.toInt < 2147483648) (uz_v1 : 0 ≤ v1.toInt) (ut_v1 : v1.toInt < 2147483648) :
    MetFree l (⟨"org/quarrel/model/Distribution", "<init>", "([DD)V"⟩ : MethodName) (head1 (Jvm.Cond.code (⟨"org/quarrel/model/Distribution", "<init>", "([DD)V"⟩ : MethodName) prog_15_method_2_code 9 none :: ws) ({ frames := 3, cells := 1, slots := 2, locals := 39 } : Room)) (fun a U => a = #[(.ref r0), (.ref r1), (.double f2)] ∧ Z.Warmed39 U.vm ∧ U.heap = h0) (fun _ _ _ _ _ => True) (fun _ U o U' => ∃ v L, o = .returned v ∧ Q_rmI2 Z r0 r1 f2 kb v0 v1 h0 n0 v U'.heap L ∧ FrameEnd U o U' L ({ frames := 3, cells := 1, slots := 2, locals := 39 } : Room).cells ({ frames := 3, cells := 1, slots := 2, locals := 39 } : Room).slots) := by
  refine MetFree.of_bodySF (plainFor_of_name pn_1) hisR ?_
  intro p e s m args below meth c s₁ Bd hml0 hP hK
  obtain ⟨rfl, hZ, hh⟩ := hP
  have hx := Bd.exec
  have hby := Bd.bytes
  have hml : c.maxLocals = 9 := hml0
  have hown : s.vm.findClass "org/quarrel/model/Distribution" = some m.cls := findClass_of_methodNamed Bd.named
  have hnm := (name_of_methodNamed Bd.named Bd.method).1
  have X0 : Stand p l e ({ frames := 3, cells := 1, slots := 2, locals := 39 } : Room) s m #[(.ref r0), (.ref r1), (.double f2)] below meth c s₁ [] 0 0 := Stand.of_body Bd
  have e0 : s₁.heap = h0 := by rw [← hh, Bd.state]; rfl
  have N0 := Fr.nil n0
  have pre0 : ∀ t, Steps p.tables e below (s₁.setTop (mkF m 0 #[vr r0, vr r1, vd f2, us, uu, uu, uu, uu, uu] [])) t → Steps p.tables e below (s₁.setTop (entryFrame m #[(.ref r0), (.ref r1), (.double f2)] 9)) t := fun t k => castTop (ef_3 m r0 r1 f2) k
  obtain ⟨T1, X1, e1, st1⟩ := initO X0 hx hZ hown (wd hw 12 rfl) (wd hw 13 rfl) (wd hw 14 rfl) e0 (g := (mkF m 1 #[vr r0, vr r1, vd f2, us, uu, uu, uu, uu, uu] [(.ref r0)])) rfl (by rw [hml]; rfl) rfl (hb hby d2_1) (by decide) (W := 0) (by show 2 * 0 + _ ≤ _; exact Nat.le_of_eq rfl) (by decide)
  obtain ⟨cl2, Ar2, q2, S2, Nn2, H2, G2⟩ := (id uV)
  obtain ⟨cl3, Ar3, q3, S3, Nn3, H3, G3⟩ := (id uV)
  have hin3 : ¬ ((0 : Int32) < 0 ∨ cl3.slots.size ≤ ((0 : Int32)).toNatClampNeg) := inb_of S3 ⟨by decide, by decide⟩
  have hat3 : cl3.slots[((0 : Int32)).toNatClampNeg]? = some (.double (FP.l2d v0)) := H3.at hin3 rfl
  obtain ⟨_, _, ⟨T4, L4, k4, n4⟩, -, X4, ⟨Lc4, hQ4, l4, y4, z4⟩, st4⟩ := Jvm.LawKit.callS X1 hx (y := (⟨"org/quarrel/model/Distribution", "requireProbability", "(D)V"⟩ : MethodName)) hown (mvT hZ (wd hw 33 rfl)) (mvT hZ (wd hw 34 rfl)) (mvT hZ (wd hw 8 rfl)) (mvT hZ (wd hw 35 rfl)) (by decide) (backOf (W := 0) (rmR l Z a0 hw [] (FP.l2d v0) h0 n0 Z0 (Jvm.Free.Fl.l2d_fin _) (own_nn uz_v0 ut_v0)) hZ (wd hw 35 rfl) (wd hw 8 rfl) (by decide) (by decide)) (g := (mkF m 31 #[vr r0, vr r1, vd f2, us, vr r1, vi (2 : Int32), vi (0 : Int32), vd (FP.l2d v0), us] [(.double (FP.l2d v0))])) rfl (by rw [hml]; rfl) (argsL := [(.double (FP.l2d v0))]) (rest := []) (lenOf pd_2 rfl) rfl (by show 2 * 0 + _ ≤ _; exact Nat.le_of_eq rfl) (hb hby d2_31) (fun _ _ => ⟨rfl, e1, (by decide : 0 + 0 ≤ _), (by decide : 0 + 0 ≤ _)⟩)
  dsimp only [Pt.U, Pt.locs, Pt.cells, Pt.slots] at X4 l4 y4 z4 st4 hQ4
  subst l4 y4 z4
  obtain ⟨rfl, Nq4, eh4⟩ := hQ4
  have N4 := Fr.app N0 Nq4
  obtain ⟨cl5, Ar5, q5, S5, Nn5, H5, G5⟩ := (id uV)
  have hin5 : ¬ ((1 : Int32) < 0 ∨ cl5.slots.size ≤ ((1 : Int32)).toNatClampNeg) := inb_of S5 ⟨by decide, by decide⟩
  have hat5 : cl5.slots[((1 : Int32)).toNatClampNeg]? = some (.double (FP.l2d v1)) := H5.at hin5 rfl
  obtain ⟨_, _, ⟨T6, L6, k6, n6⟩, -, X6, ⟨Lc6, hQ6, l6, y6, z6⟩, st6⟩ := Jvm.LawKit.callS X4 hx (y := (⟨"org/quarrel/model/Distribution", "requireProbability", "(D)V"⟩ : MethodName)) hown (mvT hZ (wd hw 33 rfl)) (mvT hZ (wd hw 34 rfl)) (mvT hZ (wd hw 8 rfl)) (mvT hZ (wd hw 35 rfl)) (by decide) (backOf (W := 0) (rmR l Z a0 hw [] (FP.l2d v1) h0 n0 Z0 (Jvm.Free.Fl.l2d_fin _) (own_nn uz_v1 ut_v1)) hZ (wd hw 35 rfl) (wd hw 8 rfl) (by decide) (by decide)) (g := (mkF m 31 #[vr r0, vr r1, vd f2, us, vr r1, vi (2 : Int32), vi (1 : Int32), vd (FP.l2d v1), us] [(.double (FP.l2d v1))])) rfl (by rw [hml]; rfl) (argsL := [(.double (FP.l2d v1))]) (rest := []) (lenOf pd_2 rfl) rfl (by show 2 * 0 + _ ≤ _; exact Nat.le_of_eq rfl) (hb hby d2_31) (fun _ _ => ⟨rfl, eh4, (by decide : 0 + 0 ≤ _), (by decide : 0 + 0 ≤ _)⟩)
  dsimp only [Pt.U, Pt.locs, Pt.cells, Pt.slots] at X6 l6 y6 z6 st6 hQ6
  subst l6 y6 z6
  obtain ⟨rfl, Nq6, eh6⟩ := hQ6
  have N6 := Fr.app N4 Nq6
  obtain ⟨T7, h7, X7, e7, E7, V7, A7, st7⟩ := cloneH X6 hx hZ hown (wd hw 15 rfl) (wd hw 16 rfl) (wd hw 20 rfl) (wd hw 18 rfl) (wd hw 19 rfl) (wd hw 21 rfl) eh6 (Arv.arh uV) uEb (g := (mkF m 42 #[vr r0, vr r1, vd f2, us, vr r1, vi (2 : Int32), vi (2 : Int32), vd (FP.l2d v1), us] [(.ref r1), (.ref r0)])) rfl (by rw [hml]; rfl) rfl (hb hby d2_42) (by decide) (W := 1) (cap := 2) (by show 2 * 0 + _ ≤ _; exact Nat.le_of_eq rfl) (by decide) (by decide) (by decide) (by decide)
  obtain ⟨b7, g7⟩ : ∃ z, z = h0.size := ⟨_, rfl⟩
  rw [← g7] at V7 A7 st7
  have ne_r0_b7 : r0 ≠ b7 := Nat.ne_of_lt (Nat.lt_of_lt_of_le uE.lt (Nat.le_of_eq g7.symm))
  have ne_r1_b7 : r1 ≠ b7 := Nat.ne_of_lt (Nat.lt_of_lt_of_le uEb.lt (Nat.le_of_eq g7.symm))
  have Va7 : Arv Z h7 b7 kb .double (2 : Int32) [(.double (FP.l2d v0)), (.double (FP.l2d v1))] (.double 0) := V7
  have g_b7 : n0 ≤ b7 := Nat.le_trans Z0 (Nat.le_of_eq g7.symm)
  have sz_b7 : h0.size ≤ b7 := Nat.le_trans (Keep.refl h0 [r0]).1 (Nat.le_of_eq g7.symm)
  have K7 : Keep h0 h7 [r0] := (Keep.refl h0 [r0]).ext E7
  have Z7 : n0 ≤ h7.size := Nat.le_trans Z0 E7.1
  obtain ⟨T8, X8, e8, st8⟩ := castY X7 hx hZ hown (wd hw 22 rfl) e7 (Ins.self A7) (g := (mkF m 45 #[vr r0, vr r1, vd f2, us, vr r1, vi (2 : Int32), vi (2 : Int32), vd (FP.l2d v1), us] [(.ref b7), (.ref r0)])) rfl rfl (hb hby d2_45)
  have c10 := (uE.ext E7)
  have c11 := (uw.ext E7)
  obtain ⟨T9, h9, X9, e9, W9, st9⟩ := putF X8 hx hZ hown (host := "") (Or.inl (wd hw 24 rfl)) Via.refl e8 c11 c10 (Or.inr ⟨(wd hw 25 rfl), rfl, hnm⟩) (wd hw 7 rfl) (ty := (.array .double)) (by decide) rfl rfl (g := (mkF m 48 #[vr r0, vr r1, vd f2, us, vr r1, vi (2 : Int32), vi (2 : Int32), vd (FP.l2d v1), us] [(.ref b7), (.ref r0)])) rfl rfl (hb hby d2_48)
  have Fw9 := c11.same W9
  have N9 := Fr.snoc X9 N6 ug
  have K9 : Keep h0 h9 [r0] := K7.wr W9 (Or.inl (List.mem_of_getElem? (i := 0) rfl))
  have Z9 : n0 ≤ h9.size := by rw [W9.size]; exact Z7
  have c13 := (c10.wr W9)
  have c14 := ((uo.ext E7).other W9 (Or.inr (slot_ne (Or.inr (wd hw 27 rfl)) (Or.inr (wd hw 25 rfl)) (by decide) (t := .double) (t' := (.array .double)) (by decide) (by decide))))
  obtain ⟨T12, h12, X12, e12, W12, st12⟩ := putF X9 hx hZ hown (host := "") (Or.inl (wd hw 26 rfl)) Via.refl e9 c14 c13 (Or.inr ⟨(wd hw 27 rfl), rfl, hnm⟩) (wd hw 7 rfl) (ty := .double) (by decide) rfl rfl (g := (mkF m 53 #[vr r0, vr r1, vd f2, us, vr r1, vi (2 : Int32), vi (2 : Int32), vd (FP.l2d v1), us] [(.double f2), (.ref r0)])) rfl rfl (hb hby d2_53)
  have Fw12 := c14.same W12
  have N12 := Fr.snoc X12 N9 ug
  have K12 : Keep h0 h12 [r0] := K9.wr W12 (Or.inl (List.mem_of_getElem? (i := 0) rfl))
  have Z12 : n0 ≤ h12.size := by rw [W12.size]; exact Z9
  have c15 := (c13.wr W12)
  have c16 := (Fw9.other W12 (Or.inr (slot_ne (Or.inr (wd hw 25 rfl)) (Or.inr (wd hw 27 rfl)) (by decide) (t := (.array .double)) (t' := .double) (by decide) (by decide))))
  have c17 := ((Va7.other W9 (Ne.symm ne_r0_b7)).other W12 (Ne.symm ne_r0_b7))
  obtain ⟨fs, hr, hrun, hended, hW, hsame⟩ := X12.leave (v := none) (fun _ => rfl)
  refine ⟨_, _, pre0 _ ?_, hrun, hended, _, _, rfl, ?_, ⟨_, rfl⟩, hW, hsame.mono (by decide) (by decide)⟩
  · show SS p e below s₁ (mkF m 0 #[vr r0, vr r1, vd f2, us, uu, uu, uu, uu, uu] []) _
    refine XS.aloadN X0.here hx rfl (hb hby d2_0) rfl rfl ?_
    show SS p e below s₁ (mkF m 1 #[vr r0, vr r1, vd f2, us, uu, uu, uu, uu, uu] [(.ref r0)]) _
    refine st1 _ ?_
    show SS p e below T1 (mkF m 4 #[vr r0, vr r1, vd f2, us, uu, uu, uu, uu, uu] []) _
    refine XS.aloadN X1.here hx rfl (hb hby d2_4) rfl rfl ?_
    show SS p e below T1 (mkF m 5 #[vr r0, vr r1, vd f2, us, uu, uu, uu, uu, uu] [(.ref r1)]) _
    refine XS.astore X1.here hx rfl (hb hby d2_5) rfl rfl (l' := #[vr r0, vr r1, vd f2, us, vr r1, uu, uu, uu, uu]) rfl ?_
    show SS p e below T1 (mkF m 7 #[vr r0, vr r1, vd f2, us, vr r1, uu, uu, uu, uu] []) _
    refine XS.aload X1.here hx rfl (hb hby d2_7) rfl rfl ?_
    show SS p e below T1 (mkF m 9 #[vr r0, vr r1, vd f2, us, vr r1, uu, uu, uu, uu] [(.ref r1)]) _
    refine X1.arraylength hx (own_at e1 Ar2.1) (State.isArrayOf_alike hZ.alike Ar2.2.1) (g := (mkF m 9 #[vr r0, vr r1, vd f2, us, vr r1, uu, uu, uu, uu] [(.ref r1)])) rfl rfl (hb hby d2_9) _ ?_
    rw [len_of S2 Nn2]
    show SS p e below T1 (mkF m 10 #[vr r0, vr r1, vd f2, us, vr r1, uu, uu, uu, uu] [(.int (2 : Int32))]) _
    refine XS.istore X1.here hx rfl (hb hby d2_10) rfl (l' := #[vr r0, vr r1, vd f2, us, vr r1, vi (2 : Int32), uu, uu, uu]) rfl ?_
    show SS p e below T1 (mkF m 12 #[vr r0, vr r1, vd f2, us, vr r1, vi (2 : Int32), uu, uu, uu] []) _
    refine XS.iconst X1.here hx rfl (hb hby d2_12) ?_
    show SS p e below T1 (mkF m 13 #[vr r0, vr r1, vd f2, us, vr r1, vi (2 : Int32), uu, uu, uu] [(.int (0 : Int32))]) _
    refine XS.istore X1.here hx rfl (hb hby d2_13) rfl (l' := #[vr r0, vr r1, vd f2, us, vr r1, vi (2 : Int32), vi (0 : Int32), uu, uu]) rfl ?_
    show SS p e below T1 (mkF m 15 #[vr r0, vr r1, vd f2, us, vr r1, vi (2 : Int32), vi (0 : Int32), uu, uu] []) _
    refine XS.iload X1.here hx rfl (hb hby d2_15) rfl ?_
    show SS p e below T1 (mkF m 17 #[vr r0, vr r1, vd f2, us, vr r1, vi (2 : Int32), vi (0 : Int32), uu, uu] [(.int (0 : Int32))]) _
    refine XS.iload X1.here hx rfl (hb hby d2_17) rfl ?_
    show SS p e below T1 (mkF m 19 #[vr r0, vr r1, vd f2, us, vr r1, vi (2 : Int32), vi (0 : Int32), uu, uu] [(.int (2 : Int32)), (.int (0 : Int32))]) _
    refine XS.icmpNo X1.here hx rfl (hb hby d2_19) rfl (tlt (by decide : (0 : Int32) < (2 : Int32))).2.1 ?_
    show SS p e below T1 (mkF m 22 #[vr r0, vr r1, vd f2, us, vr r1, vi (2 : Int32), vi (0 : Int32), uu, uu] []) _
    refine XS.aload X1.here hx rfl (hb hby d2_22) rfl rfl ?_
    show SS p e below T1 (mkF m 24 #[vr r0, vr r1, vd f2, us, vr r1, vi (2 : Int32), vi (0 : Int32), uu, uu] [(.ref r1)]) _
    refine XS.iload X1.here hx rfl (hb hby d2_24) rfl ?_
    show SS p e below T1 (mkF m 26 #[vr r0, vr r1, vd f2, us, vr r1, vi (2 : Int32), vi (0 : Int32), uu, uu] [(.int (0 : Int32)), (.ref r1)]) _
    refine X1.daload hx (j := (0 : Int32)) (v := (.double (FP.l2d v0))) (own_at e1 Ar3.1) (State.isArrayOf_alike hZ.alike Ar3.2.1) Ar3.2.2 hin3 hat3 (g := (mkF m 26 #[vr r0, vr r1, vd f2, us, vr r1, vi (2 : Int32), vi (0 : Int32), uu, uu] [(.int (0 : Int32)), (.ref r1)])) rfl rfl (hb hby d2_26) _ ?_
    show SS p e below T1 (mkF m 27 #[vr r0, vr r1, vd f2, us, vr r1, vi (2 : Int32), vi (0 : Int32), uu, uu] [(.double (FP.l2d v0))]) _
    refine XS.dstore X1.here hx rfl (hb hby d2_27) rfl (l' := #[vr r0, vr r1, vd f2, us, vr r1, vi (2 : Int32), vi (0 : Int32), vd (FP.l2d v0), us]) rfl ?_
    show SS p e below T1 (mkF m 29 #[vr r0, vr r1, vd f2, us, vr r1, vi (2 : Int32), vi (0 : Int32), vd (FP.l2d v0), us] []) _
    refine XS.dload X1.here hx rfl (hb hby d2_29) rfl ?_
    show SS p e below T1 (mkF m 31 #[vr r0, vr r1, vd f2, us, vr r1, vi (2 : Int32), vi (0 : Int32), vd (FP.l2d v0), us] [(.double (FP.l2d v0))]) _
    refine st4 _ ?_
    show SS p e below T4 (mkF m 34 #[vr r0, vr r1, vd f2, us, vr r1, vi (2 : Int32), vi (0 : Int32), vd (FP.l2d v0), us] []) _
    refine XS.iinc X4.here hx rfl (hb hby d2_34) rfl (l' := #[vr r0, vr r1, vd f2, us, vr r1, vi (2 : Int32), vi ((0 : Int32) + (1 : Int32)), vd (FP.l2d v0), us]) rfl ?_
    show SS p e below T4 (mkF m 37 #[vr r0, vr r1, vd f2, us, vr r1, vi (2 : Int32), vi ((0 : Int32) + (1 : Int32)), vd (FP.l2d v0), us] []) _
    rw [(by decide : ((0 : Int32) + (1 : Int32)) = (1 : Int32))]
    show SS p e below T4 (mkF m 37 #[vr r0, vr r1, vd f2, us, vr r1, vi (2 : Int32), vi (1 : Int32), vd (FP.l2d v0), us] []) _
    refine XS.goto X4.here hx rfl (pc0 := 37) (pc' := 15) rfl (hb hby d2_37) (by decide) (by decide) ?_
    show SS p e below T4 (mkF m 15 #[vr r0, vr r1, vd f2, us, vr r1, vi (2 : Int32), vi (1 : Int32), vd (FP.l2d v0), us] []) _
    refine XS.iload X4.here hx rfl (hb hby d2_15) rfl ?_
    show SS p e below T4 (mkF m 17 #[vr r0, vr r1, vd f2, us, vr r1, vi (2 : Int32), vi (1 : Int32), vd (FP.l2d v0), us] [(.int (1 : Int32))]) _
    refine XS.iload X4.here hx rfl (hb hby d2_17) rfl ?_
    show SS p e below T4 (mkF m 19 #[vr r0, vr r1, vd f2, us, vr r1, vi (2 : Int32), vi (1 : Int32), vd (FP.l2d v0), us] [(.int (2 : Int32)), (.int (1 : Int32))]) _
    refine XS.icmpNo X4.here hx rfl (hb hby d2_19) rfl (tlt (by decide : (1 : Int32) < (2 : Int32))).2.1 ?_
    show SS p e below T4 (mkF m 22 #[vr r0, vr r1, vd f2, us, vr r1, vi (2 : Int32), vi (1 : Int32), vd (FP.l2d v0), us] []) _
    refine XS.aload X4.here hx rfl (hb hby d2_22) rfl rfl ?_
    show SS p e below T4 (mkF m 24 #[vr r0, vr r1, vd f2, us, vr r1, vi (2 : Int32), vi (1 : Int32), vd (FP.l2d v0), us] [(.ref r1)]) _
    refine XS.iload X4.here hx rfl (hb hby d2_24) rfl ?_
    show SS p e below T4 (mkF m 26 #[vr r0, vr r1, vd f2, us, vr r1, vi (2 : Int32), vi (1 : Int32), vd (FP.l2d v0), us] [(.int (1 : Int32)), (.ref r1)]) _
    refine X4.daload hx (j := (1 : Int32)) (v := (.double (FP.l2d v1))) (own_at eh4 Ar5.1) (State.isArrayOf_alike hZ.alike Ar5.2.1) Ar5.2.2 hin5 hat5 (g := (mkF m 26 #[vr r0, vr r1, vd f2, us, vr r1, vi (2 : Int32), vi (1 : Int32), vd (FP.l2d v0), us] [(.int (1 : Int32)), (.ref r1)])) rfl rfl (hb hby d2_26) _ ?_
    show SS p e below T4 (mkF m 27 #[vr r0, vr r1, vd f2, us, vr r1, vi (2 : Int32), vi (1 : Int32), vd (FP.l2d v0), us] [(.double (FP.l2d v1))]) _
    refine XS.dstore X4.here hx rfl (hb hby d2_27) rfl (l' := #[vr r0, vr r1, vd f2, us, vr r1, vi (2 : Int32), vi (1 : Int32), vd (FP.l2d v1), us]) rfl ?_
    show SS p e below T4 (mkF m 29 #[vr r0, vr r1, vd f2, us, vr r1, vi (2 : Int32), vi (1 : Int32), vd (FP.l2d v1), us] []) _
    refine XS.dload X4.here hx rfl (hb hby d2_29) rfl ?_
    show SS p e below T4 (mkF m 31 #[vr r0, vr r1, vd f2, us, vr r1, vi (2 : Int32), vi (1 : Int32), vd (FP.l2d v1), us] [(.double (FP.l2d v1))]) _
    refine st6 _ ?_
    show SS p e below T6 (mkF m 34 #[vr r0, vr r1, vd f2, us, vr r1, vi (2 : Int32), vi (1 : Int32), vd (FP.l2d v1), us] []) _
    refine XS.iinc X6.here hx rfl (hb hby d2_34) rfl (l' := #[vr r0, vr r1, vd f2, us, vr r1, vi (2 : Int32), vi ((1 : Int32) + (1 : Int32)), vd (FP.l2d v1), us]) rfl ?_
    show SS p e below T6 (mkF m 37 #[vr r0, vr r1, vd f2, us, vr r1, vi (2 : Int32), vi ((1 : Int32) + (1 : Int32)), vd (FP.l2d v1), us] []) _
    rw [(by decide : ((1 : Int32) + (1 : Int32)) = (2 : Int32))]
    show SS p e below T6 (mkF m 37 #[vr r0, vr r1, vd f2, us, vr r1, vi (2 : Int32), vi (2 : Int32), vd (FP.l2d v1), us] []) _
    refine XS.goto X6.here hx rfl (pc0 := 37) (pc' := 15) rfl (hb hby d2_37) (by decide) (by decide) ?_
    show SS p e below T6 (mkF m 15 #[vr r0, vr r1, vd f2, us, vr r1, vi (2 : Int32), vi (2 : Int32), vd (FP.l2d v1), us] []) _
    refine XS.iload X6.here hx rfl (hb hby d2_15) rfl ?_
    show SS p e below T6 (mkF m 17 #[vr r0, vr r1, vd f2, us, vr r1, vi (2 : Int32), vi (2 : Int32), vd (FP.l2d v1), us] [(.int (2 : Int32))]) _
    refine XS.iload X6.here hx rfl (hb hby d2_17) rfl ?_
    show SS p e below T6 (mkF m 19 #[vr r0, vr r1, vd f2, us, vr r1, vi (2 : Int32), vi (2 : Int32), vd (FP.l2d v1), us] [(.int (2 : Int32)), (.int (2 : Int32))]) _
    refine XS.icmpYes X6.here hx rfl (pc0 := 19) (pc' := 40) rfl (hb hby d2_19) rfl (flt (by decide : ¬ ((2 : Int32) < (2 : Int32)))).2.1 (by decide) (by decide) ?_
    show SS p e below T6 (mkF m 40 #[vr r0, vr r1, vd f2, us, vr r1, vi (2 : Int32), vi (2 : Int32), vd (FP.l2d v1), us] []) _
    refine XS.aloadN X6.here hx rfl (hb hby d2_40) rfl rfl ?_
    show SS p e below T6 (mkF m 41 #[vr r0, vr r1, vd f2, us, vr r1, vi (2 : Int32), vi (2 : Int32), vd (FP.l2d v1), us] [(.ref r0)]) _
    refine XS.aloadN X6.here hx rfl (hb hby d2_41) rfl rfl ?_
    show SS p e below T6 (mkF m 42 #[vr r0, vr r1, vd f2, us, vr r1, vi (2 : Int32), vi (2 : Int32), vd (FP.l2d v1), us] [(.ref r1), (.ref r0)]) _
    refine st7 _ ?_
    show SS p e below T7 (mkF m 45 #[vr r0, vr r1, vd f2, us, vr r1, vi (2 : Int32), vi (2 : Int32), vd (FP.l2d v1), us] [(.ref b7), (.ref r0)]) _
    refine st8 _ ?_
    show SS p e below T8 (mkF m 48 #[vr r0, vr r1, vd f2, us, vr r1, vi (2 : Int32), vi (2 : Int32), vd (FP.l2d v1), us] [(.ref b7), (.ref r0)]) _
    refine st9 _ ?_
    show SS p e below T9 (mkF m 51 #[vr r0, vr r1, vd f2, us, vr r1, vi (2 : Int32), vi (2 : Int32), vd (FP.l2d v1), us] []) _
    refine XS.aloadN X9.here hx rfl (hb hby d2_51) rfl rfl ?_
    show SS p e below T9 (mkF m 52 #[vr r0, vr r1, vd f2, us, vr r1, vi (2 : Int32), vi (2 : Int32), vd (FP.l2d v1), us] [(.ref r0)]) _
    refine XS.dloadN X9.here hx rfl (hb hby d2_52) rfl ?_
    show SS p e below T9 (mkF m 53 #[vr r0, vr r1, vd f2, us, vr r1, vi (2 : Int32), vi (2 : Int32), vd (FP.l2d v1), us] [(.double f2), (.ref r0)]) _
    refine st12 _ ?_
    show SS p e below T12 (mkF m 56 #[vr r0, vr r1, vd f2, us, vr r1, vi (2 : Int32), vi (2 : Int32), vd (FP.l2d v1), us] []) _
    exact X12.returnOut hx Bd.returns (hb hby d2_56) hr
  · show Q_rmI2 Z r0 r1 f2 kb v0 v1 h0 n0 _ T12.heap _
    rw [e12]
    exact ⟨b7, rfl, N12, K12, c15, c16, Fw12, sz_b7, c17⟩
theorem d4_13 : decode prog_15_method_11_code 13 = .ok (.dload_n 1, 1) := by decide +kernel
theorem d4_14 : decode prog_15_method_11_code 14 = .ok (.iload_n 3, 1) := by decide +kernel
theorem d4_15 : decode prog_15_method_11_code 15 = .ok (.i2d, 1) := by decide +kernel
theorem d4_16 : decode prog_15_method_11_code 16 = .ok (.aload_n 0, 1) := by decide +kernel
theorem d4_17 : decode prog_15_method_11_code 17 = .ok (.getfield 22, 3) := by decide +kernel
theorem d4_20 : decode prog_15_method_11_code 20 = .ok (.iload_n 3, 1) := by decide +kernel
theorem d4_21 : decode prog_15_method_11_code 21 = .ok (.daload, 1) := by decide +kernel
theorem d4_22 : decode prog_15_method_11_code 22 = .ok (.dmul, 1) := by decide +kernel
theorem d4_23 : decode prog_15_method_11_code 23 = .ok (.dadd, 1) := by decide +kernel
theorem d4_24 : decode prog_15_method_11_code 24 = .ok (.dstore_n 1, 1) := by decide +kernel
theorem d4_25 : decode prog_15_method_11_code 25 = .ok (.iinc 3 1, 3) := by decide +kernel
theorem d4_28 : decode prog_15_method_11_code 28 = .ok (.goto (-24), 3) := by decide +kernel
def Q_rmM2 (Z : State) (r0 : Addr) (rb : Addr) (kb : ClassId) (vt : Int64) (v0 : Int64) (v1 : Int64) (h0 : Heap) (n0 : Nat) (v : Option Value) (h : Heap) (L : List Loc) : Prop := (v = some (.double (FP.ddiv (FP.l2d ((0 : Int64) + v1)) (FP.l2d vt))) ∧ Fr n0 L ∧ h = h0)
set_option maxRecDepth 65536 in
set_option maxHeartbeats 40000000 in
theorem rmM2 (l : Launch) (Z : State) (a0 : Array Value) (hw : ∀ d ∈ tables_1, d.before a0 Z = true) (ws : List Jvm.Cond) (r0 : Addr) (rb : Addr) (kb : ClassId) (vt : Int64) (v0 : Int64) (v1 : Int64) (h0 : Heap) (n0 : Nat) (Z0 : n0 ≤ h0.size) (uw : Fld Z h0 r0 "org/quarrel/model/Distribution" "weights" "[D" (.ref rb)) (uo : Fld Z h0 r0 "org/quarrel/model/Distribution" "total" "D" (.double (FP.l2d vt))) (uV : Arv Z h0 rb kb .double (2 : Int32) [(.double (FP.l2d v0)), (.double (FP.l2d v1))] (.double 0)) (unz : vt ≠ 0) (uz_v0 : 0 ≤ v0.toInt) (ut_v0 : v0.toInt < 2147483648) (uz_v1 : 0 ≤ v1.toInt) (ut_v1 : v1.toInt < 2147483648) :
    MetFree l (⟨"org/quarrel/model/Distribution", "mean", "()D"⟩ : MethodName) (head1 (Jvm.Cond.code (⟨"org/quarrel/model/Distribution", "mean", "()D"⟩ : MethodName) prog_15_method_11_code 4 (some .double) :: ws) ({ frames := 0, cells := 0, slots := 0, locals := 0 } : Room)) (fun a U => a = #[(.ref r0)] ∧ Z.Warmed39 U.vm ∧ U.heap = h0) (fun _ _ _ _ _ => True) (fun _ U o U' => ∃ v L, o = .returned v ∧ Q_rmM2 Z r0 rb kb vt v0 v1 h0 n0 v U'.heap L ∧ FrameEnd U o U' L ({ frames := 0, cells := 0, slots := 0, locals := 0 } : Room).cells ({ frames := 0, cells := 0, slots := 0, locals := 0 } : Room).slots) := by
  refine MetFree.of_bodySF (plainFor_of_name pn_1) hisR ?_
  intro p e s m args below meth c s₁ Bd hml0 hP hK
  obtain ⟨rfl, hZ, hh⟩ := hP
  have hx := Bd.exec
  have hby := Bd.bytes
  have hml : c.maxLocals = 4 := hml0
  have hown : s.vm.findClass "org/quarrel/model/Distribution" = some m.cls := findClass_of_methodNamed Bd.named
  have hnm := (name_of_methodNamed Bd.named Bd.method).1
  have X0 : Stand p l e ({ frames := 0, cells := 0, slots := 0, locals := 0 } : Room) s m #[(.ref r0)] below meth c s₁ [] 0 0 := Stand.of_body Bd
  have e0 : s₁.heap = h0 := by rw [← hh, Bd.state]; rfl
  have N0 := Fr.nil n0
  have pre0 : ∀ t, Steps p.tables e below (s₁.setTop (mkF m 0 #[vr r0, uu, uu, uu] [])) t → Steps p.tables e below (s₁.setTop (entryFrame m #[(.ref r0)] 4)) t := fun t k => castTop (ef_4 m r0) k
  have pr1 := own_mul1 uz_v1 ut_v1
  have sm1 := own_add0 uz_v1 ut_v1
  obtain ⟨T1, X1, e1, st1⟩ := getF X0 hx hZ hown (host := "") (Or.inl (wd hw 24 rfl)) Via.refl e0 uw (g := (mkF m 6 #[vr r0, vd (FP.l2d (0 : Int64)), us, vi (1 : Int32)] [(.ref r0), (.int (1 : Int32))])) rfl rfl (hb hby d4_6)
  obtain ⟨cl2, Ar2, q2, S2, Nn2, H2, G2⟩ := (id uV)
  obtain ⟨T3, X3, e3, st3⟩ := getF X1 hx hZ hown (host := "") (Or.inl (wd hw 24 rfl)) Via.refl e1 uw (g := (mkF m 17 #[vr r0, vd (FP.l2d (0 : Int64)), us, vi (1 : Int32)] [(.ref r0), (.double (FP.l2d (1 : Int64))), (.double (FP.l2d (0 : Int64)))])) rfl rfl (hb hby d4_17)
  obtain ⟨cl4, Ar4, q4, S4, Nn4, H4, G4⟩ := (id uV)
  have hin4 : ¬ ((1 : Int32) < 0 ∨ cl4.slots.size ≤ ((1 : Int32)).toNatClampNeg) := inb_of S4 ⟨by decide, by decide⟩
  have hat4 : cl4.slots[((1 : Int32)).toNatClampNeg]? = some (.double (FP.l2d v1)) := H4.at hin4 rfl
  obtain ⟨T5, X5, e5, st5⟩ := getF X3 hx hZ hown (host := "") (Or.inl (wd hw 24 rfl)) Via.refl e3 uw (g := (mkF m 6 #[vr r0, vd (FP.l2d ((0 : Int64) + v1)), us, vi (2 : Int32)] [(.ref r0), (.int (2 : Int32))])) rfl rfl (hb hby d4_6)
  obtain ⟨cl6, Ar6, q6, S6, Nn6, H6, G6⟩ := (id uV)
  obtain ⟨T7, X7, e7, st7⟩ := getF X5 hx hZ hown (host := "") (Or.inl (wd hw 26 rfl)) Via.refl e5 uo (g := (mkF m 33 #[vr r0, vd (FP.l2d ((0 : Int64) + v1)), us, vi (2 : Int32)] [(.ref r0), (.double (FP.l2d ((0 : Int64) + v1)))])) rfl rfl (hb hby d4_33)
  obtain ⟨fs, hr, hrun, hended, hW, hsame⟩ := X7.leave (v := some (.double (FP.ddiv (FP.l2d ((0 : Int64) + v1)) (FP.l2d vt)))) (fun h => by rw [Bd.returns] at h; cases h)
  refine ⟨_, _, pre0 _ ?_, hrun, hended, _, _, rfl, ?_, ⟨_, rfl⟩, hW, hsame.mono (by decide) (by decide)⟩
  · show SS p e below s₁ (mkF m 0 #[vr r0, uu, uu, uu] []) _
    refine XS.dconst0 X0.here hx rfl (hb hby d4_0) (v := (FP.l2d (0 : Int64))) (by decide) ?_
    show SS p e below s₁ (mkF m 1 #[vr r0, uu, uu, uu] [(.double (FP.l2d (0 : Int64)))]) _
    refine XS.dstoreN X0.here hx rfl (hb hby d4_1) rfl (l' := #[vr r0, vd (FP.l2d (0 : Int64)), us, uu]) rfl ?_
    show SS p e below s₁ (mkF m 2 #[vr r0, vd (FP.l2d (0 : Int64)), us, uu] []) _
    refine XS.iconst X0.here hx rfl (hb hby d4_2) ?_
    show SS p e below s₁ (mkF m 3 #[vr r0, vd (FP.l2d (0 : Int64)), us, uu] [(.int (1 : Int32))]) _
    refine XS.istoreN X0.here hx rfl (hb hby d4_3) rfl (l' := #[vr r0, vd (FP.l2d (0 : Int64)), us, vi (1 : Int32)]) rfl ?_
    show SS p e below s₁ (mkF m 4 #[vr r0, vd (FP.l2d (0 : Int64)), us, vi (1 : Int32)] []) _
    refine XS.iloadN X0.here hx rfl (hb hby d4_4) rfl ?_
    show SS p e below s₁ (mkF m 5 #[vr r0, vd (FP.l2d (0 : Int64)), us, vi (1 : Int32)] [(.int (1 : Int32))]) _
    refine XS.aloadN X0.here hx rfl (hb hby d4_5) rfl rfl ?_
    show SS p e below s₁ (mkF m 6 #[vr r0, vd (FP.l2d (0 : Int64)), us, vi (1 : Int32)] [(.ref r0), (.int (1 : Int32))]) _
    refine st1 _ ?_
    show SS p e below T1 (mkF m 9 #[vr r0, vd (FP.l2d (0 : Int64)), us, vi (1 : Int32)] [(.ref rb), (.int (1 : Int32))]) _
    refine X1.arraylength hx (own_at e1 Ar2.1) (State.isArrayOf_alike hZ.alike Ar2.2.1) (g := (mkF m 9 #[vr r0, vd (FP.l2d (0 : Int64)), us, vi (1 : Int32)] [(.ref rb), (.int (1 : Int32))])) rfl rfl (hb hby d4_9) _ ?_
    rw [len_of S2 Nn2]
    show SS p e below T1 (mkF m 10 #[vr r0, vd (FP.l2d (0 : Int64)), us, vi (1 : Int32)] [(.int (2 : Int32)), (.int (1 : Int32))]) _
    refine XS.icmpNo X1.here hx rfl (hb hby d4_10) rfl (tlt (by decide : (1 : Int32) < (2 : Int32))).2.1 ?_
    show SS p e below T1 (mkF m 13 #[vr r0, vd (FP.l2d (0 : Int64)), us, vi (1 : Int32)] []) _
    refine XS.dloadN X1.here hx rfl (hb hby d4_13) rfl ?_
    show SS p e below T1 (mkF m 14 #[vr r0, vd (FP.l2d (0 : Int64)), us, vi (1 : Int32)] [(.double (FP.l2d (0 : Int64)))]) _
    refine XS.iloadN X1.here hx rfl (hb hby d4_14) rfl ?_
    show SS p e below T1 (mkF m 15 #[vr r0, vd (FP.l2d (0 : Int64)), us, vi (1 : Int32)] [(.int (1 : Int32)), (.double (FP.l2d (0 : Int64)))]) _
    refine XS.i2dS X1.here hx rfl (hb hby d4_15) rfl (v := (FP.l2d (1 : Int64))) (i2d_w _) ?_
    show SS p e below T1 (mkF m 16 #[vr r0, vd (FP.l2d (0 : Int64)), us, vi (1 : Int32)] [(.double (FP.l2d (1 : Int64))), (.double (FP.l2d (0 : Int64)))]) _
    refine XS.aloadN X1.here hx rfl (hb hby d4_16) rfl rfl ?_
    show SS p e below T1 (mkF m 17 #[vr r0, vd (FP.l2d (0 : Int64)), us, vi (1 : Int32)] [(.ref r0), (.double (FP.l2d (1 : Int64))), (.double (FP.l2d (0 : Int64)))]) _
    refine st3 _ ?_
    show SS p e below T3 (mkF m 20 #[vr r0, vd (FP.l2d (0 : Int64)), us, vi (1 : Int32)] [(.ref rb), (.double (FP.l2d (1 : Int64))), (.double (FP.l2d (0 : Int64)))]) _
    refine XS.iloadN X3.here hx rfl (hb hby d4_20) rfl ?_
    show SS p e below T3 (mkF m 21 #[vr r0, vd (FP.l2d (0 : Int64)), us, vi (1 : Int32)] [(.int (1 : Int32)), (.ref rb), (.double (FP.l2d (1 : Int64))), (.double (FP.l2d (0 : Int64)))]) _
    refine X3.daload hx (j := (1 : Int32)) (v := (.double (FP.l2d v1))) (own_at e3 Ar4.1) (State.isArrayOf_alike hZ.alike Ar4.2.1) Ar4.2.2 hin4 hat4 (g := (mkF m 21 #[vr r0, vd (FP.l2d (0 : Int64)), us, vi (1 : Int32)] [(.int (1 : Int32)), (.ref rb), (.double (FP.l2d (1 : Int64))), (.double (FP.l2d (0 : Int64)))])) rfl rfl (hb hby d4_21) _ ?_
    show SS p e below T3 (mkF m 22 #[vr r0, vd (FP.l2d (0 : Int64)), us, vi (1 : Int32)] [(.double (FP.l2d v1)), (.double (FP.l2d (1 : Int64))), (.double (FP.l2d (0 : Int64)))]) _
    refine XS.dmulS X3.here hx rfl (hb hby d4_22) rfl (v := (FP.l2d v1)) (nn_w pr1) pr1 ?_
    show SS p e below T3 (mkF m 23 #[vr r0, vd (FP.l2d (0 : Int64)), us, vi (1 : Int32)] [(.double (FP.l2d v1)), (.double (FP.l2d (0 : Int64)))]) _
    refine XS.daddS X3.here hx rfl (hb hby d4_23) rfl (v := (FP.l2d ((0 : Int64) + v1))) (nn_w sm1.1) sm1.1 ?_
    show SS p e below T3 (mkF m 24 #[vr r0, vd (FP.l2d (0 : Int64)), us, vi (1 : Int32)] [(.double (FP.l2d ((0 : Int64) + v1)))]) _
    refine XS.dstoreN X3.here hx rfl (hb hby d4_24) rfl (l' := #[vr r0, vd (FP.l2d ((0 : Int64) + v1)), us, vi (1 : Int32)]) rfl ?_
    show SS p e below T3 (mkF m 25 #[vr r0, vd (FP.l2d ((0 : Int64) + v1)), us, vi (1 : Int32)] []) _
    refine XS.iinc X3.here hx rfl (hb hby d4_25) rfl (l' := #[vr r0, vd (FP.l2d ((0 : Int64) + v1)), us, vi ((1 : Int32) + (1 : Int32))]) rfl ?_
    show SS p e below T3 (mkF m 28 #[vr r0, vd (FP.l2d ((0 : Int64) + v1)), us, vi ((1 : Int32) + (1 : Int32))] []) _
    rw [(by decide : ((1 : Int32) + (1 : Int32)) = (2 : Int32))]
    show SS p e below T3 (mkF m 28 #[vr r0, vd (FP.l2d ((0 : Int64) + v1)), us, vi (2 : Int32)] []) _
    refine XS.goto X3.here hx rfl (pc0 := 28) (pc' := 4) rfl (hb hby d4_28) (by decide) (by decide) ?_
    show SS p e below T3 (mkF m 4 #[vr r0, vd (FP.l2d ((0 : Int64) + v1)), us, vi (2 : Int32)] []) _
    refine XS.iloadN X3.here hx rfl (hb hby d4_4) rfl ?_
    show SS p e below T3 (mkF m 5 #[vr r0, vd (FP.l2d ((0 : Int64) + v1)), us, vi (2 : Int32)] [(.int (2 : Int32))]) _
    refine XS.aloadN X3.here hx rfl (hb hby d4_5) rfl rfl ?_
    show SS p e below T3 (mkF m 6 #[vr r0, vd (FP.l2d ((0 : Int64) + v1)), us, vi (2 : Int32)] [(.ref r0), (.int (2 : Int32))]) _
    refine st5 _ ?_
    show SS p e below T5 (mkF m 9 #[vr r0, vd (FP.l2d ((0 : Int64) + v1)), us, vi (2 : Int32)] [(.ref rb), (.int (2 : Int32))]) _
    refine X5.arraylength hx (own_at e5 Ar6.1) (State.isArrayOf_alike hZ.alike Ar6.2.1) (g := (mkF m 9 #[vr r0, vd (FP.l2d ((0 : Int64) + v1)), us, vi (2 : Int32)] [(.ref rb), (.int (2 : Int32))])) rfl rfl (hb hby d4_9) _ ?_
    rw [len_of S6 Nn6]
    show SS p e below T5 (mkF m 10 #[vr r0, vd (FP.l2d ((0 : Int64) + v1)), us, vi (2 : Int32)] [(.int (2 : Int32)), (.int (2 : Int32))]) _
    refine XS.icmpYes X5.here hx rfl (pc0 := 10) (pc' := 31) rfl (hb hby d4_10) rfl (flt (by decide : ¬ ((2 : Int32) < (2 : Int32)))).2.1 (by decide) (by decide) ?_
    show SS p e below T5 (mkF m 31 #[vr r0, vd (FP.l2d ((0 : Int64) + v1)), us, vi (2 : Int32)] []) _
    refine XS.dloadN X5.here hx rfl (hb hby d4_31) rfl ?_
    show SS p e below T5 (mkF m 32 #[vr r0, vd (FP.l2d ((0 : Int64) + v1)), us, vi (2 : Int32)] [(.double (FP.l2d ((0 : Int64) + v1)))]) _
    refine XS.aloadN X5.here hx rfl (hb hby d4_32) rfl rfl ?_
    show SS p e below T5 (mkF m 33 #[vr r0, vd (FP.l2d ((0 : Int64) + v1)), us, vi (2 : Int32)] [(.ref r0), (.double (FP.l2d ((0 : Int64) + v1)))]) _
    refine st7 _ ?_
    show SS p e below T7 (mkF m 36 #[vr r0, vd (FP.l2d ((0 : Int64) + v1)), us, vi (2 : Int32)] [(.double (FP.l2d vt)), (.double (FP.l2d ((0 : Int64) + v1)))]) _
    refine XS.ddivS X7.here hx rfl (hb hby d4_36) rfl (v := (FP.ddiv (FP.l2d ((0 : Int64) + v1)) (FP.l2d vt))) (own_dnn _ unz) rfl ?_
    show SS p e below T7 (mkF m 37 #[vr r0, vd (FP.l2d ((0 : Int64) + v1)), us, vi (2 : Int32)] [(.double (FP.ddiv (FP.l2d ((0 : Int64) + v1)) (FP.l2d vt)))]) _
    exact retOut X7 hx Bd.returns rfl (Or.inr (Or.inr (Or.inl ⟨rfl, rfl, _, rfl⟩))) (hb hby d4_37) hr
  · show Q_rmM2 Z r0 rb kb vt v0 v1 h0 n0 _ T7.heap _
    rw [e7]
    exact ⟨rfl, N0, rfl⟩
theorem ef_7 (m : MethodId) (x1 : UInt64) (x2 : UInt64) (x3 : UInt64) (x4 : UInt64) : entryFrame m #[(.int (3 : Int32)), (.double x1), (.double x2), (.double x3), (.double x4)] 9 = mkF m 0 #[vi (3 : Int32), vd x1, us, vd x2, us, vd x3, us, vd x4, us] [] := by first | (simp [entryFrame, mkF, argsToLocals, Value.category]; done) | rfl
theorem d1_38 : decode method_2_code 38 = .ok (.iload_n 0, 1) := by decide +kernel
theorem d1_39 : decode method_2_code 39 = .ok (.iconst 3, 1) := by decide +kernel
theorem d1_40 : decode method_2_code 40 = .ok (.if_icmp .ne 20, 3) := by decide +kernel
theorem d1_43 : decode method_2_code 43 = .ok (.iconst 3, 1) := by decide +kernel
theorem d1_44 : decode method_2_code 44 = .ok (.newarray .double, 2) := by decide +kernel
theorem d1_46 : decode method_2_code 46 = .ok (.dup, 1) := by decide +kernel
theorem d1_47 : decode method_2_code 47 = .ok (.iconst 0, 1) := by decide +kernel
theorem d1_48 : decode method_2_code 48 = .ok (.dload_n 1, 1) := by decide +kernel
theorem d1_49 : decode method_2_code 49 = .ok (.dastore, 1) := by decide +kernel
theorem d1_50 : decode method_2_code 50 = .ok (.dup, 1) := by decide +kernel
theorem d1_51 : decode method_2_code 51 = .ok (.iconst 1, 1) := by decide +kernel
theorem d1_52 : decode method_2_code 52 = .ok (.dload_n 3, 1) := by decide +kernel
theorem d1_53 : decode method_2_code 53 = .ok (.dastore, 1) := by decide +kernel
theorem d1_54 : decode method_2_code 54 = .ok (.dup, 1) := by decide +kernel
theorem d1_55 : decode method_2_code 55 = .ok (.iconst 2, 1) := by decide +kernel
theorem d1_56 : decode method_2_code 56 = .ok (.dload 5, 2) := by decide +kernel
theorem d1_58 : decode method_2_code 58 = .ok (.dastore, 1) := by decide +kernel
theorem d1_59 : decode method_2_code 59 = .ok (.areturn, 1) := by decide +kernel
def Q_rmW3 (Z : State) (f1 : UInt64) (f2 : UInt64) (f3 : UInt64) (f4 : UInt64) (h0 : Heap) (n0 : Nat) (v : Option Value) (h : Heap) (L : List Loc) : Prop := ∃ (nb : Addr), ∃ (kn : ClassId), (v = some (.ref nb) ∧ Fr n0 L ∧ Keep h0 h [] ∧ h0.size ≤ nb ∧ Exa Z h nb "[D" ∧ Arv Z h nb kn .double (3 : Int32) [(.double f1), (.double f2), (.double f3)] (.double 0))
set_option maxRecDepth 65536 in
set_option maxHeartbeats 40000000 in
theorem rmW3 (l : Launch) (Z : State) (a0 : Array Value) (hw : ∀ d ∈ tables_1, d.before a0 Z = true) (ws : List Jvm.Cond) (f1 : UInt64) (f2 : UInt64) (f3 : UInt64) (f4 : UInt64) (h0 : Heap) (n0 : Nat) (Z0 : n0 ≤ h0.size) :
    MetFree l (⟨"org/quarrel/model/DistributionMeanPinLaw", "weights", "(IDDDD)[D"⟩ : MethodName) (head1 (Jvm.Cond.code (⟨"org/quarrel/model/DistributionMeanPinLaw", "weights", "(IDDDD)[D"⟩ : MethodName) method_2_code 9 (some (.array .double)) :: ws) ({ frames := 0, cells := 1, slots := 3, locals := 0 } : Room)) (fun a U => a = #[(.int (3 : Int32)), (.double f1), (.double f2), (.double f3), (.double f4)] ∧ Z.Warmed39 U.vm ∧ U.heap = h0) (fun _ _ _ _ _ => True) (fun _ U o U' => ∃ v L, o = .returned v ∧ Q_rmW3 Z f1 f2 f3 f4 h0 n0 v U'.heap L ∧ FrameEnd U o U' L ({ frames := 0, cells := 1, slots := 3, locals := 0 } : Room).cells ({ frames := 0, cells := 1, slots := 3, locals := 0 } : Room).slots) := by
  refine MetFree.of_bodySF (plainFor_of_name pn_2) hisR ?_
  intro p e s m args below meth c s₁ Bd hml0 hP hK
  obtain ⟨rfl, hZ, hh⟩ := hP
  have hx := Bd.exec
  have hby := Bd.bytes
  have hml : c.maxLocals = 9 := hml0
  have hown : s.vm.findClass "org/quarrel/model/DistributionMeanPinLaw" = some m.cls := findClass_of_methodNamed Bd.named
  have hnm := (name_of_methodNamed Bd.named Bd.method).1
  have X0 : Stand p l e ({ frames := 0, cells := 1, slots := 3, locals := 0 } : Room) s m #[(.int (3 : Int32)), (.double f1), (.double f2), (.double f3), (.double f4)] below meth c s₁ [] 0 0 := Stand.of_body Bd
  have e0 : s₁.heap = h0 := by rw [← hh, Bd.state]; rfl
  have N0 := Fr.nil n0
  have pre0 : ∀ t, Steps p.tables e below (s₁.setTop (mkF m 0 #[vi (3 : Int32), vd f1, us, vd f2, us, vd f3, us, vd f4, us] [])) t → Steps p.tables e below (s₁.setTop (entryFrame m #[(.int (3 : Int32)), (.double f1), (.double f2), (.double f3), (.double f4)] 9)) t := fun t k => castTop (ef_7 m f1 f2 f3 f4) k
  obtain ⟨T1, h1, k1, X1, e1, E1, A1, AX1, st1⟩ := newPE X0 hx hZ (wd hw 5 rfl) e0 (g := (mkF m 44 #[vi (3 : Int32), vd f1, us, vd f2, us, vd f3, us, vd f4, us] [(.int (3 : Int32))])) rfl (hb hby d1_44) rfl (by decide) (cap := 3) (by decide) (by decide) (by decide) (by decide) (ad := "[D") (by decide)
  obtain ⟨b1, g1⟩ : ∃ z, z = h0.size := ⟨_, rfl⟩
  rw [← g1] at A1 AX1 st1
  have V1 : Arv Z h1 b1 k1 .double (3 : Int32) [(.double 0), (.double 0), (.double 0)] (.double 0) := (Arv.new A1 (by decide)).pad (pad_rep [] (.double 0) 3)
  have g_b1 : n0 ≤ b1 := Nat.le_trans Z0 (Nat.le_of_eq g1.symm)
  have sz_b1 : h0.size ≤ b1 := Nat.le_trans (Keep.refl h0 []).1 (Nat.le_of_eq g1.symm)
  have K1 : Keep h0 h1 [] := (Keep.refl h0 []).ext E1
  have Z1 : n0 ≤ h1.size := Nat.le_trans Z0 E1.1
  obtain ⟨cl2, Ar2, q2, S2, Nn2, H2, G2⟩ := (id V1)
  have hin2 : ¬ ((0 : Int32) < 0 ∨ cl2.slots.size ≤ ((0 : Int32)).toNatClampNeg) := inb_of S2 ⟨by decide, by decide⟩
  obtain ⟨T2, h2, X2, e2, W2, st2⟩ := stD X1 hx hZ e1 Ar2 (j := (0 : Int32)) hin2 (g := (mkF m 49 #[vi (3 : Int32), vd f1, us, vd f2, us, vd f3, us, vd f4, us] [(.double f1), (.int (0 : Int32)), (.ref b1), (.ref b1)])) rfl rfl (hb hby d1_49)
  have V2 : Arv Z h2 b1 k1 .double (3 : Int32) [(.double f1), (.double 0), (.double 0)] (.double 0) := Arv.set Ar2 q2 S2 Nn2 H2 G2 rfl W2 0 rfl (Nat.le_of_ble_eq_true rfl)
  have N2 := Fr.snoc X2 N0 g_b1
  have K2 : Keep h0 h2 [] := K1.wr W2 (Or.inr sz_b1)
  have Z2 : n0 ≤ h2.size := by rw [W2.size]; exact Z1
  obtain ⟨cl3, Ar3, q3, S3, Nn3, H3, G3⟩ := (id V2)
  have hin3 : ¬ ((1 : Int32) < 0 ∨ cl3.slots.size ≤ ((1 : Int32)).toNatClampNeg) := inb_of S3 ⟨by decide, by decide⟩
  obtain ⟨T3, h3, X3, e3, W3, st3⟩ := stD X2 hx hZ e2 Ar3 (j := (1 : Int32)) hin3 (g := (mkF m 53 #[vi (3 : Int32), vd f1, us, vd f2, us, vd f3, us, vd f4, us] [(.double f2), (.int (1 : Int32)), (.ref b1), (.ref b1)])) rfl rfl (hb hby d1_53)
  have V3 : Arv Z h3 b1 k1 .double (3 : Int32) [(.double f1), (.double f2), (.double 0)] (.double 0) := Arv.set Ar3 q3 S3 Nn3 H3 G3 rfl W3 1 rfl (Nat.le_of_ble_eq_true rfl)
  have N3 := Fr.snoc X3 N2 g_b1
  have K3 : Keep h0 h3 [] := K2.wr W3 (Or.inr sz_b1)
  have Z3 : n0 ≤ h3.size := by rw [W3.size]; exact Z2
  obtain ⟨cl4, Ar4, q4, S4, Nn4, H4, G4⟩ := (id V3)
  have hin4 : ¬ ((2 : Int32) < 0 ∨ cl4.slots.size ≤ ((2 : Int32)).toNatClampNeg) := inb_of S4 ⟨by decide, by decide⟩
  obtain ⟨T4, h4, X4, e4, W4, st4⟩ := stD X3 hx hZ e3 Ar4 (j := (2 : Int32)) hin4 (g := (mkF m 58 #[vi (3 : Int32), vd f1, us, vd f2, us, vd f3, us, vd f4, us] [(.double f3), (.int (2 : Int32)), (.ref b1), (.ref b1)])) rfl rfl (hb hby d1_58)
  have V4 : Arv Z h4 b1 k1 .double (3 : Int32) [(.double f1), (.double f2), (.double f3)] (.double 0) := Arv.set Ar4 q4 S4 Nn4 H4 G4 rfl W4 2 rfl (Nat.le_of_ble_eq_true rfl)
  have N4 := Fr.snoc X4 N3 g_b1
  have K4 : Keep h0 h4 [] := K3.wr W4 (Or.inr sz_b1)
  have Z4 : n0 ≤ h4.size := by rw [W4.size]; exact Z3
  have c5 := (((AX1.wr W2).wr W3).wr W4)
  obtain ⟨fs, hr, hrun, hended, hW, hsame⟩ := X4.leave (v := some (.ref b1)) (fun h => by rw [Bd.returns] at h; cases h)
  refine ⟨_, _, pre0 _ ?_, hrun, hended, _, _, rfl, ?_, ⟨_, rfl⟩, hW, hsame.mono (by decide) (by decide)⟩
  · show SS p e below s₁ (mkF m 0 #[vi (3 : Int32), vd f1, us, vd f2, us, vd f3, us, vd f4, us] []) _
    refine XS.iloadN X0.here hx rfl (hb hby d1_0) rfl ?_
    show SS p e below s₁ (mkF m 1 #[vi (3 : Int32), vd f1, us, vd f2, us, vd f3, us, vd f4, us] [(.int (3 : Int32))]) _
    refine XS.ifYes X0.here hx rfl (pc0 := 1) (pc' := 8) rfl (hb hby d1_1) rfl ((if0 _ _).trans (feq (by decide : ¬ ((3 : Int32) = (0 : Int32)))).2) (by decide) (by decide) ?_
    show SS p e below s₁ (mkF m 8 #[vi (3 : Int32), vd f1, us, vd f2, us, vd f3, us, vd f4, us] []) _
    refine XS.iloadN X0.here hx rfl (hb hby d1_8) rfl ?_
    show SS p e below s₁ (mkF m 9 #[vi (3 : Int32), vd f1, us, vd f2, us, vd f3, us, vd f4, us] [(.int (3 : Int32))]) _
    refine XS.iconst X0.here hx rfl (hb hby d1_9) ?_
    show SS p e below s₁ (mkF m 10 #[vi (3 : Int32), vd f1, us, vd f2, us, vd f3, us, vd f4, us] [(.int (1 : Int32)), (.int (3 : Int32))]) _
    refine XS.icmpYes X0.here hx rfl (pc0 := 10) (pc' := 21) rfl (hb hby d1_10) rfl (feq (by decide : ¬ ((3 : Int32) = (1 : Int32)))).2 (by decide) (by decide) ?_
    show SS p e below s₁ (mkF m 21 #[vi (3 : Int32), vd f1, us, vd f2, us, vd f3, us, vd f4, us] []) _
    refine XS.iloadN X0.here hx rfl (hb hby d1_21) rfl ?_
    show SS p e below s₁ (mkF m 22 #[vi (3 : Int32), vd f1, us, vd f2, us, vd f3, us, vd f4, us] [(.int (3 : Int32))]) _
    refine XS.iconst X0.here hx rfl (hb hby d1_22) ?_
    show SS p e below s₁ (mkF m 23 #[vi (3 : Int32), vd f1, us, vd f2, us, vd f3, us, vd f4, us] [(.int (2 : Int32)), (.int (3 : Int32))]) _
    refine XS.icmpYes X0.here hx rfl (pc0 := 23) (pc' := 38) rfl (hb hby d1_23) rfl (feq (by decide : ¬ ((3 : Int32) = (2 : Int32)))).2 (by decide) (by decide) ?_
    show SS p e below s₁ (mkF m 38 #[vi (3 : Int32), vd f1, us, vd f2, us, vd f3, us, vd f4, us] []) _
    refine XS.iloadN X0.here hx rfl (hb hby d1_38) rfl ?_
    show SS p e below s₁ (mkF m 39 #[vi (3 : Int32), vd f1, us, vd f2, us, vd f3, us, vd f4, us] [(.int (3 : Int32))]) _
    refine XS.iconst X0.here hx rfl (hb hby d1_39) ?_
    show SS p e below s₁ (mkF m 40 #[vi (3 : Int32), vd f1, us, vd f2, us, vd f3, us, vd f4, us] [(.int (3 : Int32)), (.int (3 : Int32))]) _
    refine XS.icmpNo X0.here hx rfl (hb hby d1_40) rfl (teq (by decide : (3 : Int32) = (3 : Int32))).2 ?_
    show SS p e below s₁ (mkF m 43 #[vi (3 : Int32), vd f1, us, vd f2, us, vd f3, us, vd f4, us] []) _
    refine XS.iconst X0.here hx rfl (hb hby d1_43) ?_
    show SS p e below s₁ (mkF m 44 #[vi (3 : Int32), vd f1, us, vd f2, us, vd f3, us, vd f4, us] [(.int (3 : Int32))]) _
    refine st1 _ ?_
    show SS p e below T1 (mkF m 46 #[vi (3 : Int32), vd f1, us, vd f2, us, vd f3, us, vd f4, us] [(.ref b1)]) _
    refine XS.dup X1.here hx rfl (hb hby d1_46) rfl rfl ?_
    show SS p e below T1 (mkF m 47 #[vi (3 : Int32), vd f1, us, vd f2, us, vd f3, us, vd f4, us] [(.ref b1), (.ref b1)]) _
    refine XS.iconst X1.here hx rfl (hb hby d1_47) ?_
    show SS p e below T1 (mkF m 48 #[vi (3 : Int32), vd f1, us, vd f2, us, vd f3, us, vd f4, us] [(.int (0 : Int32)), (.ref b1), (.ref b1)]) _
    refine XS.dloadN X1.here hx rfl (hb hby d1_48) rfl ?_
    show SS p e below T1 (mkF m 49 #[vi (3 : Int32), vd f1, us, vd f2, us, vd f3, us, vd f4, us] [(.double f1), (.int (0 : Int32)), (.ref b1), (.ref b1)]) _
    refine st2 _ ?_
    show SS p e below T2 (mkF m 50 #[vi (3 : Int32), vd f1, us, vd f2, us, vd f3, us, vd f4, us] [(.ref b1)]) _
    refine XS.dup X2.here hx rfl (hb hby d1_50) rfl rfl ?_
    show SS p e below T2 (mkF m 51 #[vi (3 : Int32), vd f1, us, vd f2, us, vd f3, us, vd f4, us] [(.ref b1), (.ref b1)]) _
    refine XS.iconst X2.here hx rfl (hb hby d1_51) ?_
    show SS p e below T2 (mkF m 52 #[vi (3 : Int32), vd f1, us, vd f2, us, vd f3, us, vd f4, us] [(.int (1 : Int32)), (.ref b1), (.ref b1)]) _
    refine XS.dloadN X2.here hx rfl (hb hby d1_52) rfl ?_
    show SS p e below T2 (mkF m 53 #[vi (3 : Int32), vd f1, us, vd f2, us, vd f3, us, vd f4, us] [(.double f2), (.int (1 : Int32)), (.ref b1), (.ref b1)]) _
    refine st3 _ ?_
    show SS p e below T3 (mkF m 54 #[vi (3 : Int32), vd f1, us, vd f2, us, vd f3, us, vd f4, us] [(.ref b1)]) _
    refine XS.dup X3.here hx rfl (hb hby d1_54) rfl rfl ?_
    show SS p e below T3 (mkF m 55 #[vi (3 : Int32), vd f1, us, vd f2, us, vd f3, us, vd f4, us] [(.ref b1), (.ref b1)]) _
    refine XS.iconst X3.here hx rfl (hb hby d1_55) ?_
    show SS p e below T3 (mkF m 56 #[vi (3 : Int32), vd f1, us, vd f2, us, vd f3, us, vd f4, us] [(.int (2 : Int32)), (.ref b1), (.ref b1)]) _
    refine XS.dload X3.here hx rfl (hb hby d1_56) rfl ?_
    show SS p e below T3 (mkF m 58 #[vi (3 : Int32), vd f1, us, vd f2, us, vd f3, us, vd f4, us] [(.double f3), (.int (2 : Int32)), (.ref b1), (.ref b1)]) _
    refine st4 _ ?_
    show SS p e below T4 (mkF m 59 #[vi (3 : Int32), vd f1, us, vd f2, us, vd f3, us, vd f4, us] [(.ref b1)]) _
    exact retOut X4 hx Bd.returns rfl (Or.inr (Or.inr (Or.inr (Or.inr ⟨rfl, rfl, rfl⟩)))) (hb hby d1_59) hr
  · show Q_rmW3 Z f1 f2 f3 f4 h0 n0 _ T4.heap _
    rw [e4]
    exact ⟨b1, k1, rfl, N4, K4, sz_b1, c5, V4⟩
def Q_rmI3 (Z : State) (r0 : Addr) (r1 : Addr) (f2 : UInt64) (kb : ClassId) (v0 : Int64) (v1 : Int64) (v2 : Int64) (h0 : Heap) (n0 : Nat) (v : Option Value) (h : Heap) (L : List Loc) : Prop := ∃ (nb : Addr), (v = none ∧ Fr n0 L ∧ Keep h0 h [r0] ∧ Exa Z h r0 "org/quarrel/model/Distribution" ∧ Fld Z h r0 "org/quarrel/model/Distribution" "weights" "[D" (.ref nb) ∧ Fld Z h r0 "org/quarrel/model/Distribution" "total" "D" (.double f2) ∧ h0.size ≤ nb ∧ Arv Z h nb kb .double (3 : Int32) [(.double (FP.l2d v0)), (.double (FP.l2d v1)), (.double (FP.l2d v2))] (.double 0))
set_option maxRecDepth 65536 in
set_option maxHeartbeats 40000000 in
theorem rmI3 (l : Launch) (Z : State) (a0 : Array Value) (hw : ∀ d ∈ tables_1, d.before a0 Z = true) (ws : List Jvm.Cond) (r0 : Addr) (r1 : Addr) (f2 : UInt64) (kb : ClassId) (v0 : Int64) (v1 : Int64) (v2 : Int64) (h0 : Heap) (n0 : Nat) (Z0 : n0 ≤ h0.size) (uE : Exa Z h0 r0 "org/quarrel/model/Distribution") (uw : Fld Z h0 r0 "org/quarrel/model/Distribution" "weights" "[D" .null) (uo : Fld Z h0 r0 "org/quarrel/model/Distribution" "total" "D" (.double 0)) (ug : n0 ≤ r0) (uEb : Exa Z h0 r1 "[D") (uV : Arv Z h0 r1 kb .double (3 : Int32) [(.double (FP.l2d v0)), (.double (FP.l2d v1)), (.double (FP.l2d v2))] (.double 0)) (uz_v0 : 0 ≤ v0.toInt) (ut_v0 : v0.toInt < 2147483648) (uz_v1 : 0 ≤ v1.toInt) (ut_v1 : v1.toInt < 2147483648) (uz_v2 : 0 ≤ v2.toInt) (ut_v2 : v2.toInt < 2147483648) :
    MetFree l (⟨"org/quarrel/model/Distribution", "<init>", "([DD)V"⟩ : MethodName) (head1 (Jvm.Cond.code (⟨"org/quarrel/model/Distribution", "<init>", "([DD)V"⟩ : MethodName) prog_15_method_2_code 9 none :: ws) ({ frames := 3, cells := 1, slots := 3, locals := 39 } : Room)) (fun a U => a = #[(.ref r0), (.ref r1), (.double f2)] ∧ Z.Warmed39 U.vm ∧ U.heap = h0) (fun _ _ _ _ _ => True) (fun _ U o U' => ∃ v L, o = .returned v ∧ Q_rmI3 Z r0 r1 f2 kb v0 v1 v2 h0 n0 v U'.heap L ∧ FrameEnd U o U' L ({ frames := 3, cells := 1, slots := 3, locals := 39 } : Room).cells ({ frames := 3, cells := 1, slots := 3, locals := 39 } : Room).slots) := by
  refine MetFree.of_bodySF (plainFor_of_name pn_1) hisR ?_
  intro p e s m args below meth c s₁ Bd hml0 hP hK
  obtain ⟨rfl, hZ, hh⟩ := hP
  have hx := Bd.exec
  have hby := Bd.bytes
  have hml : c.maxLocals = 9 := hml0
  have hown : s.vm.findClass "org/quarrel/model/Distribution" = some m.cls := findClass_of_methodNamed Bd.named
  have hnm := (name_of_methodNamed Bd.named Bd.method).1
  have X0 : Stand p l e ({ frames := 3, cells := 1, slots := 3, locals := 39 } : Room) s m #[(.ref r0), (.ref r1), (.double f2)] below meth c s₁ [] 0 0 := Stand.of_body Bd
  have e0 : s₁.heap = h0 := by rw [← hh, Bd.state]; rfl
  have N0 := Fr.nil n0
  have pre0 : ∀ t, Steps p.tables e below (s₁.setTop (mkF m 0 #[vr r0, vr r1, vd f2, us, uu, uu, uu, uu, uu] [])) t → Steps p.tables e below (s₁.setTop (entryFrame m #[(.ref r0), (.ref r1), (.double f2)] 9)) t := fun t k => castTop (ef_3 m r0 r1 f2) k
  obtain ⟨T1, X1, e1, st1⟩ := initO X0 hx hZ hown (wd hw 12 rfl) (wd hw 13 rfl) (wd hw 14 rfl) e0 (g := (mkF m 1 #[vr r0, vr r1, vd f2, us, uu, uu, uu, uu, uu] [(.ref r0)])) rfl (by rw [hml]; rfl) rfl (hb hby d2_1) (by decide) (W := 0) (by show 2 * 0 + _ ≤ _; exact Nat.le_of_eq rfl) (by decide)
  obtain ⟨cl2, Ar2, q2, S2, Nn2, H2, G2⟩ := (id uV)
  obtain ⟨cl3, Ar3, q3, S3, Nn3, H3, G3⟩ := (id uV)
  have hin3 : ¬ ((0 : Int32) < 0 ∨ cl3.slots.size ≤ ((0 : Int32)).toNatClampNeg) := inb_of S3 ⟨by decide, by decide⟩
  have hat3 : cl3.slots[((0 : Int32)).toNatClampNeg]? = some (.double (FP.l2d v0)) := H3.at hin3 rfl
  obtain ⟨_, _, ⟨T4, L4, k4, n4⟩, -, X4, ⟨Lc4, hQ4, l4, y4, z4⟩, st4⟩ := Jvm.LawKit.callS X1 hx (y := (⟨"org/quarrel/model/Distribution", "requireProbability", "(D)V"⟩ : MethodName)) hown (mvT hZ (wd hw 33 rfl)) (mvT hZ (wd hw 34 rfl)) (mvT hZ (wd hw 8 rfl)) (mvT hZ (wd hw 35 rfl)) (by decide) (backOf (W := 0) (rmR l Z a0 hw [] (FP.l2d v0) h0 n0 Z0 (Jvm.Free.Fl.l2d_fin _) (own_nn uz_v0 ut_v0)) hZ (wd hw 35 rfl) (wd hw 8 rfl) (by decide) (by decide)) (g := (mkF m 31 #[vr r0, vr r1, vd f2, us, vr r1, vi (3 : Int32), vi (0 : Int32), vd (FP.l2d v0), us] [(.double (FP.l2d v0))])) rfl (by rw [hml]; rfl) (argsL := [(.double (FP.l2d v0))]) (rest := []) (lenOf pd_2 rfl) rfl (by show 2 * 0 + _ ≤ _; exact Nat.le_of_eq rfl) (hb hby d2_31) (fun _ _ => ⟨rfl, e1, (by decide : 0 + 0 ≤ _), (by decide : 0 + 0 ≤ _)⟩)
  dsimp only [Pt.U, Pt.locs, Pt.cells, Pt.slots] at X4 l4 y4 z4 st4 hQ4
  subst l4 y4 z4
  obtain ⟨rfl, Nq4, eh4⟩ := hQ4
  have N4 := Fr.app N0 Nq4
  obtain ⟨cl5, Ar5, q5, S5, Nn5, H5, G5⟩ := (id uV)
  have hin5 : ¬ ((1 : Int32) < 0 ∨ cl5.slots.size ≤ ((1 : Int32)).toNatClampNeg) := inb_of S5 ⟨by decide, by decide⟩
  have hat5 : cl5.slots[((1 : Int32)).toNatClampNeg]? = some (.double (FP.l2d v1)) := H5.at hin5 rfl
  obtain ⟨_, _, ⟨T6, L6, k6, n6⟩, -, X6, ⟨Lc6, hQ6, l6, y6, z6⟩, st6⟩ := Jvm.LawKit.callS X4 hx (y := (⟨"org/quarrel/model/Distribution", "requireProbability", "(D)V"⟩ : MethodName)) hown (mvT hZ (wd hw 33 rfl)) (mvT hZ (wd hw 34 rfl)) (mvT hZ (wd hw 8 rfl)) (mvT hZ (wd hw 35 rfl)) (by decide) (backOf (W := 0) (rmR l Z a0 hw [] (FP.l2d v1) h0 n0 Z0 (Jvm.Free.Fl.l2d_fin _) (own_nn uz_v1 ut_v1)) hZ (wd hw 35 rfl) (wd hw 8 rfl) (by decide) (by decide)) (g := (mkF m 31 #[vr r0, vr r1, vd f2, us, vr r1, vi (3 : Int32), vi (1 : Int32), vd (FP.l2d v1), us] [(.double (FP.l2d v1))])) rfl (by rw [hml]; rfl) (argsL := [(.double (FP.l2d v1))]) (rest := []) (lenOf pd_2 rfl) rfl (by show 2 * 0 + _ ≤ _; exact Nat.le_of_eq rfl) (hb hby d2_31) (fun _ _ => ⟨rfl, eh4, (by decide : 0 + 0 ≤ _), (by decide : 0 + 0 ≤ _)⟩)
  dsimp only [Pt.U, Pt.locs, Pt.cells, Pt.slots] at X6 l6 y6 z6 st6 hQ6
  subst l6 y6 z6
  obtain ⟨rfl, Nq6, eh6⟩ := hQ6
  have N6 := Fr.app N4 Nq6
  obtain ⟨cl7, Ar7, q7, S7, Nn7, H7, G7⟩ := (id uV)
  have hin7 : ¬ ((2 : Int32) < 0 ∨ cl7.slots.size ≤ ((2 : Int32)).toNatClampNeg) := inb_of S7 ⟨by decide, by decide⟩
  have hat7 : cl7.slots[((2 : Int32)).toNatClampNeg]? = some (.double (FP.l2d v2)) := H7.at hin7 rfl
  obtain ⟨_, _, ⟨T8, L8, k8, n8⟩, -, X8, ⟨Lc8, hQ8, l8, y8, z8⟩, st8⟩ := Jvm.LawKit.callS X6 hx (y := (⟨"org/quarrel/model/Distribution", "requireProbability", "(D)V"⟩ : MethodName)) hown (mvT hZ (wd hw 33 rfl)) (mvT hZ (wd hw 34 rfl)) (mvT hZ (wd hw 8 rfl)) (mvT hZ (wd hw 35 rfl)) (by decide) (backOf (W := 0) (rmR l Z a0 hw [] (FP.l2d v2) h0 n0 Z0 (Jvm.Free.Fl.l2d_fin _) (own_nn uz_v2 ut_v2)) hZ (wd hw 35 rfl) (wd hw 8 rfl) (by decide) (by decide)) (g := (mkF m 31 #[vr r0, vr r1, vd f2, us, vr r1, vi (3 : Int32), vi (2 : Int32), vd (FP.l2d v2), us] [(.double (FP.l2d v2))])) rfl (by rw [hml]; rfl) (argsL := [(.double (FP.l2d v2))]) (rest := []) (lenOf pd_2 rfl) rfl (by show 2 * 0 + _ ≤ _; exact Nat.le_of_eq rfl) (hb hby d2_31) (fun _ _ => ⟨rfl, eh6, (by decide : 0 + 0 ≤ _), (by decide : 0 + 0 ≤ _)⟩)
  dsimp only [Pt.U, Pt.locs, Pt.cells, Pt.slots] at X8 l8 y8 z8 st8 hQ8
  subst l8 y8 z8
  obtain ⟨rfl, Nq8, eh8⟩ := hQ8
  have N8 := Fr.app N6 Nq8
  obtain ⟨T9, h9, X9, e9, E9, V9, A9, st9⟩ := cloneH X8 hx hZ hown (wd hw 15 rfl) (wd hw 16 rfl) (wd hw 20 rfl) (wd hw 18 rfl) (wd hw 19 rfl) (wd hw 21 rfl) eh8 (Arv.arh uV) uEb (g := (mkF m 42 #[vr r0, vr r1, vd f2, us, vr r1, vi (3 : Int32), vi (3 : Int32), vd (FP.l2d v2), us] [(.ref r1), (.ref r0)])) rfl (by rw [hml]; rfl) rfl (hb hby d2_42) (by decide) (W := 1) (cap := 3) (by show 2 * 0 + _ ≤ _; exact Nat.le_of_eq rfl) (by decide) (by decide) (by decide) (by decide)
  obtain ⟨b9, g9⟩ : ∃ z, z = h0.size := ⟨_, rfl⟩
  rw [← g9] at V9 A9 st9
  have ne_r0_b9 : r0 ≠ b9 := Nat.ne_of_lt (Nat.lt_of_lt_of_le uE.lt (Nat.le_of_eq g9.symm))
  have ne_r1_b9 : r1 ≠ b9 := Nat.ne_of_lt (Nat.lt_of_lt_of_le uEb.lt (Nat.le_of_eq g9.symm))
  have Va9 : Arv Z h9 b9 kb .double (3 : Int32) [(.double (FP.l2d v0)), (.double (FP.l2d v1)), (.double (FP.l2d v2))] (.double 0) := V9
  have g_b9 : n0 ≤ b9 := Nat.le_trans Z0 (Nat.le_of_eq g9.symm)
  have sz_b9 : h0.size ≤ b9 := Nat.le_trans (Keep.refl h0 [r0]).1 (Nat.le_of_eq g9.symm)
  have K9 : Keep h0 h9 [r0] := (Keep.refl h0 [r0]).ext E9
  have Z9 : n0 ≤ h9.size := Nat.le_trans Z0 E9.1
  obtain ⟨T10, X10, e10, st10⟩ := castY X9 hx hZ hown (wd hw 22 rfl) e9 (Ins.self A9) (g := (mkF m 45 #[vr r0, vr r1, vd f2, us, vr r1, vi (3 : Int32), vi (3 : Int32), vd (FP.l2d v2), us] [(.ref b9), (.ref r0)])) rfl rfl (hb hby d2_45)
  have c12 := (uE.ext E9)
  have c13 := (uw.ext E9)
  obtain ⟨T11, h11, X11, e11, W11, st11⟩ := putF X10 hx hZ hown (host := "") (Or.inl (wd hw 24 rfl)) Via.refl e10 c13 c12 (Or.inr ⟨(wd hw 25 rfl), rfl, hnm⟩) (wd hw 7 rfl) (ty := (.array .double)) (by decide) rfl rfl (g := (mkF m 48 #[vr r0, vr r1, vd f2, us, vr r1, vi (3 : Int32), vi (3 : Int32), vd (FP.l2d v2), us] [(.ref b9), (.ref r0)])) rfl rfl (hb hby d2_48)
  have Fw11 := c13.same W11
  have N11 := Fr.snoc X11 N8 ug
  have K11 : Keep h0 h11 [r0] := K9.wr W11 (Or.inl (List.mem_of_getElem? (i := 0) rfl))
  have Z11 : n0 ≤ h11.size := by rw [W11.size]; exact Z9
  have c15 := (c12.wr W11)
  have c16 := ((uo.ext E9).other W11 (Or.inr (slot_ne (Or.inr (wd hw 27 rfl)) (Or.inr (wd hw 25 rfl)) (by decide) (t := .double) (t' := (.array .double)) (by decide) (by decide))))
  obtain ⟨T14, h14, X14, e14, W14, st14⟩ := putF X11 hx hZ hown (host := "") (Or.inl (wd hw 26 rfl)) Via.refl e11 c16 c15 (Or.inr ⟨(wd hw 27 rfl), rfl, hnm⟩) (wd hw 7 rfl) (ty := .double) (by decide) rfl rfl (g := (mkF m 53 #[vr r0, vr r1, vd f2, us, vr r1, vi (3 : Int32), vi (3 : Int32), vd (FP.l2d v2), us] [(.double f2), (.ref r0)])) rfl rfl (hb hby d2_53)
  have Fw14 := c16.same W14
  have N14 := Fr.snoc X14 N11 ug
  have K14 : Keep h0 h14 [r0] := K11.wr W14 (Or.inl (List.mem_of_getElem? (i := 0) rfl))
  have Z14 : n0 ≤ h14.size := by rw [W14.size]; exact Z11
  have c17 := (c15.wr W14)
  have c18 := (Fw11.other W14 (Or.inr (slot_ne (Or.inr (wd hw 25 rfl)) (Or.inr (wd hw 27 rfl)) (by decide) (t := (.array .double)) (t' := .double) (by decide) (by decide))))
  have c19 := ((Va9.other W11 (Ne.symm ne_r0_b9)).other W14 (Ne.symm ne_r0_b9))
  obtain ⟨fs, hr, hrun, hended, hW, hsame⟩ := X14.leave (v := none) (fun _ => rfl)
  refine ⟨_, _, pre0 _ ?_, hrun, hended, _, _, rfl, ?_, ⟨_, rfl⟩, hW, hsame.mono (by decide) (by decide)⟩
  · show SS p e below s₁ (mkF m 0 #[vr r0, vr r1, vd f2, us, uu, uu, uu, uu, uu] []) _
    refine XS.aloadN X0.here hx rfl (hb hby d2_0) rfl rfl ?_
    show SS p e below s₁ (mkF m 1 #[vr r0, vr r1, vd f2, us, uu, uu, uu, uu, uu] [(.ref r0)]) _
    refine st1 _ ?_
    show SS p e below T1 (mkF m 4 #[vr r0, vr r1, vd f2, us, uu, uu, uu, uu, uu] []) _
    refine XS.aloadN X1.here hx rfl (hb hby d2_4) rfl rfl ?_
    show SS p e below T1 (mkF m 5 #[vr r0, vr r1, vd f2, us, uu, uu, uu, uu, uu] [(.ref r1)]) _
    refine XS.astore X1.here hx rfl (hb hby d2_5) rfl rfl (l' := #[vr r0, vr r1, vd f2, us, vr r1, uu, uu, uu, uu]) rfl ?_
    show SS p e below T1 (mkF m 7 #[vr r0, vr r1, vd f2, us, vr r1, uu, uu, uu, uu] []) _
    refine XS.aload X1.here hx rfl (hb hby d2_7) rfl rfl ?_
    show SS p e below T1 (mkF m 9 #[vr r0, vr r1, vd f2, us, vr r1, uu, uu, uu, uu] [(.ref r1)]) _
    refine X1.arraylength hx (own_at e1 Ar2.1) (State.isArrayOf_alike hZ.alike Ar2.2.1) (g := (mkF m 9 #[vr r0, vr r1, vd f2, us, vr r1, uu, uu, uu, uu] [(.ref r1)])) rfl rfl (hb hby d2_9) _ ?_
    rw [len_of S2 Nn2]
    show SS p e below T1 (mkF m 10 #[vr r0, vr r1, vd f2, us, vr r1, uu, uu, uu, uu] [(.int (3 : Int32))]) _
    refine XS.istore X1.here hx rfl (hb hby d2_10) rfl (l' := #[vr r0, vr r1, vd f2, us, vr r1, vi (3 : Int32), uu, uu, uu]) rfl ?_
    show SS p e below T1 (mkF m 12 #[vr r0, vr r1, vd f2, us, vr r1, vi (3 : Int32), uu, uu, uu] []) _
    refine XS.iconst X1.here hx rfl (hb hby d2_12) ?_
    show SS p e below T1 (mkF m 13 #[vr r0, vr r1, vd f2, us, vr r1, vi (3 : Int32), uu, uu, uu] [(.int (0 : Int32))]) _
    refine XS.istore X1.here hx rfl (hb hby d2_13) rfl (l' := #[vr r0, vr r1, vd f2, us, vr r1, vi (3 : Int32), vi (0 : Int32), uu, uu]) rfl ?_
    show SS p e below T1 (mkF m 15 #[vr r0, vr r1, vd f2, us, vr r1, vi (3 : Int32), vi (0 : Int32), uu, uu] []) _
    refine XS.iload X1.here hx rfl (hb hby d2_15) rfl ?_
    show SS p e below T1 (mkF m 17 #[vr r0, vr r1, vd f2, us, vr r1, vi (3 : Int32), vi (0 : Int32), uu, uu] [(.int (0 : Int32))]) _
    refine XS.iload X1.here hx rfl (hb hby d2_17) rfl ?_
    show SS p e below T1 (mkF m 19 #[vr r0, vr r1, vd f2, us, vr r1, vi (3 : Int32), vi (0 : Int32), uu, uu] [(.int (3 : Int32)), (.int (0 : Int32))]) _
    refine XS.icmpNo X1.here hx rfl (hb hby d2_19) rfl (tlt (by decide : (0 : Int32) < (3 : Int32))).2.1 ?_
    show SS p e below T1 (mkF m 22 #[vr r0, vr r1, vd f2, us, vr r1, vi (3 : Int32), vi (0 : Int32), uu, uu] []) _
    refine XS.aload X1.here hx rfl (hb hby d2_22) rfl rfl ?_
    show SS p e below T1 (mkF m 24 #[vr r0, vr r1, vd f2, us, vr r1, vi (3 : Int32), vi (0 : Int32), uu, uu] [(.ref r1)]) _
    refine XS.iload X1.here hx rfl (hb hby d2_24) rfl ?_
    show SS p e below T1 (mkF m 26 #[vr r0, vr r1, vd f2, us, vr r1, vi (3 : Int32), vi (0 : Int32), uu, uu] [(.int (0 : Int32)), (.ref r1)]) _
    refine X1.daload hx (j := (0 : Int32)) (v := (.double (FP.l2d v0))) (own_at e1 Ar3.1) (State.isArrayOf_alike hZ.alike Ar3.2.1) Ar3.2.2 hin3 hat3 (g := (mkF m 26 #[vr r0, vr r1, vd f2, us, vr r1, vi (3 : Int32), vi (0 : Int32), uu, uu] [(.int (0 : Int32)), (.ref r1)])) rfl rfl (hb hby d2_26) _ ?_
    show SS p e below T1 (mkF m 27 #[vr r0, vr r1, vd f2, us, vr r1, vi (3 : Int32), vi (0 : Int32), uu, uu] [(.double (FP.l2d v0))]) _
    refine XS.dstore X1.here hx rfl (hb hby d2_27) rfl (l' := #[vr r0, vr r1, vd f2, us, vr r1, vi (3 : Int32), vi (0 : Int32), vd (FP.l2d v0), us]) rfl ?_
    show SS p e below T1 (mkF m 29 #[vr r0, vr r1, vd f2, us, vr r1, vi (3 : Int32), vi (0 : Int32), vd (FP.l2d v0), us] []) _
    refine XS.dload X1.here hx rfl (hb hby d2_29) rfl ?_
    show SS p e below T1 (mkF m 31 #[vr r0, vr r1, vd f2, us, vr r1, vi (3 : Int32), vi (0 : Int32), vd (FP.l2d v0), us] [(.double (FP.l2d v0))]) _
    refine st4 _ ?_
    show SS p e below T4 (mkF m 34 #[vr r0, vr r1, vd f2, us, vr r1, vi (3 : Int32), vi (0 : Int32), vd (FP.l2d v0), us] []) _
    refine XS.iinc X4.here hx rfl (hb hby d2_34) rfl (l' := #[vr r0, vr r1, vd f2, us, vr r1, vi (3 : Int32), vi ((0 : Int32) + (1 : Int32)), vd (FP.l2d v0), us]) rfl ?_
    show SS p e below T4 (mkF m 37 #[vr r0, vr r1, vd f2, us, vr r1, vi (3 : Int32), vi ((0 : Int32) + (1 : Int32)), vd (FP.l2d v0), us] []) _
    rw [(by decide : ((0 : Int32) + (1 : Int32)) = (1 : Int32))]
    show SS p e below T4 (mkF m 37 #[vr r0, vr r1, vd f2, us, vr r1, vi (3 : Int32), vi (1 : Int32), vd (FP.l2d v0), us] []) _
    refine XS.goto X4.here hx rfl (pc0 := 37) (pc' := 15) rfl (hb hby d2_37) (by decide) (by decide) ?_
    show SS p e below T4 (mkF m 15 #[vr r0, vr r1, vd f2, us, vr r1, vi (3 : Int32), vi (1 : Int32), vd (FP.l2d v0), us] []) _
    refine XS.iload X4.here hx rfl (hb hby d2_15) rfl ?_
    show SS p e below T4 (mkF m 17 #[vr r0, vr r1, vd f2, us, vr r1, vi (3 : Int32), vi (1 : Int32), vd (FP.l2d v0), us] [(.int (1 : Int32))]) _
    refine XS.iload X4.here hx rfl (hb hby d2_17) rfl ?_
    show SS p e below T4 (mkF m 19 #[vr r0, vr r1, vd f2, us, vr r1, vi (3 : Int32), vi (1 : Int32), vd (FP.l2d v0), us] [(.int (3 : Int32)), (.int (1 : Int32))]) _
    refine XS.icmpNo X4.here hx rfl (hb hby d2_19) rfl (tlt (by decide : (1 : Int32) < (3 : Int32))).2.1 ?_
    show SS p e below T4 (mkF m 22 #[vr r0, vr r1, vd f2, us, vr r1, vi (3 : Int32), vi (1 : Int32), vd (FP.l2d v0), us] []) _
    refine XS.aload X4.here hx rfl (hb hby d2_22) rfl rfl ?_
    show SS p e below T4 (mkF m 24 #[vr r0, vr r1, vd f2, us, vr r1, vi (3 : Int32), vi (1 : Int32), vd (FP.l2d v0), us] [(.ref r1)]) _
    refine XS.iload X4.here hx rfl (hb hby d2_24) rfl ?_
    show SS p e below T4 (mkF m 26 #[vr r0, vr r1, vd f2, us, vr r1, vi (3 : Int32), vi (1 : Int32), vd (FP.l2d v0), us] [(.int (1 : Int32)), (.ref r1)]) _
    refine X4.daload hx (j := (1 : Int32)) (v := (.double (FP.l2d v1))) (own_at eh4 Ar5.1) (State.isArrayOf_alike hZ.alike Ar5.2.1) Ar5.2.2 hin5 hat5 (g := (mkF m 26 #[vr r0, vr r1, vd f2, us, vr r1, vi (3 : Int32), vi (1 : Int32), vd (FP.l2d v0), us] [(.int (1 : Int32)), (.ref r1)])) rfl rfl (hb hby d2_26) _ ?_
    show SS p e below T4 (mkF m 27 #[vr r0, vr r1, vd f2, us, vr r1, vi (3 : Int32), vi (1 : Int32), vd (FP.l2d v0), us] [(.double (FP.l2d v1))]) _
    refine XS.dstore X4.here hx rfl (hb hby d2_27) rfl (l' := #[vr r0, vr r1, vd f2, us, vr r1, vi (3 : Int32), vi (1 : Int32), vd (FP.l2d v1), us]) rfl ?_
    show SS p e below T4 (mkF m 29 #[vr r0, vr r1, vd f2, us, vr r1, vi (3 : Int32), vi (1 : Int32), vd (FP.l2d v1), us] []) _
    refine XS.dload X4.here hx rfl (hb hby d2_29) rfl ?_
    show SS p e below T4 (mkF m 31 #[vr r0, vr r1, vd f2, us, vr r1, vi (3 : Int32), vi (1 : Int32), vd (FP.l2d v1), us] [(.double (FP.l2d v1))]) _
    refine st6 _ ?_
    show SS p e below T6 (mkF m 34 #[vr r0, vr r1, vd f2, us, vr r1, vi (3 : Int32), vi (1 : Int32), vd (FP.l2d v1), us] []) _
    refine XS.iinc X6.here hx rfl (hb hby d2_34) rfl (l' := #[vr r0, vr r1, vd f2, us, vr r1, vi (3 : Int32), vi ((1 : Int32) + (1 : Int32)), vd (FP.l2d v1), us]) rfl ?_
    show SS p e below T6 (mkF m 37 #[vr r0, vr r1, vd f2, us, vr r1, vi (3 : Int32), vi ((1 : Int32) + (1 : Int32)), vd (FP.l2d v1), us] []) _
    rw [(by decide : ((1 : Int32) + (1 : Int32)) = (2 : Int32))]
    show SS p e below T6 (mkF m 37 #[vr r0, vr r1, vd f2, us, vr r1, vi (3 : Int32), vi (2 : Int32), vd (FP.l2d v1), us] []) _
    refine XS.goto X6.here hx rfl (pc0 := 37) (pc' := 15) rfl (hb hby d2_37) (by decide) (by decide) ?_
    show SS p e below T6 (mkF m 15 #[vr r0, vr r1, vd f2, us, vr r1, vi (3 : Int32), vi (2 : Int32), vd (FP.l2d v1), us] []) _
    refine XS.iload X6.here hx rfl (hb hby d2_15) rfl ?_
    show SS p e below T6 (mkF m 17 #[vr r0, vr r1, vd f2, us, vr r1, vi (3 : Int32), vi (2 : Int32), vd (FP.l2d v1), us] [(.int (2 : Int32))]) _
    refine XS.iload X6.here hx rfl (hb hby d2_17) rfl ?_
    show SS p e below T6 (mkF m 19 #[vr r0, vr r1, vd f2, us, vr r1, vi (3 : Int32), vi (2 : Int32), vd (FP.l2d v1), us] [(.int (3 : Int32)), (.int (2 : Int32))]) _
    refine XS.icmpNo X6.here hx rfl (hb hby d2_19) rfl (tlt (by decide : (2 : Int32) < (3 : Int32))).2.1 ?_
    show SS p e below T6 (mkF m 22 #[vr r0, vr r1, vd f2, us, vr r1, vi (3 : Int32), vi (2 : Int32), vd (FP.l2d v1), us] []) _
    refine XS.aload X6.here hx rfl (hb hby d2_22) rfl rfl ?_
    show SS p e below T6 (mkF m 24 #[vr r0, vr r1, vd f2, us, vr r1, vi (3 : Int32), vi (2 : Int32), vd (FP.l2d v1), us] [(.ref r1)]) _
    refine XS.iload X6.here hx rfl (hb hby d2_24) rfl ?_
    show SS p e below T6 (mkF m 26 #[vr r0, vr r1, vd f2, us, vr r1, vi (3 : Int32), vi (2 : Int32), vd (FP.l2d v1), us] [(.int (2 : Int32)), (.ref r1)]) _
    refine X6.daload hx (j := (2 : Int32)) (v := (.double (FP.l2d v2))) (own_at eh6 Ar7.1) (State.isArrayOf_alike hZ.alike Ar7.2.1) Ar7.2.2 hin7 hat7 (g := (mkF m 26 #[vr r0, vr r1, vd f2, us, vr r1, vi (3 : Int32), vi (2 : Int32), vd (FP.l2d v1), us] [(.int (2 : Int32)), (.ref r1)])) rfl rfl (hb hby d2_26) _ ?_
    show SS p e below T6 (mkF m 27 #[vr r0, vr r1, vd f2, us, vr r1, vi (3 : Int32), vi (2 : Int32), vd (FP.l2d v1), us] [(.double (FP.l2d v2))]) _
    refine XS.dstore X6.here hx rfl (hb hby d2_27) rfl (l' := #[vr r0, vr r1, vd f2, us, vr r1, vi (3 : Int32), vi (2 : Int32), vd (FP.l2d v2), us]) rfl ?_
    show SS p e below T6 (mkF m 29 #[vr r0, vr r1, vd f2, us, vr r1, vi (3 : Int32), vi (2 : Int32), vd (FP.l2d v2), us] []) _
    refine XS.dload X6.here hx rfl (hb hby d2_29) rfl ?_
    show SS p e below T6 (mkF m 31 #[vr r0, vr r1, vd f2, us, vr r1, vi (3 : Int32), vi (2 : Int32), vd (FP.l2d v2), us] [(.double (FP.l2d v2))]) _
    refine st8 _ ?_
    show SS p e below T8 (mkF m 34 #[vr r0, vr r1, vd f2, us, vr r1, vi (3 : Int32), vi (2 : Int32), vd (FP.l2d v2), us] []) _
    refine XS.iinc X8.here hx rfl (hb hby d2_34) rfl (l' := #[vr r0, vr r1, vd f2, us, vr r1, vi (3 : Int32), vi ((2 : Int32) + (1 : Int32)), vd (FP.l2d v2), us]) rfl ?_
    show SS p e below T8 (mkF m 37 #[vr r0, vr r1, vd f2, us, vr r1, vi (3 : Int32), vi ((2 : Int32) + (1 : Int32)), vd (FP.l2d v2), us] []) _
    rw [(by decide : ((2 : Int32) + (1 : Int32)) = (3 : Int32))]
    show SS p e below T8 (mkF m 37 #[vr r0, vr r1, vd f2, us, vr r1, vi (3 : Int32), vi (3 : Int32), vd (FP.l2d v2), us] []) _
    refine XS.goto X8.here hx rfl (pc0 := 37) (pc' := 15) rfl (hb hby d2_37) (by decide) (by decide) ?_
    show SS p e below T8 (mkF m 15 #[vr r0, vr r1, vd f2, us, vr r1, vi (3 : Int32), vi (3 : Int32), vd (FP.l2d v2), us] []) _
    refine XS.iload X8.here hx rfl (hb hby d2_15) rfl ?_
    show SS p e below T8 (mkF m 17 #[vr r0, vr r1, vd f2, us, vr r1, vi (3 : Int32), vi (3 : Int32), vd (FP.l2d v2), us] [(.int (3 : Int32))]) _
    refine XS.iload X8.here hx rfl (hb hby d2_17) rfl ?_
    show SS p e below T8 (mkF m 19 #[vr r0, vr r1, vd f2, us, vr r1, vi (3 : Int32), vi (3 : Int32), vd (FP.l2d v2), us] [(.int (3 : Int32)), (.int (3 : Int32))]) _
    refine XS.icmpYes X8.here hx rfl (pc0 := 19) (pc' := 40) rfl (hb hby d2_19) rfl (flt (by decide : ¬ ((3 : Int32) < (3 : Int32)))).2.1 (by decide) (by decide) ?_
    show SS p e below T8 (mkF m 40 #[vr r0, vr r1, vd f2, us, vr r1, vi (3 : Int32), vi (3 : Int32), vd (FP.l2d v2), us] []) _
    refine XS.aloadN X8.here hx rfl (hb hby d2_40) rfl rfl ?_
    show SS p e below T8 (mkF m 41 #[vr r0, vr r1, vd f2, us, vr r1, vi (3 : Int32), vi (3 : Int32), vd (FP.l2d v2), us] [(.ref r0)]) _
    refine XS.aloadN X8.here hx rfl (hb hby d2_41) rfl rfl ?_
    show SS p e below T8 (mkF m 42 #[vr r0, vr r1, vd f2, us, vr r1, vi (3 : Int32), vi (3 : Int32), vd (FP.l2d v2), us] [(.ref r1), (.ref r0)]) _
    refine st9 _ ?_
    show SS p e below T9 (mkF m 45 #[vr r0, vr r1, vd f2, us, vr r1, vi (3 : Int32), vi (3 : Int32), vd (FP.l2d v2), us] [(.ref b9), (.ref r0)]) _
    refine st10 _ ?_
    show SS p e below T10 (mkF m 48 #[vr r0, vr r1, vd f2, us, vr r1, vi (3 : Int32), vi (3 : Int32), vd (FP.l2d v2), us] [(.ref b9), (.ref r0)]) _
    refine st11 _ ?_
    show SS p e below T11 (mkF m 51 #[vr r0, vr r1, vd f2, us, vr r1, vi (3 : Int32), vi (3 : Int32), vd (FP.l2d v2), us] []) _
    refine XS.aloadN X11.here hx rfl (hb hby d2_51) rfl rfl ?_
    show SS p e below T11 (mkF m 52 #[vr r0, vr r1, vd f2, us, vr r1, vi (3 : Int32), vi (3 : Int32), vd (FP.l2d v2), us] [(.ref r0)]) _
    refine XS.dloadN X11.here hx rfl (hb hby d2_52) rfl ?_
    show SS p e below T11 (mkF m 53 #[vr r0, vr r1, vd f2, us, vr r1, vi (3 : Int32), vi (3 : Int32), vd (FP.l2d v2), us] [(.double f2), (.ref r0)]) _
    refine st14 _ ?_
    show SS p e below T14 (mkF m 56 #[vr r0, vr r1, vd f2, us, vr r1, vi (3 : Int32), vi (3 : Int32), vd (FP.l2d v2), us] []) _
    exact X14.returnOut hx Bd.returns (hb hby d2_56) hr
  · show Q_rmI3 Z r0 r1 f2 kb v0 v1 v2 h0 n0 _ T14.heap _
    rw [e14]
    exact ⟨b9, rfl, N14, K14, c17, c18, Fw14, sz_b9, c19⟩
def Q_rmM3 (Z : State) (r0 : Addr) (rb : Addr) (kb : ClassId) (vt : Int64) (v0 : Int64) (v1 : Int64) (v2 : Int64) (h0 : Heap) (n0 : Nat) (v : Option Value) (h : Heap) (L : List Loc) : Prop := (v = some (.double (FP.ddiv (FP.l2d (((0 : Int64) + v1) + ((2 : Int64) * v2))) (FP.l2d vt))) ∧ Fr n0 L ∧ h = h0)
set_option maxRecDepth 65536 in
set_option maxHeartbeats 40000000 in
theorem rmM3 (l : Launch) (Z : State) (a0 : Array Value) (hw : ∀ d ∈ tables_1, d.before a0 Z = true) (ws : List Jvm.Cond) (r0 : Addr) (rb : Addr) (kb : ClassId) (vt : Int64) (v0 : Int64) (v1 : Int64) (v2 : Int64) (h0 : Heap) (n0 : Nat) (Z0 : n0 ≤ h0.size) (uw : Fld Z h0 r0 "org/quarrel/model/Distribution" "weights" "[D" (.ref rb)) (uo : Fld Z h0 r0 "org/quarrel/model/Distribution" "total" "D" (.double (FP.l2d vt))) (uV : Arv Z h0 rb kb .double (3 : Int32) [(.double (FP.l2d v0)), (.double (FP.l2d v1)), (.double (FP.l2d v2))] (.double 0)) (unz : vt ≠ 0) (uz_v0 : 0 ≤ v0.toInt) (ut_v0 : v0.toInt < 2147483648) (uz_v1 : 0 ≤ v1.toInt) (ut_v1 : v1.toInt < 2147483648) (uz_v2 : 0 ≤ v2.toInt) (ut_v2 : v2.toInt < 2147483648) :
    MetFree l (⟨"org/quarrel/model/Distribution", "mean", "()D"⟩ : MethodName) (head1 (Jvm.Cond.code (⟨"org/quarrel/model/Distribution", "mean", "()D"⟩ : MethodName) prog_15_method_11_code 4 (some .double) :: ws) ({ frames := 0, cells := 0, slots := 0, locals := 0 } : Room)) (fun a U => a = #[(.ref r0)] ∧ Z.Warmed39 U.vm ∧ U.heap = h0) (fun _ _ _ _ _ => True) (fun _ U o U' => ∃ v L, o = .returned v ∧ Q_rmM3 Z r0 rb kb vt v0 v1 v2 h0 n0 v U'.heap L ∧ FrameEnd U o U' L ({ frames := 0, cells := 0, slots := 0, locals := 0 } : Room).cells ({ frames := 0, cells := 0, slots := 0, locals := 0 } : Room).slots) := by
  refine MetFree.of_bodySF (plainFor_of_name pn_1) hisR ?_
  intro p e s m args below meth c s₁ Bd hml0 hP hK
  obtain ⟨rfl, hZ, hh⟩ := hP
  have hx := Bd.exec
  have hby := Bd.bytes
  have hml : c.maxLocals = 4 := hml0
  have hown : s.vm.findClass "org/quarrel/model/Distribution" = some m.cls := findClass_of_methodNamed Bd.named
  have hnm := (name_of_methodNamed Bd.named Bd.method).1
  have X0 : Stand p l e ({ frames := 0, cells := 0, slots := 0, locals := 0 } : Room) s m #[(.ref r0)] below meth c s₁ [] 0 0 := Stand.of_body Bd
  have e0 : s₁.heap = h0 := by rw [← hh, Bd.state]; rfl
  have N0 := Fr.nil n0
  have pre0 : ∀ t, Steps p.tables e below (s₁.setTop (mkF m 0 #[vr r0, uu, uu, uu] [])) t → Steps p.tables e below (s₁.setTop (entryFrame m #[(.ref r0)] 4)) t := fun t k => castTop (ef_4 m r0) k
  have pr1 := own_mul1 uz_v1 ut_v1
  have pr2 := own_mulk (2 : Int64) (by decide) (by decide) uz_v2 ut_v2
  have sm1 := own_add0 uz_v1 ut_v1
  have sm2 := own_addk (2 : Int64) (by decide) (by decide) sm1.2.1 (Int.lt_trans sm1.2.2 (by decide)) uz_v2 ut_v2
  obtain ⟨T1, X1, e1, st1⟩ := getF X0 hx hZ hown (host := "") (Or.inl (wd hw 24 rfl)) Via.refl e0 uw (g := (mkF m 6 #[vr r0, vd (FP.l2d (0 : Int64)), us, vi (1 : Int32)] [(.ref r0), (.int (1 : Int32))])) rfl rfl (hb hby d4_6)
  obtain ⟨cl2, Ar2, q2, S2, Nn2, H2, G2⟩ := (id uV)
  obtain ⟨T3, X3, e3, st3⟩ := getF X1 hx hZ hown (host := "") (Or.inl (wd hw 24 rfl)) Via.refl e1 uw (g := (mkF m 17 #[vr r0, vd (FP.l2d (0 : Int64)), us, vi (1 : Int32)] [(.ref r0), (.double (FP.l2d (1 : Int64))), (.double (FP.l2d (0 : Int64)))])) rfl rfl (hb hby d4_17)
  obtain ⟨cl4, Ar4, q4, S4, Nn4, H4, G4⟩ := (id uV)
  have hin4 : ¬ ((1 : Int32) < 0 ∨ cl4.slots.size ≤ ((1 : Int32)).toNatClampNeg) := inb_of S4 ⟨by decide, by decide⟩
  have hat4 : cl4.slots[((1 : Int32)).toNatClampNeg]? = some (.double (FP.l2d v1)) := H4.at hin4 rfl
  obtain ⟨T5, X5, e5, st5⟩ := getF X3 hx hZ hown (host := "") (Or.inl (wd hw 24 rfl)) Via.refl e3 uw (g := (mkF m 6 #[vr r0, vd (FP.l2d ((0 : Int64) + v1)), us, vi (2 : Int32)] [(.ref r0), (.int (2 : Int32))])) rfl rfl (hb hby d4_6)
  obtain ⟨cl6, Ar6, q6, S6, Nn6, H6, G6⟩ := (id uV)
  obtain ⟨T7, X7, e7, st7⟩ := getF X5 hx hZ hown (host := "") (Or.inl (wd hw 24 rfl)) Via.refl e5 uw (g := (mkF m 17 #[vr r0, vd (FP.l2d ((0 : Int64) + v1)), us, vi (2 : Int32)] [(.ref r0), (.double (FP.l2d (2 : Int64))), (.double (FP.l2d ((0 : Int64) + v1)))])) rfl rfl (hb hby d4_17)
  obtain ⟨cl8, Ar8, q8, S8, Nn8, H8, G8⟩ := (id uV)
  have hin8 : ¬ ((2 : Int32) < 0 ∨ cl8.slots.size ≤ ((2 : Int32)).toNatClampNeg) := inb_of S8 ⟨by decide, by decide⟩
  have hat8 : cl8.slots[((2 : Int32)).toNatClampNeg]? = some (.double (FP.l2d v2)) := H8.at hin8 rfl
  obtain ⟨T9, X9, e9, st9⟩ := getF X7 hx hZ hown (host := "") (Or.inl (wd hw 24 rfl)) Via.refl e7 uw (g := (mkF m 6 #[vr r0, vd (FP.l2d (((0 : Int64) + v1) + ((2 : Int64) * v2))), us, vi (3 : Int32)] [(.ref r0), (.int (3 : Int32))])) rfl rfl (hb hby d4_6)
  obtain ⟨cl10, Ar10, q10, S10, Nn10, H10, G10⟩ := (id uV)
  obtain ⟨T11, X11, e11, st11⟩ := getF X9 hx hZ hown (host := "") (Or.inl (wd hw 26 rfl)) Via.refl e9 uo (g := (mkF m 33 #[vr r0, vd (FP.l2d (((0 : Int64) + v1) + ((2 : Int64) * v2))), us, vi (3 : Int32)] [(.ref r0), (.double (FP.l2d (((0 : Int64) + v1) + ((2 : Int64) * v2))))])) rfl rfl (hb hby d4_33)
  obtain ⟨fs, hr, hrun, hended, hW, hsame⟩ := X11.leave (v := some (.double (FP.ddiv (FP.l2d (((0 : Int64) + v1) + ((2 : Int64) * v2))) (FP.l2d vt)))) (fun h => by rw [Bd.returns] at h; cases h)
  refine ⟨_, _, pre0 _ ?_, hrun, hended, _, _, rfl, ?_, ⟨_, rfl⟩, hW, hsame.mono (by decide) (by decide)⟩
  · show SS p e below s₁ (mkF m 0 #[vr r0, uu, uu, uu] []) _
    refine XS.dconst0 X0.here hx rfl (hb hby d4_0) (v := (FP.l2d (0 : Int64))) (by decide) ?_
    show SS p e below s₁ (mkF m 1 #[vr r0, uu, uu, uu] [(.double (FP.l2d (0 : Int64)))]) _
    refine XS.dstoreN X0.here hx rfl (hb hby d4_1) rfl (l' := #[vr r0, vd (FP.l2d (0 : Int64)), us, uu]) rfl ?_
    show SS p e below s₁ (mkF m 2 #[vr r0, vd (FP.l2d (0 : Int64)), us, uu] []) _
    refine XS.iconst X0.here hx rfl (hb hby d4_2) ?_
    show SS p e below s₁ (mkF m 3 #[vr r0, vd (FP.l2d (0 : Int64)), us, uu] [(.int (1 : Int32))]) _
    refine XS.istoreN X0.here hx rfl (hb hby d4_3) rfl (l' := #[vr r0, vd (FP.l2d (0 : Int64)), us, vi (1 : Int32)]) rfl ?_
    show SS p e below s₁ (mkF m 4 #[vr r0, vd (FP.l2d (0 : Int64)), us, vi (1 : Int32)] []) _
    refine XS.iloadN X0.here hx rfl (hb hby d4_4) rfl ?_
    show SS p e below s₁ (mkF m 5 #[vr r0, vd (FP.l2d (0 : Int64)), us, vi (1 : Int32)] [(.int (1 : Int32))]) _
    refine XS.aloadN X0.here hx rfl (hb hby d4_5) rfl rfl ?_
    show SS p e below s₁ (mkF m 6 #[vr r0, vd (FP.l2d (0 : Int64)), us, vi (1 : Int32)] [(.ref r0), (.int (1 : Int32))]) _
    refine st1 _ ?_
    show SS p e below T1 (mkF m 9 #[vr r0, vd (FP.l2d (0 : Int64)), us, vi (1 : Int32)] [(.ref rb), (.int (1 : Int32))]) _
    refine X1.arraylength hx (own_at e1 Ar2.1) (State.isArrayOf_alike hZ.alike Ar2.2.1) (g := (mkF m 9 #[vr r0, vd (FP.l2d (0 : Int64)), us, vi (1 : Int32)] [(.ref rb), (.int (1 : Int32))])) rfl rfl (hb hby d4_9) _ ?_
    rw [len_of S2 Nn2]
    show SS p e below T1 (mkF m 10 #[vr r0, vd (FP.l2d (0 : Int64)), us, vi (1 : Int32)] [(.int (3 : Int32)), (.int (1 : Int32))]) _
    refine XS.icmpNo X1.here hx rfl (hb hby d4_10) rfl (tlt (by decide : (1 : Int32) < (3 : Int32))).2.1 ?_
    show SS p e below T1 (mkF m 13 #[vr r0, vd (FP.l2d (0 : Int64)), us, vi (1 : Int32)] []) _
    refine XS.dloadN X1.here hx rfl (hb hby d4_13) rfl ?_
    show SS p e below T1 (mkF m 14 #[vr r0, vd (FP.l2d (0 : Int64)), us, vi (1 : Int32)] [(.double (FP.l2d (0 : Int64)))]) _
    refine XS.iloadN X1.here hx rfl (hb hby d4_14) rfl ?_
    show SS p e below T1 (mkF m 15 #[vr r0, vd (FP.l2d (0 : Int64)), us, vi (1 : Int32)] [(.int (1 : Int32)), (.double (FP.l2d (0 : Int64)))]) _
    refine XS.i2dS X1.here hx rfl (hb hby d4_15) rfl (v := (FP.l2d (1 : Int64))) (i2d_w _) ?_
    show SS p e below T1 (mkF m 16 #[vr r0, vd (FP.l2d (0 : Int64)), us, vi (1 : Int32)] [(.double (FP.l2d (1 : Int64))), (.double (FP.l2d (0 : Int64)))]) _
    refine XS.aloadN X1.here hx rfl (hb hby d4_16) rfl rfl ?_
    show SS p e below T1 (mkF m 17 #[vr r0, vd (FP.l2d (0 : Int64)), us, vi (1 : Int32)] [(.ref r0), (.double (FP.l2d (1 : Int64))), (.double (FP.l2d (0 : Int64)))]) _
    refine st3 _ ?_
    show SS p e below T3 (mkF m 20 #[vr r0, vd (FP.l2d (0 : Int64)), us, vi (1 : Int32)] [(.ref rb), (.double (FP.l2d (1 : Int64))), (.double (FP.l2d (0 : Int64)))]) _
    refine XS.iloadN X3.here hx rfl (hb hby d4_20) rfl ?_
    show SS p e below T3 (mkF m 21 #[vr r0, vd (FP.l2d (0 : Int64)), us, vi (1 : Int32)] [(.int (1 : Int32)), (.ref rb), (.double (FP.l2d (1 : Int64))), (.double (FP.l2d (0 : Int64)))]) _
    refine X3.daload hx (j := (1 : Int32)) (v := (.double (FP.l2d v1))) (own_at e3 Ar4.1) (State.isArrayOf_alike hZ.alike Ar4.2.1) Ar4.2.2 hin4 hat4 (g := (mkF m 21 #[vr r0, vd (FP.l2d (0 : Int64)), us, vi (1 : Int32)] [(.int (1 : Int32)), (.ref rb), (.double (FP.l2d (1 : Int64))), (.double (FP.l2d (0 : Int64)))])) rfl rfl (hb hby d4_21) _ ?_
    show SS p e below T3 (mkF m 22 #[vr r0, vd (FP.l2d (0 : Int64)), us, vi (1 : Int32)] [(.double (FP.l2d v1)), (.double (FP.l2d (1 : Int64))), (.double (FP.l2d (0 : Int64)))]) _
    refine XS.dmulS X3.here hx rfl (hb hby d4_22) rfl (v := (FP.l2d v1)) (nn_w pr1) pr1 ?_
    show SS p e below T3 (mkF m 23 #[vr r0, vd (FP.l2d (0 : Int64)), us, vi (1 : Int32)] [(.double (FP.l2d v1)), (.double (FP.l2d (0 : Int64)))]) _
    refine XS.daddS X3.here hx rfl (hb hby d4_23) rfl (v := (FP.l2d ((0 : Int64) + v1))) (nn_w sm1.1) sm1.1 ?_
    show SS p e below T3 (mkF m 24 #[vr r0, vd (FP.l2d (0 : Int64)), us, vi (1 : Int32)] [(.double (FP.l2d ((0 : Int64) + v1)))]) _
    refine XS.dstoreN X3.here hx rfl (hb hby d4_24) rfl (l' := #[vr r0, vd (FP.l2d ((0 : Int64) + v1)), us, vi (1 : Int32)]) rfl ?_
    show SS p e below T3 (mkF m 25 #[vr r0, vd (FP.l2d ((0 : Int64) + v1)), us, vi (1 : Int32)] []) _
    refine XS.iinc X3.here hx rfl (hb hby d4_25) rfl (l' := #[vr r0, vd (FP.l2d ((0 : Int64) + v1)), us, vi ((1 : Int32) + (1 : Int32))]) rfl ?_
    show SS p e below T3 (mkF m 28 #[vr r0, vd (FP.l2d ((0 : Int64) + v1)), us, vi ((1 : Int32) + (1 : Int32))] []) _
    rw [(by decide : ((1 : Int32) + (1 : Int32)) = (2 : Int32))]
    show SS p e below T3 (mkF m 28 #[vr r0, vd (FP.l2d ((0 : Int64) + v1)), us, vi (2 : Int32)] []) _
    refine XS.goto X3.here hx rfl (pc0 := 28) (pc' := 4) rfl (hb hby d4_28) (by decide) (by decide) ?_
    show SS p e below T3 (mkF m 4 #[vr r0, vd (FP.l2d ((0 : Int64) + v1)), us, vi (2 : Int32)] []) _
    refine XS.iloadN X3.here hx rfl (hb hby d4_4) rfl ?_
    show SS p e below T3 (mkF m 5 #[vr r0, vd (FP.l2d ((0 : Int64) + v1)), us, vi (2 : Int32)] [(.int (2 : Int32))]) _
    refine XS.aloadN X3.here hx rfl (hb hby d4_5) rfl rfl ?_
    show SS p e below T3 (mkF m 6 #[vr r0, vd (FP.l2d ((0 : Int64) + v1)), us, vi (2 : Int32)] [(.ref r0), (.int (2 : Int32))]) _
    refine st5 _ ?_
    show SS p e below T5 (mkF m 9 #[vr r0, vd (FP.l2d ((0 : Int64) + v1)), us, vi (2 : Int32)] [(.ref rb), (.int (2 : Int32))]) _
    refine X5.arraylength hx (own_at e5 Ar6.1) (State.isArrayOf_alike hZ.alike Ar6.2.1) (g := (mkF m 9 #[vr r0, vd (FP.l2d ((0 : Int64) + v1)), us, vi (2 : Int32)] [(.ref rb), (.int (2 : Int32))])) rfl rfl (hb hby d4_9) _ ?_
    rw [len_of S6 Nn6]
    show SS p e below T5 (mkF m 10 #[vr r0, vd (FP.l2d ((0 : Int64) + v1)), us, vi (2 : Int32)] [(.int (3 : Int32)), (.int (2 : Int32))]) _
    refine XS.icmpNo X5.here hx rfl (hb hby d4_10) rfl (tlt (by decide : (2 : Int32) < (3 : Int32))).2.1 ?_
    show SS p e below T5 (mkF m 13 #[vr r0, vd (FP.l2d ((0 : Int64) + v1)), us, vi (2 : Int32)] []) _
    refine XS.dloadN X5.here hx rfl (hb hby d4_13) rfl ?_
    show SS p e below T5 (mkF m 14 #[vr r0, vd (FP.l2d ((0 : Int64) + v1)), us, vi (2 : Int32)] [(.double (FP.l2d ((0 : Int64) + v1)))]) _
    refine XS.iloadN X5.here hx rfl (hb hby d4_14) rfl ?_
    show SS p e below T5 (mkF m 15 #[vr r0, vd (FP.l2d ((0 : Int64) + v1)), us, vi (2 : Int32)] [(.int (2 : Int32)), (.double (FP.l2d ((0 : Int64) + v1)))]) _
    refine XS.i2dS X5.here hx rfl (hb hby d4_15) rfl (v := (FP.l2d (2 : Int64))) (i2d_w _) ?_
    show SS p e below T5 (mkF m 16 #[vr r0, vd (FP.l2d ((0 : Int64) + v1)), us, vi (2 : Int32)] [(.double (FP.l2d (2 : Int64))), (.double (FP.l2d ((0 : Int64) + v1)))]) _
    refine XS.aloadN X5.here hx rfl (hb hby d4_16) rfl rfl ?_
    show SS p e below T5 (mkF m 17 #[vr r0, vd (FP.l2d ((0 : Int64) + v1)), us, vi (2 : Int32)] [(.ref r0), (.double (FP.l2d (2 : Int64))), (.double (FP.l2d ((0 : Int64) + v1)))]) _
    refine st7 _ ?_
    show SS p e below T7 (mkF m 20 #[vr r0, vd (FP.l2d ((0 : Int64) + v1)), us, vi (2 : Int32)] [(.ref rb), (.double (FP.l2d (2 : Int64))), (.double (FP.l2d ((0 : Int64) + v1)))]) _
    refine XS.iloadN X7.here hx rfl (hb hby d4_20) rfl ?_
    show SS p e below T7 (mkF m 21 #[vr r0, vd (FP.l2d ((0 : Int64) + v1)), us, vi (2 : Int32)] [(.int (2 : Int32)), (.ref rb), (.double (FP.l2d (2 : Int64))), (.double (FP.l2d ((0 : Int64) + v1)))]) _
    refine X7.daload hx (j := (2 : Int32)) (v := (.double (FP.l2d v2))) (own_at e7 Ar8.1) (State.isArrayOf_alike hZ.alike Ar8.2.1) Ar8.2.2 hin8 hat8 (g := (mkF m 21 #[vr r0, vd (FP.l2d ((0 : Int64) + v1)), us, vi (2 : Int32)] [(.int (2 : Int32)), (.ref rb), (.double (FP.l2d (2 : Int64))), (.double (FP.l2d ((0 : Int64) + v1)))])) rfl rfl (hb hby d4_21) _ ?_
    show SS p e below T7 (mkF m 22 #[vr r0, vd (FP.l2d ((0 : Int64) + v1)), us, vi (2 : Int32)] [(.double (FP.l2d v2)), (.double (FP.l2d (2 : Int64))), (.double (FP.l2d ((0 : Int64) + v1)))]) _
    refine XS.dmulS X7.here hx rfl (hb hby d4_22) rfl (v := (FP.l2d ((2 : Int64) * v2))) (nn_w pr2) pr2 ?_
    show SS p e below T7 (mkF m 23 #[vr r0, vd (FP.l2d ((0 : Int64) + v1)), us, vi (2 : Int32)] [(.double (FP.l2d ((2 : Int64) * v2))), (.double (FP.l2d ((0 : Int64) + v1)))]) _
    refine XS.daddS X7.here hx rfl (hb hby d4_23) rfl (v := (FP.l2d (((0 : Int64) + v1) + ((2 : Int64) * v2)))) (nn_w sm2.1) sm2.1 ?_
    show SS p e below T7 (mkF m 24 #[vr r0, vd (FP.l2d ((0 : Int64) + v1)), us, vi (2 : Int32)] [(.double (FP.l2d (((0 : Int64) + v1) + ((2 : Int64) * v2))))]) _
    refine XS.dstoreN X7.here hx rfl (hb hby d4_24) rfl (l' := #[vr r0, vd (FP.l2d (((0 : Int64) + v1) + ((2 : Int64) * v2))), us, vi (2 : Int32)]) rfl ?_
    show SS p e below T7 (mkF m 25 #[vr r0, vd (FP.l2d (((0 : Int64) + v1) + ((2 : Int64) * v2))), us, vi (2 : Int32)] []) _
    refine XS.iinc X7.here hx rfl (hb hby d4_25) rfl (l' := #[vr r0, vd (FP.l2d (((0 : Int64) + v1) + ((2 : Int64) * v2))), us, vi ((2 : Int32) + (1 : Int32))]) rfl ?_
    show SS p e below T7 (mkF m 28 #[vr r0, vd (FP.l2d (((0 : Int64) + v1) + ((2 : Int64) * v2))), us, vi ((2 : Int32) + (1 : Int32))] []) _
    rw [(by decide : ((2 : Int32) + (1 : Int32)) = (3 : Int32))]
    show SS p e below T7 (mkF m 28 #[vr r0, vd (FP.l2d (((0 : Int64) + v1) + ((2 : Int64) * v2))), us, vi (3 : Int32)] []) _
    refine XS.goto X7.here hx rfl (pc0 := 28) (pc' := 4) rfl (hb hby d4_28) (by decide) (by decide) ?_
    show SS p e below T7 (mkF m 4 #[vr r0, vd (FP.l2d (((0 : Int64) + v1) + ((2 : Int64) * v2))), us, vi (3 : Int32)] []) _
    refine XS.iloadN X7.here hx rfl (hb hby d4_4) rfl ?_
    show SS p e below T7 (mkF m 5 #[vr r0, vd (FP.l2d (((0 : Int64) + v1) + ((2 : Int64) * v2))), us, vi (3 : Int32)] [(.int (3 : Int32))]) _
    refine XS.aloadN X7.here hx rfl (hb hby d4_5) rfl rfl ?_
    show SS p e below T7 (mkF m 6 #[vr r0, vd (FP.l2d (((0 : Int64) + v1) + ((2 : Int64) * v2))), us, vi (3 : Int32)] [(.ref r0), (.int (3 : Int32))]) _
    refine st9 _ ?_
    show SS p e below T9 (mkF m 9 #[vr r0, vd (FP.l2d (((0 : Int64) + v1) + ((2 : Int64) * v2))), us, vi (3 : Int32)] [(.ref rb), (.int (3 : Int32))]) _
    refine X9.arraylength hx (own_at e9 Ar10.1) (State.isArrayOf_alike hZ.alike Ar10.2.1) (g := (mkF m 9 #[vr r0, vd (FP.l2d (((0 : Int64) + v1) + ((2 : Int64) * v2))), us, vi (3 : Int32)] [(.ref rb), (.int (3 : Int32))])) rfl rfl (hb hby d4_9) _ ?_
    rw [len_of S10 Nn10]
    show SS p e below T9 (mkF m 10 #[vr r0, vd (FP.l2d (((0 : Int64) + v1) + ((2 : Int64) * v2))), us, vi (3 : Int32)] [(.int (3 : Int32)), (.int (3 : Int32))]) _
    refine XS.icmpYes X9.here hx rfl (pc0 := 10) (pc' := 31) rfl (hb hby d4_10) rfl (flt (by decide : ¬ ((3 : Int32) < (3 : Int32)))).2.1 (by decide) (by decide) ?_
    show SS p e below T9 (mkF m 31 #[vr r0, vd (FP.l2d (((0 : Int64) + v1) + ((2 : Int64) * v2))), us, vi (3 : Int32)] []) _
    refine XS.dloadN X9.here hx rfl (hb hby d4_31) rfl ?_
    show SS p e below T9 (mkF m 32 #[vr r0, vd (FP.l2d (((0 : Int64) + v1) + ((2 : Int64) * v2))), us, vi (3 : Int32)] [(.double (FP.l2d (((0 : Int64) + v1) + ((2 : Int64) * v2))))]) _
    refine XS.aloadN X9.here hx rfl (hb hby d4_32) rfl rfl ?_
    show SS p e below T9 (mkF m 33 #[vr r0, vd (FP.l2d (((0 : Int64) + v1) + ((2 : Int64) * v2))), us, vi (3 : Int32)] [(.ref r0), (.double (FP.l2d (((0 : Int64) + v1) + ((2 : Int64) * v2))))]) _
    refine st11 _ ?_
    show SS p e below T11 (mkF m 36 #[vr r0, vd (FP.l2d (((0 : Int64) + v1) + ((2 : Int64) * v2))), us, vi (3 : Int32)] [(.double (FP.l2d vt)), (.double (FP.l2d (((0 : Int64) + v1) + ((2 : Int64) * v2))))]) _
    refine XS.ddivS X11.here hx rfl (hb hby d4_36) rfl (v := (FP.ddiv (FP.l2d (((0 : Int64) + v1) + ((2 : Int64) * v2))) (FP.l2d vt))) (own_dnn _ unz) rfl ?_
    show SS p e below T11 (mkF m 37 #[vr r0, vd (FP.l2d (((0 : Int64) + v1) + ((2 : Int64) * v2))), us, vi (3 : Int32)] [(.double (FP.ddiv (FP.l2d (((0 : Int64) + v1) + ((2 : Int64) * v2))) (FP.l2d vt)))]) _
    exact retOut X11 hx Bd.returns rfl (Or.inr (Or.inr (Or.inl ⟨rfl, rfl, _, rfl⟩))) (hb hby d4_37) hr
  · show Q_rmM3 Z r0 rb kb vt v0 v1 v2 h0 n0 _ T11.heap _
    rw [e11]
    exact ⟨rfl, N0, rfl⟩
theorem ef_8 (m : MethodId) (x1 : UInt64) (x2 : UInt64) (x3 : UInt64) (x4 : UInt64) : entryFrame m #[(.int (4 : Int32)), (.double x1), (.double x2), (.double x3), (.double x4)] 9 = mkF m 0 #[vi (4 : Int32), vd x1, us, vd x2, us, vd x3, us, vd x4, us] [] := by first | (simp [entryFrame, mkF, argsToLocals, Value.category]; done) | rfl
theorem d1_60 : decode method_2_code 60 = .ok (.iconst 4, 1) := by decide +kernel
theorem d1_61 : decode method_2_code 61 = .ok (.newarray .double, 2) := by decide +kernel
theorem d1_63 : decode method_2_code 63 = .ok (.dup, 1) := by decide +kernel
theorem d1_64 : decode method_2_code 64 = .ok (.iconst 0, 1) := by decide +kernel
theorem d1_65 : decode method_2_code 65 = .ok (.dload_n 1, 1) := by decide +kernel
theorem d1_66 : decode method_2_code 66 = .ok (.dastore, 1) := by decide +kernel
theorem d1_67 : decode method_2_code 67 = .ok (.dup, 1) := by decide +kernel
theorem d1_68 : decode method_2_code 68 = .ok (.iconst 1, 1) := by decide +kernel
theorem d1_69 : decode method_2_code 69 = .ok (.dload_n 3, 1) := by decide +kernel
theorem d1_70 : decode method_2_code 70 = .ok (.dastore, 1) := by decide +kernel
theorem d1_71 : decode method_2_code 71 = .ok (.dup, 1) := by decide +kernel
theorem d1_72 : decode method_2_code 72 = .ok (.iconst 2, 1) := by decide +kernel
theorem d1_73 : decode method_2_code 73 = .ok (.dload 5, 2) := by decide +kernel
theorem d1_75 : decode method_2_code 75 = .ok (.dastore, 1) := by decide +kernel
theorem d1_76 : decode method_2_code 76 = .ok (.dup, 1) := by decide +kernel
theorem d1_77 : decode method_2_code 77 = .ok (.iconst 3, 1) := by decide +kernel
theorem d1_78 : decode method_2_code 78 = .ok (.dload 7, 2) := by decide +kernel
theorem d1_80 : decode method_2_code 80 = .ok (.dastore, 1) := by decide +kernel
theorem d1_81 : decode method_2_code 81 = .ok (.areturn, 1) := by decide +kernel
def Q_rmW4 (Z : State) (f1 : UInt64) (f2 : UInt64) (f3 : UInt64) (f4 : UInt64) (h0 : Heap) (n0 : Nat) (v : Option Value) (h : Heap) (L : List Loc) : Prop := ∃ (nb : Addr), ∃ (kn : ClassId), (v = some (.ref nb) ∧ Fr n0 L ∧ Keep h0 h [] ∧ h0.size ≤ nb ∧ Exa Z h nb "[D" ∧ Arv Z h nb kn .double (4 : Int32) [(.double f1), (.double f2), (.double f3), (.double f4)] (.double 0))
set_option maxRecDepth 65536 in
set_option maxHeartbeats 40000000 in
theorem rmW4 (l : Launch) (Z : State) (a0 : Array Value) (hw : ∀ d ∈ tables_1, d.before a0 Z = true) (ws : List Jvm.Cond) (f1 : UInt64) (f2 : UInt64) (f3 : UInt64) (f4 : UInt64) (h0 : Heap) (n0 : Nat) (Z0 : n0 ≤ h0.size) :
    MetFree l (⟨"org/quarrel/model/DistributionMeanPinLaw", "weights", "(IDDDD)[D"⟩ : MethodName) (head1 (Jvm.Cond.code (⟨"org/quarrel/model/DistributionMeanPinLaw", "weights", "(IDDDD)[D"⟩ : MethodName) method_2_code 9 (some (.array .double)) :: ws) ({ frames := 0, cells := 1, slots := 4, locals := 0 } : Room)) (fun a U => a = #[(.int (4 : Int32)), (.double f1), (.double f2), (.double f3), (.double f4)] ∧ Z.Warmed39 U.vm ∧ U.heap = h0) (fun _ _ _ _ _ => True) (fun _ U o U' => ∃ v L, o = .returned v ∧ Q_rmW4 Z f1 f2 f3 f4 h0 n0 v U'.heap L ∧ FrameEnd U o U' L ({ frames := 0, cells := 1, slots := 4, locals := 0 } : Room).cells ({ frames := 0, cells := 1, slots := 4, locals := 0 } : Room).slots) := by
  refine MetFree.of_bodySF (plainFor_of_name pn_2) hisR ?_
  intro p e s m args below meth c s₁ Bd hml0 hP hK
  obtain ⟨rfl, hZ, hh⟩ := hP
  have hx := Bd.exec
  have hby := Bd.bytes
  have hml : c.maxLocals = 9 := hml0
  have hown : s.vm.findClass "org/quarrel/model/DistributionMeanPinLaw" = some m.cls := findClass_of_methodNamed Bd.named
  have hnm := (name_of_methodNamed Bd.named Bd.method).1
  have X0 : Stand p l e ({ frames := 0, cells := 1, slots := 4, locals := 0 } : Room) s m #[(.int (4 : Int32)), (.double f1), (.double f2), (.double f3), (.double f4)] below meth c s₁ [] 0 0 := Stand.of_body Bd
  have e0 : s₁.heap = h0 := by rw [← hh, Bd.state]; rfl
  have N0 := Fr.nil n0
  have pre0 : ∀ t, Steps p.tables e below (s₁.setTop (mkF m 0 #[vi (4 : Int32), vd f1, us, vd f2, us, vd f3, us, vd f4, us] [])) t → Steps p.tables e below (s₁.setTop (entryFrame m #[(.int (4 : Int32)), (.double f1), (.double f2), (.double f3), (.double f4)] 9)) t := fun t k => castTop (ef_8 m f1 f2 f3 f4) k
  obtain ⟨T1, h1, k1, X1, e1, E1, A1, AX1, st1⟩ := newPE X0 hx hZ (wd hw 5 rfl) e0 (g := (mkF m 61 #[vi (4 : Int32), vd f1, us, vd f2, us, vd f3, us, vd f4, us] [(.int (4 : Int32))])) rfl (hb hby d1_61) rfl (by decide) (cap := 4) (by decide) (by decide) (by decide) (by decide) (ad := "[D") (by decide)
  obtain ⟨b1, g1⟩ : ∃ z, z = h0.size := ⟨_, rfl⟩
  rw [← g1] at A1 AX1 st1
  have V1 : Arv Z h1 b1 k1 .double (4 : Int32) [(.double 0), (.double 0), (.double 0), (.double 0)] (.double 0) := (Arv.new A1 (by decide)).pad (pad_rep [] (.double 0) 4)
  have g_b1 : n0 ≤ b1 := Nat.le_trans Z0 (Nat.le_of_eq g1.symm)
  have sz_b1 : h0.size ≤ b1 := Nat.le_trans (Keep.refl h0 []).1 (Nat.le_of_eq g1.symm)
  have K1 : Keep h0 h1 [] := (Keep.refl h0 []).ext E1
  have Z1 : n0 ≤ h1.size := Nat.le_trans Z0 E1.1
  obtain ⟨cl2, Ar2, q2, S2, Nn2, H2, G2⟩ := (id V1)
  have hin2 : ¬ ((0 : Int32) < 0 ∨ cl2.slots.size ≤ ((0 : Int32)).toNatClampNeg) := inb_of S2 ⟨by decide, by decide⟩
  obtain ⟨T2, h2, X2, e2, W2, st2⟩ := stD X1 hx hZ e1 Ar2 (j := (0 : Int32)) hin2 (g := (mkF m 66 #[vi (4 : Int32), vd f1, us, vd f2, us, vd f3, us, vd f4, us] [(.double f1), (.int (0 : Int32)), (.ref b1), (.ref b1)])) rfl rfl (hb hby d1_66)
  have V2 : Arv Z h2 b1 k1 .double (4 : Int32) [(.double f1), (.double 0), (.double 0), (.double 0)] (.double 0) := Arv.set Ar2 q2 S2 Nn2 H2 G2 rfl W2 0 rfl (Nat.le_of_ble_eq_true rfl)
  have N2 := Fr.snoc X2 N0 g_b1
  have K2 : Keep h0 h2 [] := K1.wr W2 (Or.inr sz_b1)
  have Z2 : n0 ≤ h2.size := by rw [W2.size]; exact Z1
  obtain ⟨cl3, Ar3, q3, S3, Nn3, H3, G3⟩ := (id V2)
  have hin3 : ¬ ((1 : Int32) < 0 ∨ cl3.slots.size ≤ ((1 : Int32)).toNatClampNeg) := inb_of S3 ⟨by decide, by decide⟩
  obtain ⟨T3, h3, X3, e3, W3, st3⟩ := stD X2 hx hZ e2 Ar3 (j := (1 : Int32)) hin3 (g := (mkF m 70 #[vi (4 : Int32), vd f1, us, vd f2, us, vd f3, us, vd f4, us] [(.double f2), (.int (1 : Int32)), (.ref b1), (.ref b1)])) rfl rfl (hb hby d1_70)
  have V3 : Arv Z h3 b1 k1 .double (4 : Int32) [(.double f1), (.double f2), (.double 0), (.double 0)] (.double 0) := Arv.set Ar3 q3 S3 Nn3 H3 G3 rfl W3 1 rfl (Nat.le_of_ble_eq_true rfl)
  have N3 := Fr.snoc X3 N2 g_b1
  have K3 : Keep h0 h3 [] := K2.wr W3 (Or.inr sz_b1)
  have Z3 : n0 ≤ h3.size := by rw [W3.size]; exact Z2
  obtain ⟨cl4, Ar4, q4, S4, Nn4, H4, G4⟩ := (id V3)
  have hin4 : ¬ ((2 : Int32) < 0 ∨ cl4.slots.size ≤ ((2 : Int32)).toNatClampNeg) := inb_of S4 ⟨by decide, by decide⟩
  obtain ⟨T4, h4, X4, e4, W4, st4⟩ := stD X3 hx hZ e3 Ar4 (j := (2 : Int32)) hin4 (g := (mkF m 75 #[vi (4 : Int32), vd f1, us, vd f2, us, vd f3, us, vd f4, us] [(.double f3), (.int (2 : Int32)), (.ref b1), (.ref b1)])) rfl rfl (hb hby d1_75)
  have V4 : Arv Z h4 b1 k1 .double (4 : Int32) [(.double f1), (.double f2), (.double f3), (.double 0)] (.double 0) := Arv.set Ar4 q4 S4 Nn4 H4 G4 rfl W4 2 rfl (Nat.le_of_ble_eq_true rfl)
  have N4 := Fr.snoc X4 N3 g_b1
  have K4 : Keep h0 h4 [] := K3.wr W4 (Or.inr sz_b1)
  have Z4 : n0 ≤ h4.size := by rw [W4.size]; exact Z3
  obtain ⟨cl5, Ar5, q5, S5, Nn5, H5, G5⟩ := (id V4)
  have hin5 : ¬ ((3 : Int32) < 0 ∨ cl5.slots.size ≤ ((3 : Int32)).toNatClampNeg) := inb_of S5 ⟨by decide, by decide⟩
  obtain ⟨T5, h5, X5, e5, W5, st5⟩ := stD X4 hx hZ e4 Ar5 (j := (3 : Int32)) hin5 (g := (mkF m 80 #[vi (4 : Int32), vd f1, us, vd f2, us, vd f3, us, vd f4, us] [(.double f4), (.int (3 : Int32)), (.ref b1), (.ref b1)])) rfl rfl (hb hby d1_80)
  have V5 : Arv Z h5 b1 k1 .double (4 : Int32) [(.double f1), (.double f2), (.double f3), (.double f4)] (.double 0) := Arv.set Ar5 q5 S5 Nn5 H5 G5 rfl W5 3 rfl (Nat.le_of_ble_eq_true rfl)
  have N5 := Fr.snoc X5 N4 g_b1
  have K5 : Keep h0 h5 [] := K4.wr W5 (Or.inr sz_b1)
  have Z5 : n0 ≤ h5.size := by rw [W5.size]; exact Z4
  have c6 := ((((AX1.wr W2).wr W3).wr W4).wr W5)
  obtain ⟨fs, hr, hrun, hended, hW, hsame⟩ := X5.leave (v := some (.ref b1)) (fun h => by rw [Bd.returns] at h; cases h)
  refine ⟨_, _, pre0 _ ?_, hrun, hended, _, _, rfl, ?_, ⟨_, rfl⟩, hW, hsame.mono (by decide) (by decide)⟩
  · show SS p e below s₁ (mkF m 0 #[vi (4 : Int32), vd f1, us, vd f2, us, vd f3, us, vd f4, us] []) _
    refine XS.iloadN X0.here hx rfl (hb hby d1_0) rfl ?_
    show SS p e below s₁ (mkF m 1 #[vi (4 : Int32), vd f1, us, vd f2, us, vd f3, us, vd f4, us] [(.int (4 : Int32))]) _
    refine XS.ifYes X0.here hx rfl (pc0 := 1) (pc' := 8) rfl (hb hby d1_1) rfl ((if0 _ _).trans (feq (by decide : ¬ ((4 : Int32) = (0 : Int32)))).2) (by decide) (by decide) ?_
    show SS p e below s₁ (mkF m 8 #[vi (4 : Int32), vd f1, us, vd f2, us, vd f3, us, vd f4, us] []) _
    refine XS.iloadN X0.here hx rfl (hb hby d1_8) rfl ?_
    show SS p e below s₁ (mkF m 9 #[vi (4 : Int32), vd f1, us, vd f2, us, vd f3, us, vd f4, us] [(.int (4 : Int32))]) _
    refine XS.iconst X0.here hx rfl (hb hby d1_9) ?_
    show SS p e below s₁ (mkF m 10 #[vi (4 : Int32), vd f1, us, vd f2, us, vd f3, us, vd f4, us] [(.int (1 : Int32)), (.int (4 : Int32))]) _
    refine XS.icmpYes X0.here hx rfl (pc0 := 10) (pc' := 21) rfl (hb hby d1_10) rfl (feq (by decide : ¬ ((4 : Int32) = (1 : Int32)))).2 (by decide) (by decide) ?_
    show SS p e below s₁ (mkF m 21 #[vi (4 : Int32), vd f1, us, vd f2, us, vd f3, us, vd f4, us] []) _
    refine XS.iloadN X0.here hx rfl (hb hby d1_21) rfl ?_
    show SS p e below s₁ (mkF m 22 #[vi (4 : Int32), vd f1, us, vd f2, us, vd f3, us, vd f4, us] [(.int (4 : Int32))]) _
    refine XS.iconst X0.here hx rfl (hb hby d1_22) ?_
    show SS p e below s₁ (mkF m 23 #[vi (4 : Int32), vd f1, us, vd f2, us, vd f3, us, vd f4, us] [(.int (2 : Int32)), (.int (4 : Int32))]) _
    refine XS.icmpYes X0.here hx rfl (pc0 := 23) (pc' := 38) rfl (hb hby d1_23) rfl (feq (by decide : ¬ ((4 : Int32) = (2 : Int32)))).2 (by decide) (by decide) ?_
    show SS p e below s₁ (mkF m 38 #[vi (4 : Int32), vd f1, us, vd f2, us, vd f3, us, vd f4, us] []) _
    refine XS.iloadN X0.here hx rfl (hb hby d1_38) rfl ?_
    show SS p e below s₁ (mkF m 39 #[vi (4 : Int32), vd f1, us, vd f2, us, vd f3, us, vd f4, us] [(.int (4 : Int32))]) _
    refine XS.iconst X0.here hx rfl (hb hby d1_39) ?_
    show SS p e below s₁ (mkF m 40 #[vi (4 : Int32), vd f1, us, vd f2, us, vd f3, us, vd f4, us] [(.int (3 : Int32)), (.int (4 : Int32))]) _
    refine XS.icmpYes X0.here hx rfl (pc0 := 40) (pc' := 60) rfl (hb hby d1_40) rfl (feq (by decide : ¬ ((4 : Int32) = (3 : Int32)))).2 (by decide) (by decide) ?_
    show SS p e below s₁ (mkF m 60 #[vi (4 : Int32), vd f1, us, vd f2, us, vd f3, us, vd f4, us] []) _
    refine XS.iconst X0.here hx rfl (hb hby d1_60) ?_
    show SS p e below s₁ (mkF m 61 #[vi (4 : Int32), vd f1, us, vd f2, us, vd f3, us, vd f4, us] [(.int (4 : Int32))]) _
    refine st1 _ ?_
    show SS p e below T1 (mkF m 63 #[vi (4 : Int32), vd f1, us, vd f2, us, vd f3, us, vd f4, us] [(.ref b1)]) _
    refine XS.dup X1.here hx rfl (hb hby d1_63) rfl rfl ?_
    show SS p e below T1 (mkF m 64 #[vi (4 : Int32), vd f1, us, vd f2, us, vd f3, us, vd f4, us] [(.ref b1), (.ref b1)]) _
    refine XS.iconst X1.here hx rfl (hb hby d1_64) ?_
    show SS p e below T1 (mkF m 65 #[vi (4 : Int32), vd f1, us, vd f2, us, vd f3, us, vd f4, us] [(.int (0 : Int32)), (.ref b1), (.ref b1)]) _
    refine XS.dloadN X1.here hx rfl (hb hby d1_65) rfl ?_
    show SS p e below T1 (mkF m 66 #[vi (4 : Int32), vd f1, us, vd f2, us, vd f3, us, vd f4, us] [(.double f1), (.int (0 : Int32)), (.ref b1), (.ref b1)]) _
    refine st2 _ ?_
    show SS p e below T2 (mkF m 67 #[vi (4 : Int32), vd f1, us, vd f2, us, vd f3, us, vd f4, us] [(.ref b1)]) _
    refine XS.dup X2.here hx rfl (hb hby d1_67) rfl rfl ?_
    show SS p e below T2 (mkF m 68 #[vi (4 : Int32), vd f1, us, vd f2, us, vd f3, us, vd f4, us] [(.ref b1), (.ref b1)]) _
    refine XS.iconst X2.here hx rfl (hb hby d1_68) ?_
    show SS p e below T2 (mkF m 69 #[vi (4 : Int32), vd f1, us, vd f2, us, vd f3, us, vd f4, us] [(.int (1 : Int32)), (.ref b1), (.ref b1)]) _
    refine XS.dloadN X2.here hx rfl (hb hby d1_69) rfl ?_
    show SS p e below T2 (mkF m 70 #[vi (4 : Int32), vd f1, us, vd f2, us, vd f3, us, vd f4, us] [(.double f2), (.int (1 : Int32)), (.ref b1), (.ref b1)]) _
    refine st3 _ ?_
    show SS p e below T3 (mkF m 71 #[vi (4 : Int32), vd f1, us, vd f2, us, vd f3, us, vd f4, us] [(.ref b1)]) _
    refine XS.dup X3.here hx rfl (hb hby d1_71) rfl rfl ?_
    show SS p e below T3 (mkF m 72 #[vi (4 : Int32), vd f1, us, vd f2, us, vd f3, us, vd f4, us] [(.ref b1), (.ref b1)]) _
    refine XS.iconst X3.here hx rfl (hb hby d1_72) ?_
    show SS p e below T3 (mkF m 73 #[vi (4 : Int32), vd f1, us, vd f2, us, vd f3, us, vd f4, us] [(.int (2 : Int32)), (.ref b1), (.ref b1)]) _
    refine XS.dload X3.here hx rfl (hb hby d1_73) rfl ?_
    show SS p e below T3 (mkF m 75 #[vi (4 : Int32), vd f1, us, vd f2, us, vd f3, us, vd f4, us] [(.double f3), (.int (2 : Int32)), (.ref b1), (.ref b1)]) _
    refine st4 _ ?_
    show SS p e below T4 (mkF m 76 #[vi (4 : Int32), vd f1, us, vd f2, us, vd f3, us, vd f4, us] [(.ref b1)]) _
    refine XS.dup X4.here hx rfl (hb hby d1_76) rfl rfl ?_
    show SS p e below T4 (mkF m 77 #[vi (4 : Int32), vd f1, us, vd f2, us, vd f3, us, vd f4, us] [(.ref b1), (.ref b1)]) _
    refine XS.iconst X4.here hx rfl (hb hby d1_77) ?_
    show SS p e below T4 (mkF m 78 #[vi (4 : Int32), vd f1, us, vd f2, us, vd f3, us, vd f4, us] [(.int (3 : Int32)), (.ref b1), (.ref b1)]) _
    refine XS.dload X4.here hx rfl (hb hby d1_78) rfl ?_
    show SS p e below T4 (mkF m 80 #[vi (4 : Int32), vd f1, us, vd f2, us, vd f3, us, vd f4, us] [(.double f4), (.int (3 : Int32)), (.ref b1), (.ref b1)]) _
    refine st5 _ ?_
    show SS p e below T5 (mkF m 81 #[vi (4 : Int32), vd f1, us, vd f2, us, vd f3, us, vd f4, us] [(.ref b1)]) _
    exact retOut X5 hx Bd.returns rfl (Or.inr (Or.inr (Or.inr (Or.inr ⟨rfl, rfl, rfl⟩)))) (hb hby d1_81) hr
  · show Q_rmW4 Z f1 f2 f3 f4 h0 n0 _ T5.heap _
    rw [e5]
    exact ⟨b1, k1, rfl, N5, K5, sz_b1, c6, V5⟩
def Q_rmI4 (Z : State) (r0 : Addr) (r1 : Addr) (f2 : UInt64) (kb : ClassId) (v0 : Int64) (v1 : Int64) (v2 : Int64) (v3 : Int64) (h0 : Heap) (n0 : Nat) (v : Option Value) (h : Heap) (L : List Loc) : Prop := ∃ (nb : Addr), (v = none ∧ Fr n0 L ∧ Keep h0 h [r0] ∧ Exa Z h r0 "org/quarrel/model/Distribution" ∧ Fld Z h r0 "org/quarrel/model/Distribution" "weights" "[D" (.ref nb) ∧ Fld Z h r0 "org/quarrel/model/Distribution" "total" "D" (.double f2) ∧ h0.size ≤ nb ∧ Arv Z h nb kb .double (4 : Int32) [(.double (FP.l2d v0)), (.double (FP.l2d v1)), (.double (FP.l2d v2)), (.double (FP.l2d v3))] (.double 0))
set_option maxRecDepth 65536 in
set_option maxHeartbeats 40000000 in
theorem rmI4 (l : Launch) (Z : State) (a0 : Array Value) (hw : ∀ d ∈ tables_1, d.before a0 Z = true) (ws : List Jvm.Cond) (r0 : Addr) (r1 : Addr) (f2 : UInt64) (kb : ClassId) (v0 : Int64) (v1 : Int64) (v2 : Int64) (v3 : Int64) (h0 : Heap) (n0 : Nat) (Z0 : n0 ≤ h0.size) (uE : Exa Z h0 r0 "org/quarrel/model/Distribution") (uw : Fld Z h0 r0 "org/quarrel/model/Distribution" "weights" "[D" .null) (uo : Fld Z h0 r0 "org/quarrel/model/Distribution" "total" "D" (.double 0)) (ug : n0 ≤ r0) (uEb : Exa Z h0 r1 "[D") (uV : Arv Z h0 r1 kb .double (4 : Int32) [(.double (FP.l2d v0)), (.double (FP.l2d v1)), (.double (FP.l2d v2)), (.double (FP.l2d v3))] (.double 0)) (uz_v0 : 0 ≤ v0.toInt) (ut_v0 : v0.toInt < 2147483648) (uz_v1 : 0 ≤ v1.toInt) (ut_v1 : v1.toInt < 2147483648) (uz_v2 : 0 ≤ v2.toInt) (ut_v2 : v2.toInt < 2147483648) (uz_v3 : 0 ≤ v3.toInt) (ut_v3 : v3.toInt < 2147483648) :
    MetFree l (⟨"org/quarrel/model/Distribution", "<init>", "([DD)V"⟩ : MethodName) (head1 (Jvm.Cond.code (⟨"org/quarrel/model/Distribution", "<init>", "([DD)V"⟩ : MethodName) prog_15_method_2_code 9 none :: ws) ({ frames := 3, cells := 1, slots := 4, locals := 39 } : Room)) (fun a U => a = #[(.ref r0), (.ref r1), (.double f2)] ∧ Z.Warmed39 U.vm ∧ U.heap = h0) (fun _ _ _ _ _ => True) (fun _ U o U' => ∃ v L, o = .returned v ∧ Q_rmI4 Z r0 r1 f2 kb v0 v1 v2 v3 h0 n0 v U'.heap L ∧ FrameEnd U o U' L ({ frames := 3, cells := 1, slots := 4, locals := 39 } : Room).cells ({ frames := 3, cells := 1, slots := 4, locals := 39 } : Room).slots) := by
  refine MetFree.of_bodySF (plainFor_of_name pn_1) hisR ?_
  intro p e s m args below meth c s₁ Bd hml0 hP hK
  obtain ⟨rfl, hZ, hh⟩ := hP
  have hx := Bd.exec
  have hby := Bd.bytes
  have hml : c.maxLocals = 9 := hml0
  have hown : s.vm.findClass "org/quarrel/model/Distribution" = some m.cls := findClass_of_methodNamed Bd.named
  have hnm := (name_of_methodNamed Bd.named Bd.method).1
  have X0 : Stand p l e ({ frames := 3, cells := 1, slots := 4, locals := 39 } : Room) s m #[(.ref r0), (.ref r1), (.double f2)] below meth c s₁ [] 0 0 := Stand.of_body Bd
  have e0 : s₁.heap = h0 := by rw [← hh, Bd.state]; rfl
  have N0 := Fr.nil n0
  have pre0 : ∀ t, Steps p.tables e below (s₁.setTop (mkF m 0 #[vr r0, vr r1, vd f2, us, uu, uu, uu, uu, uu] [])) t → Steps p.tables e below (s₁.setTop (entryFrame m #[(.ref r0), (.ref r1), (.double f2)] 9)) t := fun t k => castTop (ef_3 m r0 r1 f2) k
  obtain ⟨T1, X1, e1, st1⟩ := initO X0 hx hZ hown (wd hw 12 rfl) (wd hw 13 rfl) (wd hw 14 rfl) e0 (g := (mkF m 1 #[vr r0, vr r1, vd f2, us, uu, uu, uu, uu, uu] [(.ref r0)])) rfl (by rw [hml]; rfl) rfl (hb hby d2_1) (by decide) (W := 0) (by show 2 * 0 + _ ≤ _; exact Nat.le_of_eq rfl) (by decide)
  obtain ⟨cl2, Ar2, q2, S2, Nn2, H2, G2⟩ := (id uV)
  obtain ⟨cl3, Ar3, q3, S3, Nn3, H3, G3⟩ := (id uV)
  have hin3 : ¬ ((0 : Int32) < 0 ∨ cl3.slots.size ≤ ((0 : Int32)).toNatClampNeg) := inb_of S3 ⟨by decide, by decide⟩
  have hat3 : cl3.slots[((0 : Int32)).toNatClampNeg]? = some (.double (FP.l2d v0)) := H3.at hin3 rfl
  obtain ⟨_, _, ⟨T4, L4, k4, n4⟩, -, X4, ⟨Lc4, hQ4, l4, y4, z4⟩, st4⟩ := Jvm.LawKit.callS X1 hx (y := (⟨"org/quarrel/model/Distribution", "requireProbability", "(D)V"⟩ : MethodName)) hown (mvT hZ (wd hw 33 rfl)) (mvT hZ (wd hw 34 rfl)) (mvT hZ (wd hw 8 rfl)) (mvT hZ (wd hw 35 rfl)) (by decide) (backOf (W := 0) (rmR l Z a0 hw [] (FP.l2d v0) h0 n0 Z0 (Jvm.Free.Fl.l2d_fin _) (own_nn uz_v0 ut_v0)) hZ (wd hw 35 rfl) (wd hw 8 rfl) (by decide) (by decide)) (g := (mkF m 31 #[vr r0, vr r1, vd f2, us, vr r1, vi (4 : Int32), vi (0 : Int32), vd (FP.l2d v0), us] [(.double (FP.l2d v0))])) rfl (by rw [hml]; rfl) (argsL := [(.double (FP.l2d v0))]) (rest := []) (lenOf pd_2 rfl) rfl (by show 2 * 0 + _ ≤ _; exact Nat.le_of_eq rfl) (hb hby d2_31) (fun _ _ => ⟨rfl, e1, (by decide : 0 + 0 ≤ _), (by decide : 0 + 0 ≤ _)⟩)
  dsimp only [Pt.U, Pt.locs, Pt.cells, Pt.slots] at X4 l4 y4 z4 st4 hQ4
  subst l4 y4 z4
  obtain ⟨rfl, Nq4, eh4⟩ := hQ4
  have N4 := Fr.app N0 Nq4
  obtain ⟨cl5, Ar5, q5, S5, Nn5, H5, G5⟩ := (id uV)
  have hin5 : ¬ ((1 : Int32) < 0 ∨ cl5.slots.size ≤ ((1 : Int32)).toNatClampNeg) := inb_of S5 ⟨by decide, by decide⟩
  have hat5 : cl5.slots[((1 : Int32)).toNatClampNeg]? = some (.double (FP.l2d v1)) := H5.at hin5 rfl
  obtain ⟨_, _, ⟨T6, L6, k6, n6⟩, -, X6, ⟨Lc6, hQ6, l6, y6, z6⟩, st6⟩ := Jvm.LawKit.callS X4 hx (y := (⟨"org/quarrel/model/Distribution", "requireProbability", "(D)V"⟩ : MethodName)) hown (mvT hZ (wd hw 33 rfl)) (mvT hZ (wd hw 34 rfl)) (mvT hZ (wd hw 8 rfl)) (mvT hZ (wd hw 35 rfl)) (by decide) (backOf (W := 0) (rmR l Z a0 hw [] (FP.l2d v1) h0 n0 Z0 (Jvm.Free.Fl.l2d_fin _) (own_nn uz_v1 ut_v1)) hZ (wd hw 35 rfl) (wd hw 8 rfl) (by decide) (by decide)) (g := (mkF m 31 #[vr r0, vr r1, vd f2, us, vr r1, vi (4 : Int32), vi (1 : Int32), vd (FP.l2d v1), us] [(.double (FP.l2d v1))])) rfl (by rw [hml]; rfl) (argsL := [(.double (FP.l2d v1))]) (rest := []) (lenOf pd_2 rfl) rfl (by show 2 * 0 + _ ≤ _; exact Nat.le_of_eq rfl) (hb hby d2_31) (fun _ _ => ⟨rfl, eh4, (by decide : 0 + 0 ≤ _), (by decide : 0 + 0 ≤ _)⟩)
  dsimp only [Pt.U, Pt.locs, Pt.cells, Pt.slots] at X6 l6 y6 z6 st6 hQ6
  subst l6 y6 z6
  obtain ⟨rfl, Nq6, eh6⟩ := hQ6
  have N6 := Fr.app N4 Nq6
  obtain ⟨cl7, Ar7, q7, S7, Nn7, H7, G7⟩ := (id uV)
  have hin7 : ¬ ((2 : Int32) < 0 ∨ cl7.slots.size ≤ ((2 : Int32)).toNatClampNeg) := inb_of S7 ⟨by decide, by decide⟩
  have hat7 : cl7.slots[((2 : Int32)).toNatClampNeg]? = some (.double (FP.l2d v2)) := H7.at hin7 rfl
  obtain ⟨_, _, ⟨T8, L8, k8, n8⟩, -, X8, ⟨Lc8, hQ8, l8, y8, z8⟩, st8⟩ := Jvm.LawKit.callS X6 hx (y := (⟨"org/quarrel/model/Distribution", "requireProbability", "(D)V"⟩ : MethodName)) hown (mvT hZ (wd hw 33 rfl)) (mvT hZ (wd hw 34 rfl)) (mvT hZ (wd hw 8 rfl)) (mvT hZ (wd hw 35 rfl)) (by decide) (backOf (W := 0) (rmR l Z a0 hw [] (FP.l2d v2) h0 n0 Z0 (Jvm.Free.Fl.l2d_fin _) (own_nn uz_v2 ut_v2)) hZ (wd hw 35 rfl) (wd hw 8 rfl) (by decide) (by decide)) (g := (mkF m 31 #[vr r0, vr r1, vd f2, us, vr r1, vi (4 : Int32), vi (2 : Int32), vd (FP.l2d v2), us] [(.double (FP.l2d v2))])) rfl (by rw [hml]; rfl) (argsL := [(.double (FP.l2d v2))]) (rest := []) (lenOf pd_2 rfl) rfl (by show 2 * 0 + _ ≤ _; exact Nat.le_of_eq rfl) (hb hby d2_31) (fun _ _ => ⟨rfl, eh6, (by decide : 0 + 0 ≤ _), (by decide : 0 + 0 ≤ _)⟩)
  dsimp only [Pt.U, Pt.locs, Pt.cells, Pt.slots] at X8 l8 y8 z8 st8 hQ8
  subst l8 y8 z8
  obtain ⟨rfl, Nq8, eh8⟩ := hQ8
  have N8 := Fr.app N6 Nq8
  obtain ⟨cl9, Ar9, q9, S9, Nn9, H9, G9⟩ := (id uV)
  have hin9 : ¬ ((3 : Int32) < 0 ∨ cl9.slots.size ≤ ((3 : Int32)).toNatClampNeg) := inb_of S9 ⟨by decide, by decide⟩
  have hat9 : cl9.slots[((3 : Int32)).toNatClampNeg]? = some (.double (FP.l2d v3)) := H9.at hin9 rfl
  obtain ⟨_, _, ⟨T10, L10, k10, n10⟩, -, X10, ⟨Lc10, hQ10, l10, y10, z10⟩, st10⟩ := Jvm.LawKit.callS X8 hx (y := (⟨"org/quarrel/model/Distribution", "requireProbability", "(D)V"⟩ : MethodName)) hown (mvT hZ (wd hw 33 rfl)) (mvT hZ (wd hw 34 rfl)) (mvT hZ (wd hw 8 rfl)) (mvT hZ (wd hw 35 rfl)) (by decide) (backOf (W := 0) (rmR l Z a0 hw [] (FP.l2d v3) h0 n0 Z0 (Jvm.Free.Fl.l2d_fin _) (own_nn uz_v3 ut_v3)) hZ (wd hw 35 rfl) (wd hw 8 rfl) (by decide) (by decide)) (g := (mkF m 31 #[vr r0, vr r1, vd f2, us, vr r1, vi (4 : Int32), vi (3 : Int32), vd (FP.l2d v3), us] [(.double (FP.l2d v3))])) rfl (by rw [hml]; rfl) (argsL := [(.double (FP.l2d v3))]) (rest := []) (lenOf pd_2 rfl) rfl (by show 2 * 0 + _ ≤ _; exact Nat.le_of_eq rfl) (hb hby d2_31) (fun _ _ => ⟨rfl, eh8, (by decide : 0 + 0 ≤ _), (by decide : 0 + 0 ≤ _)⟩)
  dsimp only [Pt.U, Pt.locs, Pt.cells, Pt.slots] at X10 l10 y10 z10 st10 hQ10
  subst l10 y10 z10
  obtain ⟨rfl, Nq10, eh10⟩ := hQ10
  have N10 := Fr.app N8 Nq10
  obtain ⟨T11, h11, X11, e11, E11, V11, A11, st11⟩ := cloneH X10 hx hZ hown (wd hw 15 rfl) (wd hw 16 rfl) (wd hw 20 rfl) (wd hw 18 rfl) (wd hw 19 rfl) (wd hw 21 rfl) eh10 (Arv.arh uV) uEb (g := (mkF m 42 #[vr r0, vr r1, vd f2, us, vr r1, vi (4 : Int32), vi (4 : Int32), vd (FP.l2d v3), us] [(.ref r1), (.ref r0)])) rfl (by rw [hml]; rfl) rfl (hb hby d2_42) (by decide) (W := 1) (cap := 4) (by show 2 * 0 + _ ≤ _; exact Nat.le_of_eq rfl) (by decide) (by decide) (by decide) (by decide)
  obtain ⟨b11, g11⟩ : ∃ z, z = h0.size := ⟨_, rfl⟩
  rw [← g11] at V11 A11 st11
  have ne_r0_b11 : r0 ≠ b11 := Nat.ne_of_lt (Nat.lt_of_lt_of_le uE.lt (Nat.le_of_eq g11.symm))
  have ne_r1_b11 : r1 ≠ b11 := Nat.ne_of_lt (Nat.lt_of_lt_of_le uEb.lt (Nat.le_of_eq g11.symm))
  have Va11 : Arv Z h11 b11 kb .double (4 : Int32) [(.double (FP.l2d v0)), (.double (FP.l2d v1)), (.double (FP.l2d v2)), (.double (FP.l2d v3))] (.double 0) := V11
  have g_b11 : n0 ≤ b11 := Nat.le_trans Z0 (Nat.le_of_eq g11.symm)
  have sz_b11 : h0.size ≤ b11 := Nat.le_trans (Keep.refl h0 [r0]).1 (Nat.le_of_eq g11.symm)
  have K11 : Keep h0 h11 [r0] := (Keep.refl h0 [r0]).ext E11
  have Z11 : n0 ≤ h11.size := Nat.le_trans Z0 E11.1
  obtain ⟨T12, X12, e12, st12⟩ := castY X11 hx hZ hown (wd hw 22 rfl) e11 (Ins.self A11) (g := (mkF m 45 #[vr r0, vr r1, vd f2, us, vr r1, vi (4 : Int32), vi (4 : Int32), vd (FP.l2d v3), us] [(.ref b11), (.ref r0)])) rfl rfl (hb hby d2_45)
  have c14 := (uE.ext E11)
  have c15 := (uw.ext E11)
  obtain ⟨T13, h13, X13, e13, W13, st13⟩ := putF X12 hx hZ hown (host := "") (Or.inl (wd hw 24 rfl)) Via.refl e12 c15 c14 (Or.inr ⟨(wd hw 25 rfl), rfl, hnm⟩) (wd hw 7 rfl) (ty := (.array .double)) (by decide) rfl rfl (g := (mkF m 48 #[vr r0, vr r1, vd f2, us, vr r1, vi (4 : Int32), vi (4 : Int32), vd (FP.l2d v3), us] [(.ref b11), (.ref r0)])) rfl rfl (hb hby d2_48)
  have Fw13 := c15.same W13
  have N13 := Fr.snoc X13 N10 ug
  have K13 : Keep h0 h13 [r0] := K11.wr W13 (Or.inl (List.mem_of_getElem? (i := 0) rfl))
  have Z13 : n0 ≤ h13.size := by rw [W13.size]; exact Z11
  have c17 := (c14.wr W13)
  have c18 := ((uo.ext E11).other W13 (Or.inr (slot_ne (Or.inr (wd hw 27 rfl)) (Or.inr (wd hw 25 rfl)) (by decide) (t := .double) (t' := (.array .double)) (by decide) (by decide))))
  obtain ⟨T16, h16, X16, e16, W16, st16⟩ := putF X13 hx hZ hown (host := "") (Or.inl (wd hw 26 rfl)) Via.refl e13 c18 c17 (Or.inr ⟨(wd hw 27 rfl), rfl, hnm⟩) (wd hw 7 rfl) (ty := .double) (by decide) rfl rfl (g := (mkF m 53 #[vr r0, vr r1, vd f2, us, vr r1, vi (4 : Int32), vi (4 : Int32), vd (FP.l2d v3), us] [(.double f2), (.ref r0)])) rfl rfl (hb hby d2_53)
  have Fw16 := c18.same W16
  have N16 := Fr.snoc X16 N13 ug
  have K16 : Keep h0 h16 [r0] := K13.wr W16 (Or.inl (List.mem_of_getElem? (i := 0) rfl))
  have Z16 : n0 ≤ h16.size := by rw [W16.size]; exact Z13
  have c19 := (c17.wr W16)
  have c20 := (Fw13.other W16 (Or.inr (slot_ne (Or.inr (wd hw 25 rfl)) (Or.inr (wd hw 27 rfl)) (by decide) (t := (.array .double)) (t' := .double) (by decide) (by decide))))
  have c21 := ((Va11.other W13 (Ne.symm ne_r0_b11)).other W16 (Ne.symm ne_r0_b11))
  obtain ⟨fs, hr, hrun, hended, hW, hsame⟩ := X16.leave (v := none) (fun _ => rfl)
  refine ⟨_, _, pre0 _ ?_, hrun, hended, _, _, rfl, ?_, ⟨_, rfl⟩, hW, hsame.mono (by decide) (by decide)⟩
  · show SS p e below s₁ (mkF m 0 #[vr r0, vr r1, vd f2, us, uu, uu, uu, uu, uu] []) _
    refine XS.aloadN X0.here hx rfl (hb hby d2_0) rfl rfl ?_
    show SS p e below s₁ (mkF m 1 #[vr r0, vr r1, vd f2, us, uu, uu, uu, uu, uu] [(.ref r0)]) _
    refine st1 _ ?_
    show SS p e below T1 (mkF m 4 #[vr r0, vr r1, vd f2, us, uu, uu, uu, uu, uu] []) _
    refine XS.aloadN X1.here hx rfl (hb hby d2_4) rfl rfl ?_
    show SS p e below T1 (mkF m 5 #[vr r0, vr r1, vd f2, us, uu, uu, uu, uu, uu] [(.ref r1)]) _
    refine XS.astore X1.here hx rfl (hb hby d2_5) rfl rfl (l' := #[vr r0, vr r1, vd f2, us, vr r1, uu, uu, uu, uu]) rfl ?_
    show SS p e below T1 (mkF m 7 #[vr r0, vr r1, vd f2, us, vr r1, uu, uu, uu, uu] []) _
    refine XS.aload X1.here hx rfl (hb hby d2_7) rfl rfl ?_
    show SS p e below T1 (mkF m 9 #[vr r0, vr r1, vd f2, us, vr r1, uu, uu, uu, uu] [(.ref r1)]) _
    refine X1.arraylength hx (own_at e1 Ar2.1) (State.isArrayOf_alike hZ.alike Ar2.2.1) (g := (mkF m 9 #[vr r0, vr r1, vd f2, us, vr r1, uu, uu, uu, uu] [(.ref r1)])) rfl rfl (hb hby d2_9) _ ?_
    rw [len_of S2 Nn2]
    show SS p e below T1 (mkF m 10 #[vr r0, vr r1, vd f2, us, vr r1, uu, uu, uu, uu] [(.int (4 : Int32))]) _
    refine XS.istore X1.here hx rfl (hb hby d2_10) rfl (l' := #[vr r0, vr r1, vd f2, us, vr r1, vi (4 : Int32), uu, uu, uu]) rfl ?_
    show SS p e below T1 (mkF m 12 #[vr r0, vr r1, vd f2, us, vr r1, vi (4 : Int32), uu, uu, uu] []) _
    refine XS.iconst X1.here hx rfl (hb hby d2_12) ?_
    show SS p e below T1 (mkF m 13 #[vr r0, vr r1, vd f2, us, vr r1, vi (4 : Int32), uu, uu, uu] [(.int (0 : Int32))]) _
    refine XS.istore X1.here hx rfl (hb hby d2_13) rfl (l' := #[vr r0, vr r1, vd f2, us, vr r1, vi (4 : Int32), vi (0 : Int32), uu, uu]) rfl ?_
    show SS p e below T1 (mkF m 15 #[vr r0, vr r1, vd f2, us, vr r1, vi (4 : Int32), vi (0 : Int32), uu, uu] []) _
    refine XS.iload X1.here hx rfl (hb hby d2_15) rfl ?_
    show SS p e below T1 (mkF m 17 #[vr r0, vr r1, vd f2, us, vr r1, vi (4 : Int32), vi (0 : Int32), uu, uu] [(.int (0 : Int32))]) _
    refine XS.iload X1.here hx rfl (hb hby d2_17) rfl ?_
    show SS p e below T1 (mkF m 19 #[vr r0, vr r1, vd f2, us, vr r1, vi (4 : Int32), vi (0 : Int32), uu, uu] [(.int (4 : Int32)), (.int (0 : Int32))]) _
    refine XS.icmpNo X1.here hx rfl (hb hby d2_19) rfl (tlt (by decide : (0 : Int32) < (4 : Int32))).2.1 ?_
    show SS p e below T1 (mkF m 22 #[vr r0, vr r1, vd f2, us, vr r1, vi (4 : Int32), vi (0 : Int32), uu, uu] []) _
    refine XS.aload X1.here hx rfl (hb hby d2_22) rfl rfl ?_
    show SS p e below T1 (mkF m 24 #[vr r0, vr r1, vd f2, us, vr r1, vi (4 : Int32), vi (0 : Int32), uu, uu] [(.ref r1)]) _
    refine XS.iload X1.here hx rfl (hb hby d2_24) rfl ?_
    show SS p e below T1 (mkF m 26 #[vr r0, vr r1, vd f2, us, vr r1, vi (4 : Int32), vi (0 : Int32), uu, uu] [(.int (0 : Int32)), (.ref r1)]) _
    refine X1.daload hx (j := (0 : Int32)) (v := (.double (FP.l2d v0))) (own_at e1 Ar3.1) (State.isArrayOf_alike hZ.alike Ar3.2.1) Ar3.2.2 hin3 hat3 (g := (mkF m 26 #[vr r0, vr r1, vd f2, us, vr r1, vi (4 : Int32), vi (0 : Int32), uu, uu] [(.int (0 : Int32)), (.ref r1)])) rfl rfl (hb hby d2_26) _ ?_
    show SS p e below T1 (mkF m 27 #[vr r0, vr r1, vd f2, us, vr r1, vi (4 : Int32), vi (0 : Int32), uu, uu] [(.double (FP.l2d v0))]) _
    refine XS.dstore X1.here hx rfl (hb hby d2_27) rfl (l' := #[vr r0, vr r1, vd f2, us, vr r1, vi (4 : Int32), vi (0 : Int32), vd (FP.l2d v0), us]) rfl ?_
    show SS p e below T1 (mkF m 29 #[vr r0, vr r1, vd f2, us, vr r1, vi (4 : Int32), vi (0 : Int32), vd (FP.l2d v0), us] []) _
    refine XS.dload X1.here hx rfl (hb hby d2_29) rfl ?_
    show SS p e below T1 (mkF m 31 #[vr r0, vr r1, vd f2, us, vr r1, vi (4 : Int32), vi (0 : Int32), vd (FP.l2d v0), us] [(.double (FP.l2d v0))]) _
    refine st4 _ ?_
    show SS p e below T4 (mkF m 34 #[vr r0, vr r1, vd f2, us, vr r1, vi (4 : Int32), vi (0 : Int32), vd (FP.l2d v0), us] []) _
    refine XS.iinc X4.here hx rfl (hb hby d2_34) rfl (l' := #[vr r0, vr r1, vd f2, us, vr r1, vi (4 : Int32), vi ((0 : Int32) + (1 : Int32)), vd (FP.l2d v0), us]) rfl ?_
    show SS p e below T4 (mkF m 37 #[vr r0, vr r1, vd f2, us, vr r1, vi (4 : Int32), vi ((0 : Int32) + (1 : Int32)), vd (FP.l2d v0), us] []) _
    rw [(by decide : ((0 : Int32) + (1 : Int32)) = (1 : Int32))]
    show SS p e below T4 (mkF m 37 #[vr r0, vr r1, vd f2, us, vr r1, vi (4 : Int32), vi (1 : Int32), vd (FP.l2d v0), us] []) _
    refine XS.goto X4.here hx rfl (pc0 := 37) (pc' := 15) rfl (hb hby d2_37) (by decide) (by decide) ?_
    show SS p e below T4 (mkF m 15 #[vr r0, vr r1, vd f2, us, vr r1, vi (4 : Int32), vi (1 : Int32), vd (FP.l2d v0), us] []) _
    refine XS.iload X4.here hx rfl (hb hby d2_15) rfl ?_
    show SS p e below T4 (mkF m 17 #[vr r0, vr r1, vd f2, us, vr r1, vi (4 : Int32), vi (1 : Int32), vd (FP.l2d v0), us] [(.int (1 : Int32))]) _
    refine XS.iload X4.here hx rfl (hb hby d2_17) rfl ?_
    show SS p e below T4 (mkF m 19 #[vr r0, vr r1, vd f2, us, vr r1, vi (4 : Int32), vi (1 : Int32), vd (FP.l2d v0), us] [(.int (4 : Int32)), (.int (1 : Int32))]) _
    refine XS.icmpNo X4.here hx rfl (hb hby d2_19) rfl (tlt (by decide : (1 : Int32) < (4 : Int32))).2.1 ?_
    show SS p e below T4 (mkF m 22 #[vr r0, vr r1, vd f2, us, vr r1, vi (4 : Int32), vi (1 : Int32), vd (FP.l2d v0), us] []) _
    refine XS.aload X4.here hx rfl (hb hby d2_22) rfl rfl ?_
    show SS p e below T4 (mkF m 24 #[vr r0, vr r1, vd f2, us, vr r1, vi (4 : Int32), vi (1 : Int32), vd (FP.l2d v0), us] [(.ref r1)]) _
    refine XS.iload X4.here hx rfl (hb hby d2_24) rfl ?_
    show SS p e below T4 (mkF m 26 #[vr r0, vr r1, vd f2, us, vr r1, vi (4 : Int32), vi (1 : Int32), vd (FP.l2d v0), us] [(.int (1 : Int32)), (.ref r1)]) _
    refine X4.daload hx (j := (1 : Int32)) (v := (.double (FP.l2d v1))) (own_at eh4 Ar5.1) (State.isArrayOf_alike hZ.alike Ar5.2.1) Ar5.2.2 hin5 hat5 (g := (mkF m 26 #[vr r0, vr r1, vd f2, us, vr r1, vi (4 : Int32), vi (1 : Int32), vd (FP.l2d v0), us] [(.int (1 : Int32)), (.ref r1)])) rfl rfl (hb hby d2_26) _ ?_
    show SS p e below T4 (mkF m 27 #[vr r0, vr r1, vd f2, us, vr r1, vi (4 : Int32), vi (1 : Int32), vd (FP.l2d v0), us] [(.double (FP.l2d v1))]) _
    refine XS.dstore X4.here hx rfl (hb hby d2_27) rfl (l' := #[vr r0, vr r1, vd f2, us, vr r1, vi (4 : Int32), vi (1 : Int32), vd (FP.l2d v1), us]) rfl ?_
    show SS p e below T4 (mkF m 29 #[vr r0, vr r1, vd f2, us, vr r1, vi (4 : Int32), vi (1 : Int32), vd (FP.l2d v1), us] []) _
    refine XS.dload X4.here hx rfl (hb hby d2_29) rfl ?_
    show SS p e below T4 (mkF m 31 #[vr r0, vr r1, vd f2, us, vr r1, vi (4 : Int32), vi (1 : Int32), vd (FP.l2d v1), us] [(.double (FP.l2d v1))]) _
    refine st6 _ ?_
    show SS p e below T6 (mkF m 34 #[vr r0, vr r1, vd f2, us, vr r1, vi (4 : Int32), vi (1 : Int32), vd (FP.l2d v1), us] []) _
    refine XS.iinc X6.here hx rfl (hb hby d2_34) rfl (l' := #[vr r0, vr r1, vd f2, us, vr r1, vi (4 : Int32), vi ((1 : Int32) + (1 : Int32)), vd (FP.l2d v1), us]) rfl ?_
    show SS p e below T6 (mkF m 37 #[vr r0, vr r1, vd f2, us, vr r1, vi (4 : Int32), vi ((1 : Int32) + (1 : Int32)), vd (FP.l2d v1), us] []) _
    rw [(by decide : ((1 : Int32) + (1 : Int32)) = (2 : Int32))]
    show SS p e below T6 (mkF m 37 #[vr r0, vr r1, vd f2, us, vr r1, vi (4 : Int32), vi (2 : Int32), vd (FP.l2d v1), us] []) _
    refine XS.goto X6.here hx rfl (pc0 := 37) (pc' := 15) rfl (hb hby d2_37) (by decide) (by decide) ?_
    show SS p e below T6 (mkF m 15 #[vr r0, vr r1, vd f2, us, vr r1, vi (4 : Int32), vi (2 : Int32), vd (FP.l2d v1), us] []) _
    refine XS.iload X6.here hx rfl (hb hby d2_15) rfl ?_
    show SS p e below T6 (mkF m 17 #[vr r0, vr r1, vd f2, us, vr r1, vi (4 : Int32), vi (2 : Int32), vd (FP.l2d v1), us] [(.int (2 : Int32))]) _
    refine XS.iload X6.here hx rfl (hb hby d2_17) rfl ?_
    show SS p e below T6 (mkF m 19 #[vr r0, vr r1, vd f2, us, vr r1, vi (4 : Int32), vi (2 : Int32), vd (FP.l2d v1), us] [(.int (4 : Int32)), (.int (2 : Int32))]) _
    refine XS.icmpNo X6.here hx rfl (hb hby d2_19) rfl (tlt (by decide : (2 : Int32) < (4 : Int32))).2.1 ?_
    show SS p e below T6 (mkF m 22 #[vr r0, vr r1, vd f2, us, vr r1, vi (4 : Int32), vi (2 : Int32), vd (FP.l2d v1), us] []) _
    refine XS.aload X6.here hx rfl (hb hby d2_22) rfl rfl ?_
    show SS p e below T6 (mkF m 24 #[vr r0, vr r1, vd f2, us, vr r1, vi (4 : Int32), vi (2 : Int32), vd (FP.l2d v1), us] [(.ref r1)]) _
    refine XS.iload X6.here hx rfl (hb hby d2_24) rfl ?_
    show SS p e below T6 (mkF m 26 #[vr r0, vr r1, vd f2, us, vr r1, vi (4 : Int32), vi (2 : Int32), vd (FP.l2d v1), us] [(.int (2 : Int32)), (.ref r1)]) _
    refine X6.daload hx (j := (2 : Int32)) (v := (.double (FP.l2d v2))) (own_at eh6 Ar7.1) (State.isArrayOf_alike hZ.alike Ar7.2.1) Ar7.2.2 hin7 hat7 (g := (mkF m 26 #[vr r0, vr r1, vd f2, us, vr r1, vi (4 : Int32), vi (2 : Int32), vd (FP.l2d v1), us] [(.int (2 : Int32)), (.ref r1)])) rfl rfl (hb hby d2_26) _ ?_
    show SS p e below T6 (mkF m 27 #[vr r0, vr r1, vd f2, us, vr r1, vi (4 : Int32), vi (2 : Int32), vd (FP.l2d v1), us] [(.double (FP.l2d v2))]) _
    refine XS.dstore X6.here hx rfl (hb hby d2_27) rfl (l' := #[vr r0, vr r1, vd f2, us, vr r1, vi (4 : Int32), vi (2 : Int32), vd (FP.l2d v2), us]) rfl ?_
    show SS p e below T6 (mkF m 29 #[vr r0, vr r1, vd f2, us, vr r1, vi (4 : Int32), vi (2 : Int32), vd (FP.l2d v2), us] []) _
    refine XS.dload X6.here hx rfl (hb hby d2_29) rfl ?_
    show SS p e below T6 (mkF m 31 #[vr r0, vr r1, vd f2, us, vr r1, vi (4 : Int32), vi (2 : Int32), vd (FP.l2d v2), us] [(.double (FP.l2d v2))]) _
    refine st8 _ ?_
    show SS p e below T8 (mkF m 34 #[vr r0, vr r1, vd f2, us, vr r1, vi (4 : Int32), vi (2 : Int32), vd (FP.l2d v2), us] []) _
    refine XS.iinc X8.here hx rfl (hb hby d2_34) rfl (l' := #[vr r0, vr r1, vd f2, us, vr r1, vi (4 : Int32), vi ((2 : Int32) + (1 : Int32)), vd (FP.l2d v2), us]) rfl ?_
    show SS p e below T8 (mkF m 37 #[vr r0, vr r1, vd f2, us, vr r1, vi (4 : Int32), vi ((2 : Int32) + (1 : Int32)), vd (FP.l2d v2), us] []) _
    rw [(by decide : ((2 : Int32) + (1 : Int32)) = (3 : Int32))]
    show SS p e below T8 (mkF m 37 #[vr r0, vr r1, vd f2, us, vr r1, vi (4 : Int32), vi (3 : Int32), vd (FP.l2d v2), us] []) _
    refine XS.goto X8.here hx rfl (pc0 := 37) (pc' := 15) rfl (hb hby d2_37) (by decide) (by decide) ?_
    show SS p e below T8 (mkF m 15 #[vr r0, vr r1, vd f2, us, vr r1, vi (4 : Int32), vi (3 : Int32), vd (FP.l2d v2), us] []) _
    refine XS.iload X8.here hx rfl (hb hby d2_15) rfl ?_
    show SS p e below T8 (mkF m 17 #[vr r0, vr r1, vd f2, us, vr r1, vi (4 : Int32), vi (3 : Int32), vd (FP.l2d v2), us] [(.int (3 : Int32))]) _
    refine XS.iload X8.here hx rfl (hb hby d2_17) rfl ?_
    show SS p e below T8 (mkF m 19 #[vr r0, vr r1, vd f2, us, vr r1, vi (4 : Int32), vi (3 : Int32), vd (FP.l2d v2), us] [(.int (4 : Int32)), (.int (3 : Int32))]) _
    refine XS.icmpNo X8.here hx rfl (hb hby d2_19) rfl (tlt (by decide : (3 : Int32) < (4 : Int32))).2.1 ?_
    show SS p e below T8 (mkF m 22 #[vr r0, vr r1, vd f2, us, vr r1, vi (4 : Int32), vi (3 : Int32), vd (FP.l2d v2), us] []) _
    refine XS.aload X8.here hx rfl (hb hby d2_22) rfl rfl ?_
    show SS p e below T8 (mkF m 24 #[vr r0, vr r1, vd f2, us, vr r1, vi (4 : Int32), vi (3 : Int32), vd (FP.l2d v2), us] [(.ref r1)]) _
    refine XS.iload X8.here hx rfl (hb hby d2_24) rfl ?_
    show SS p e below T8 (mkF m 26 #[vr r0, vr r1, vd f2, us, vr r1, vi (4 : Int32), vi (3 : Int32), vd (FP.l2d v2), us] [(.int (3 : Int32)), (.ref r1)]) _
    refine X8.daload hx (j := (3 : Int32)) (v := (.double (FP.l2d v3))) (own_at eh8 Ar9.1) (State.isArrayOf_alike hZ.alike Ar9.2.1) Ar9.2.2 hin9 hat9 (g := (mkF m 26 #[vr r0, vr r1, vd f2, us, vr r1, vi (4 : Int32), vi (3 : Int32), vd (FP.l2d v2), us] [(.int (3 : Int32)), (.ref r1)])) rfl rfl (hb hby d2_26) _ ?_
    show SS p e below T8 (mkF m 27 #[vr r0, vr r1, vd f2, us, vr r1, vi (4 : Int32), vi (3 : Int32), vd (FP.l2d v2), us] [(.double (FP.l2d v3))]) _
    refine XS.dstore X8.here hx rfl (hb hby d2_27) rfl (l' := #[vr r0, vr r1, vd f2, us, vr r1, vi (4 : Int32), vi (3 : Int32), vd (FP.l2d v3), us]) rfl ?_
    show SS p e below T8 (mkF m 29 #[vr r0, vr r1, vd f2, us, vr r1, vi (4 : Int32), vi (3 : Int32), vd (FP.l2d v3), us] []) _
    refine XS.dload X8.here hx rfl (hb hby d2_29) rfl ?_
    show SS p e below T8 (mkF m 31 #[vr r0, vr r1, vd f2, us, vr r1, vi (4 : Int32), vi (3 : Int32), vd (FP.l2d v3), us] [(.double (FP.l2d v3))]) _
    refine st10 _ ?_
    show SS p e below T10 (mkF m 34 #[vr r0, vr r1, vd f2, us, vr r1, vi (4 : Int32), vi (3 : Int32), vd (FP.l2d v3), us] []) _
    refine XS.iinc X10.here hx rfl (hb hby d2_34) rfl (l' := #[vr r0, vr r1, vd f2, us, vr r1, vi (4 : Int32), vi ((3 : Int32) + (1 : Int32)), vd (FP.l2d v3), us]) rfl ?_
    show SS p e below T10 (mkF m 37 #[vr r0, vr r1, vd f2, us, vr r1, vi (4 : Int32), vi ((3 : Int32) + (1 : Int32)), vd (FP.l2d v3), us] []) _
    rw [(by decide : ((3 : Int32) + (1 : Int32)) = (4 : Int32))]
    show SS p e below T10 (mkF m 37 #[vr r0, vr r1, vd f2, us, vr r1, vi (4 : Int32), vi (4 : Int32), vd (FP.l2d v3), us] []) _
    refine XS.goto X10.here hx rfl (pc0 := 37) (pc' := 15) rfl (hb hby d2_37) (by decide) (by decide) ?_
    show SS p e below T10 (mkF m 15 #[vr r0, vr r1, vd f2, us, vr r1, vi (4 : Int32), vi (4 : Int32), vd (FP.l2d v3), us] []) _
    refine XS.iload X10.here hx rfl (hb hby d2_15) rfl ?_
    show SS p e below T10 (mkF m 17 #[vr r0, vr r1, vd f2, us, vr r1, vi (4 : Int32), vi (4 : Int32), vd (FP.l2d v3), us] [(.int (4 : Int32))]) _
    refine XS.iload X10.here hx rfl (hb hby d2_17) rfl ?_
    show SS p e below T10 (mkF m 19 #[vr r0, vr r1, vd f2, us, vr r1, vi (4 : Int32), vi (4 : Int32), vd (FP.l2d v3), us] [(.int (4 : Int32)), (.int (4 : Int32))]) _
    refine XS.icmpYes X10.here hx rfl (pc0 := 19) (pc' := 40) rfl (hb hby d2_19) rfl (flt (by decide : ¬ ((4 : Int32) < (4 : Int32)))).2.1 (by decide) (by decide) ?_
    show SS p e below T10 (mkF m 40 #[vr r0, vr r1, vd f2, us, vr r1, vi (4 : Int32), vi (4 : Int32), vd (FP.l2d v3), us] []) _
    refine XS.aloadN X10.here hx rfl (hb hby d2_40) rfl rfl ?_
    show SS p e below T10 (mkF m 41 #[vr r0, vr r1, vd f2, us, vr r1, vi (4 : Int32), vi (4 : Int32), vd (FP.l2d v3), us] [(.ref r0)]) _
    refine XS.aloadN X10.here hx rfl (hb hby d2_41) rfl rfl ?_
    show SS p e below T10 (mkF m 42 #[vr r0, vr r1, vd f2, us, vr r1, vi (4 : Int32), vi (4 : Int32), vd (FP.l2d v3), us] [(.ref r1), (.ref r0)]) _
    refine st11 _ ?_
    show SS p e below T11 (mkF m 45 #[vr r0, vr r1, vd f2, us, vr r1, vi (4 : Int32), vi (4 : Int32), vd (FP.l2d v3), us] [(.ref b11), (.ref r0)]) _
    refine st12 _ ?_
    show SS p e below T12 (mkF m 48 #[vr r0, vr r1, vd f2, us, vr r1, vi (4 : Int32), vi (4 : Int32), vd (FP.l2d v3), us] [(.ref b11), (.ref r0)]) _
    refine st13 _ ?_
    show SS p e below T13 (mkF m 51 #[vr r0, vr r1, vd f2, us, vr r1, vi (4 : Int32), vi (4 : Int32), vd (FP.l2d v3), us] []) _
    refine XS.aloadN X13.here hx rfl (hb hby d2_51) rfl rfl ?_
    show SS p e below T13 (mkF m 52 #[vr r0, vr r1, vd f2, us, vr r1, vi (4 : Int32), vi (4 : Int32), vd (FP.l2d v3), us] [(.ref r0)]) _
    refine XS.dloadN X13.here hx rfl (hb hby d2_52) rfl ?_
    show SS p e below T13 (mkF m 53 #[vr r0, vr r1, vd f2, us, vr r1, vi (4 : Int32), vi (4 : Int32), vd (FP.l2d v3), us] [(.double f2), (.ref r0)]) _
    refine st16 _ ?_
    show SS p e below T16 (mkF m 56 #[vr r0, vr r1, vd f2, us, vr r1, vi (4 : Int32), vi (4 : Int32), vd (FP.l2d v3), us] []) _
    exact X16.returnOut hx Bd.returns (hb hby d2_56) hr
  · show Q_rmI4 Z r0 r1 f2 kb v0 v1 v2 v3 h0 n0 _ T16.heap _
    rw [e16]
    exact ⟨b11, rfl, N16, K16, c19, c20, Fw16, sz_b11, c21⟩
def Q_rmM4 (Z : State) (r0 : Addr) (rb : Addr) (kb : ClassId) (vt : Int64) (v0 : Int64) (v1 : Int64) (v2 : Int64) (v3 : Int64) (h0 : Heap) (n0 : Nat) (v : Option Value) (h : Heap) (L : List Loc) : Prop := (v = some (.double (FP.ddiv (FP.l2d ((((0 : Int64) + v1) + ((2 : Int64) * v2)) + ((3 : Int64) * v3))) (FP.l2d vt))) ∧ Fr n0 L ∧ h = h0)
set_option maxRecDepth 65536 in
set_option maxHeartbeats 40000000 in
theorem rmM4 (l : Launch) (Z : State) (a0 : Array Value) (hw : ∀ d ∈ tables_1, d.before a0 Z = true) (ws : List Jvm.Cond) (r0 : Addr) (rb : Addr) (kb : ClassId) (vt : Int64) (v0 : Int64) (v1 : Int64) (v2 : Int64) (v3 : Int64) (h0 : Heap) (n0 : Nat) (Z0 : n0 ≤ h0.size) (uw : Fld Z h0 r0 "org/quarrel/model/Distribution" "weights" "[D" (.ref rb)) (uo : Fld Z h0 r0 "org/quarrel/model/Distribution" "total" "D" (.double (FP.l2d vt))) (uV : Arv Z h0 rb kb .double (4 : Int32) [(.double (FP.l2d v0)), (.double (FP.l2d v1)), (.double (FP.l2d v2)), (.double (FP.l2d v3))] (.double 0)) (unz : vt ≠ 0) (uz_v0 : 0 ≤ v0.toInt) (ut_v0 : v0.toInt < 2147483648) (uz_v1 : 0 ≤ v1.toInt) (ut_v1 : v1.toInt < 2147483648) (uz_v2 : 0 ≤ v2.toInt) (ut_v2 : v2.toInt < 2147483648) (uz_v3 : 0 ≤ v3.toInt) (ut_v3 : v3.toInt < 2147483648) :
    MetFree l (⟨"org/quarrel/model/Distribution", "mean", "()D"⟩ : MethodName) (head1 (Jvm.Cond.code (⟨"org/quarrel/model/Distribution", "mean", "()D"⟩ : MethodName) prog_15_method_11_code 4 (some .double) :: ws) ({ frames := 0, cells := 0, slots := 0, locals := 0 } : Room)) (fun a U => a = #[(.ref r0)] ∧ Z.Warmed39 U.vm ∧ U.heap = h0) (fun _ _ _ _ _ => True) (fun _ U o U' => ∃ v L, o = .returned v ∧ Q_rmM4 Z r0 rb kb vt v0 v1 v2 v3 h0 n0 v U'.heap L ∧ FrameEnd U o U' L ({ frames := 0, cells := 0, slots := 0, locals := 0 } : Room).cells ({ frames := 0, cells := 0, slots := 0, locals := 0 } : Room).slots) := by
  refine MetFree.of_bodySF (plainFor_of_name pn_1) hisR ?_
  intro p e s m args below meth c s₁ Bd hml0 hP hK
  obtain ⟨rfl, hZ, hh⟩ := hP
  have hx := Bd.exec
  have hby := Bd.bytes
  have hml : c.maxLocals = 4 := hml0
  have hown : s.vm.findClass "org/quarrel/model/Distribution" = some m.cls := findClass_of_methodNamed Bd.named
  have hnm := (name_of_methodNamed Bd.named Bd.method).1
  have X0 : Stand p l e ({ frames := 0, cells := 0, slots := 0, locals := 0 } : Room) s m #[(.ref r0)] below meth c s₁ [] 0 0 := Stand.of_body Bd
  have e0 : s₁.heap = h0 := by rw [← hh, Bd.state]; rfl
  have N0 := Fr.nil n0
  have pre0 : ∀ t, Steps p.tables e below (s₁.setTop (mkF m 0 #[vr r0, uu, uu, uu] [])) t → Steps p.tables e below (s₁.setTop (entryFrame m #[(.ref r0)] 4)) t := fun t k => castTop (ef_4 m r0) k
  have pr1 := own_mul1 uz_v1 ut_v1
  have pr2 := own_mulk (2 : Int64) (by decide) (by decide) uz_v2 ut_v2
  have pr3 := own_mulk (3 : Int64) (by decide) (by decide) uz_v3 ut_v3
  have sm1 := own_add0 uz_v1 ut_v1
  have sm2 := own_addk (2 : Int64) (by decide) (by decide) sm1.2.1 (Int.lt_trans sm1.2.2 (by decide)) uz_v2 ut_v2
  have sm3 := own_addk (3 : Int64) (by decide) (by decide) sm2.2.1 (by have a := sm1.2.2; have b := sm2.2.2; omega) uz_v3 ut_v3
  obtain ⟨T1, X1, e1, st1⟩ := getF X0 hx hZ hown (host := "") (Or.inl (wd hw 24 rfl)) Via.refl e0 uw (g := (mkF m 6 #[vr r0, vd (FP.l2d (0 : Int64)), us, vi (1 : Int32)] [(.ref r0), (.int (1 : Int32))])) rfl rfl (hb hby d4_6)
  obtain ⟨cl2, Ar2, q2, S2, Nn2, H2, G2⟩ := (id uV)
  obtain ⟨T3, X3, e3, st3⟩ := getF X1 hx hZ hown (host := "") (Or.inl (wd hw 24 rfl)) Via.refl e1 uw (g := (mkF m 17 #[vr r0, vd (FP.l2d (0 : Int64)), us, vi (1 : Int32)] [(.ref r0), (.double (FP.l2d (1 : Int64))), (.double (FP.l2d (0 : Int64)))])) rfl rfl (hb hby d4_17)
  obtain ⟨cl4, Ar4, q4, S4, Nn4, H4, G4⟩ := (id uV)
  have hin4 : ¬ ((1 : Int32) < 0 ∨ cl4.slots.size ≤ ((1 : Int32)).toNatClampNeg) := inb_of S4 ⟨by decide, by decide⟩
  have hat4 : cl4.slots[((1 : Int32)).toNatClampNeg]? = some (.double (FP.l2d v1)) := H4.at hin4 rfl
  obtain ⟨T5, X5, e5, st5⟩ := getF X3 hx hZ hown (host := "") (Or.inl (wd hw 24 rfl)) Via.refl e3 uw (g := (mkF m 6 #[vr r0, vd (FP.l2d ((0 : Int64) + v1)), us, vi (2 : Int32)] [(.ref r0), (.int (2 : Int32))])) rfl rfl (hb hby d4_6)
  obtain ⟨cl6, Ar6, q6, S6, Nn6, H6, G6⟩ := (id uV)
  obtain ⟨T7, X7, e7, st7⟩ := getF X5 hx hZ hown (host := "") (Or.inl (wd hw 24 rfl)) Via.refl e5 uw (g := (mkF m 17 #[vr r0, vd (FP.l2d ((0 : Int64) + v1)), us, vi (2 : Int32)] [(.ref r0), (.double (FP.l2d (2 : Int64))), (.double (FP.l2d ((0 : Int64) + v1)))])) rfl rfl (hb hby d4_17)
  obtain ⟨cl8, Ar8, q8, S8, Nn8, H8, G8⟩ := (id uV)
  have hin8 : ¬ ((2 : Int32) < 0 ∨ cl8.slots.size ≤ ((2 : Int32)).toNatClampNeg) := inb_of S8 ⟨by decide, by decide⟩
  have hat8 : cl8.slots[((2 : Int32)).toNatClampNeg]? = some (.double (FP.l2d v2)) := H8.at hin8 rfl
  obtain ⟨T9, X9, e9, st9⟩ := getF X7 hx hZ hown (host := "") (Or.inl (wd hw 24 rfl)) Via.refl e7 uw (g := (mkF m 6 #[vr r0, vd (FP.l2d (((0 : Int64) + v1) + ((2 : Int64) * v2))), us, vi (3 : Int32)] [(.ref r0), (.int (3 : Int32))])) rfl rfl (hb hby d4_6)
  obtain ⟨cl10, Ar10, q10, S10, Nn10, H10, G10⟩ := (id uV)
  obtain ⟨T11, X11, e11, st11⟩ := getF X9 hx hZ hown (host := "") (Or.inl (wd hw 24 rfl)) Via.refl e9 uw (g := (mkF m 17 #[vr r0, vd (FP.l2d (((0 : Int64) + v1) + ((2 : Int64) * v2))), us, vi (3 : Int32)] [(.ref r0), (.double (FP.l2d (3 : Int64))), (.double (FP.l2d (((0 : Int64) + v1) + ((2 : Int64) * v2))))])) rfl rfl (hb hby d4_17)
  obtain ⟨cl12, Ar12, q12, S12, Nn12, H12, G12⟩ := (id uV)
  have hin12 : ¬ ((3 : Int32) < 0 ∨ cl12.slots.size ≤ ((3 : Int32)).toNatClampNeg) := inb_of S12 ⟨by decide, by decide⟩
  have hat12 : cl12.slots[((3 : Int32)).toNatClampNeg]? = some (.double (FP.l2d v3)) := H12.at hin12 rfl
  obtain ⟨T13, X13, e13, st13⟩ := getF X11 hx hZ hown (host := "") (Or.inl (wd hw 24 rfl)) Via.refl e11 uw (g := (mkF m 6 #[vr r0, vd (FP.l2d ((((0 : Int64) + v1) + ((2 : Int64) * v2)) + ((3 : Int64) * v3))), us, vi (4 : Int32)] [(.ref r0), (.int (4 : Int32))])) rfl rfl (hb hby d4_6)
  obtain ⟨cl14, Ar14, q14, S14, Nn14, H14, G14⟩ := (id uV)
  obtain ⟨T15, X15, e15, st15⟩ := getF X13 hx hZ hown (host := "") (Or.inl (wd hw 26 rfl)) Via.refl e13 uo (g := (mkF m 33 #[vr r0, vd (FP.l2d ((((0 : Int64) + v1) + ((2 : Int64) * v2)) + ((3 : Int64) * v3))), us, vi (4 : Int32)] [(.ref r0), (.double (FP.l2d ((((0 : Int64) + v1) + ((2 : Int64) * v2)) + ((3 : Int64) * v3))))])) rfl rfl (hb hby d4_33)
  obtain ⟨fs, hr, hrun, hended, hW, hsame⟩ := X15.leave (v := some (.double (FP.ddiv (FP.l2d ((((0 : Int64) + v1) + ((2 : Int64) * v2)) + ((3 : Int64) * v3))) (FP.l2d vt)))) (fun h => by rw [Bd.returns] at h; cases h)
  refine ⟨_, _, pre0 _ ?_, hrun, hended, _, _, rfl, ?_, ⟨_, rfl⟩, hW, hsame.mono (by decide) (by decide)⟩
  · show SS p e below s₁ (mkF m 0 #[vr r0, uu, uu, uu] []) _
    refine XS.dconst0 X0.here hx rfl (hb hby d4_0) (v := (FP.l2d (0 : Int64))) (by decide) ?_
    show SS p e below s₁ (mkF m 1 #[vr r0, uu, uu, uu] [(.double (FP.l2d (0 : Int64)))]) _
    refine XS.dstoreN X0.here hx rfl (hb hby d4_1) rfl (l' := #[vr r0, vd (FP.l2d (0 : Int64)), us, uu]) rfl ?_
    show SS p e below s₁ (mkF m 2 #[vr r0, vd (FP.l2d (0 : Int64)), us, uu] []) _
    refine XS.iconst X0.here hx rfl (hb hby d4_2) ?_
    show SS p e below s₁ (mkF m 3 #[vr r0, vd (FP.l2d (0 : Int64)), us, uu] [(.int (1 : Int32))]) _
    refine XS.istoreN X0.here hx rfl (hb hby d4_3) rfl (l' := #[vr r0, vd (FP.l2d (0 : Int64)), us, vi (1 : Int32)]) rfl ?_
    show SS p e below s₁ (mkF m 4 #[vr r0, vd (FP.l2d (0 : Int64)), us, vi (1 : Int32)] []) _
    refine XS.iloadN X0.here hx rfl (hb hby d4_4) rfl ?_
    show SS p e below s₁ (mkF m 5 #[vr r0, vd (FP.l2d (0 : Int64)), us, vi (1 : Int32)] [(.int (1 : Int32))]) _
    refine XS.aloadN X0.here hx rfl (hb hby d4_5) rfl rfl ?_
    show SS p e below s₁ (mkF m 6 #[vr r0, vd (FP.l2d (0 : Int64)), us, vi (1 : Int32)] [(.ref r0), (.int (1 : Int32))]) _
    refine st1 _ ?_
    show SS p e below T1 (mkF m 9 #[vr r0, vd (FP.l2d (0 : Int64)), us, vi (1 : Int32)] [(.ref rb), (.int (1 : Int32))]) _
    refine X1.arraylength hx (own_at e1 Ar2.1) (State.isArrayOf_alike hZ.alike Ar2.2.1) (g := (mkF m 9 #[vr r0, vd (FP.l2d (0 : Int64)), us, vi (1 : Int32)] [(.ref rb), (.int (1 : Int32))])) rfl rfl (hb hby d4_9) _ ?_
    rw [len_of S2 Nn2]
    show SS p e below T1 (mkF m 10 #[vr r0, vd (FP.l2d (0 : Int64)), us, vi (1 : Int32)] [(.int (4 : Int32)), (.int (1 : Int32))]) _
    refine XS.icmpNo X1.here hx rfl (hb hby d4_10) rfl (tlt (by decide : (1 : Int32) < (4 : Int32))).2.1 ?_
    show SS p e below T1 (mkF m 13 #[vr r0, vd (FP.l2d (0 : Int64)), us, vi (1 : Int32)] []) _
    refine XS.dloadN X1.here hx rfl (hb hby d4_13) rfl ?_
    show SS p e below T1 (mkF m 14 #[vr r0, vd (FP.l2d (0 : Int64)), us, vi (1 : Int32)] [(.double (FP.l2d (0 : Int64)))]) _
    refine XS.iloadN X1.here hx rfl (hb hby d4_14) rfl ?_
    show SS p e below T1 (mkF m 15 #[vr r0, vd (FP.l2d (0 : Int64)), us, vi (1 : Int32)] [(.int (1 : Int32)), (.double (FP.l2d (0 : Int64)))]) _
    refine XS.i2dS X1.here hx rfl (hb hby d4_15) rfl (v := (FP.l2d (1 : Int64))) (i2d_w _) ?_
    show SS p e below T1 (mkF m 16 #[vr r0, vd (FP.l2d (0 : Int64)), us, vi (1 : Int32)] [(.double (FP.l2d (1 : Int64))), (.double (FP.l2d (0 : Int64)))]) _
    refine XS.aloadN X1.here hx rfl (hb hby d4_16) rfl rfl ?_
    show SS p e below T1 (mkF m 17 #[vr r0, vd (FP.l2d (0 : Int64)), us, vi (1 : Int32)] [(.ref r0), (.double (FP.l2d (1 : Int64))), (.double (FP.l2d (0 : Int64)))]) _
    refine st3 _ ?_
    show SS p e below T3 (mkF m 20 #[vr r0, vd (FP.l2d (0 : Int64)), us, vi (1 : Int32)] [(.ref rb), (.double (FP.l2d (1 : Int64))), (.double (FP.l2d (0 : Int64)))]) _
    refine XS.iloadN X3.here hx rfl (hb hby d4_20) rfl ?_
    show SS p e below T3 (mkF m 21 #[vr r0, vd (FP.l2d (0 : Int64)), us, vi (1 : Int32)] [(.int (1 : Int32)), (.ref rb), (.double (FP.l2d (1 : Int64))), (.double (FP.l2d (0 : Int64)))]) _
    refine X3.daload hx (j := (1 : Int32)) (v := (.double (FP.l2d v1))) (own_at e3 Ar4.1) (State.isArrayOf_alike hZ.alike Ar4.2.1) Ar4.2.2 hin4 hat4 (g := (mkF m 21 #[vr r0, vd (FP.l2d (0 : Int64)), us, vi (1 : Int32)] [(.int (1 : Int32)), (.ref rb), (.double (FP.l2d (1 : Int64))), (.double (FP.l2d (0 : Int64)))])) rfl rfl (hb hby d4_21) _ ?_
    show SS p e below T3 (mkF m 22 #[vr r0, vd (FP.l2d (0 : Int64)), us, vi (1 : Int32)] [(.double (FP.l2d v1)), (.double (FP.l2d (1 : Int64))), (.double (FP.l2d (0 : Int64)))]) _
    refine XS.dmulS X3.here hx rfl (hb hby d4_22) rfl (v := (FP.l2d v1)) (nn_w pr1) pr1 ?_
    show SS p e below T3 (mkF m 23 #[vr r0, vd (FP.l2d (0 : Int64)), us, vi (1 : Int32)] [(.double (FP.l2d v1)), (.double (FP.l2d (0 : Int64)))]) _
    refine XS.daddS X3.here hx rfl (hb hby d4_23) rfl (v := (FP.l2d ((0 : Int64) + v1))) (nn_w sm1.1) sm1.1 ?_
    show SS p e below T3 (mkF m 24 #[vr r0, vd (FP.l2d (0 : Int64)), us, vi (1 : Int32)] [(.double (FP.l2d ((0 : Int64) + v1)))]) _
    refine XS.dstoreN X3.here hx rfl (hb hby d4_24) rfl (l' := #[vr r0, vd (FP.l2d ((0 : Int64) + v1)), us, vi (1 : Int32)]) rfl ?_
    show SS p e below T3 (mkF m 25 #[vr r0, vd (FP.l2d ((0 : Int64) + v1)), us, vi (1 : Int32)] []) _
    refine XS.iinc X3.here hx rfl (hb hby d4_25) rfl (l' := #[vr r0, vd (FP.l2d ((0 : Int64) + v1)), us, vi ((1 : Int32) + (1 : Int32))]) rfl ?_
    show SS p e below T3 (mkF m 28 #[vr r0, vd (FP.l2d ((0 : Int64) + v1)), us, vi ((1 : Int32) + (1 : Int32))] []) _
    rw [(by decide : ((1 : Int32) + (1 : Int32)) = (2 : Int32))]
    show SS p e below T3 (mkF m 28 #[vr r0, vd (FP.l2d ((0 : Int64) + v1)), us, vi (2 : Int32)] []) _
    refine XS.goto X3.here hx rfl (pc0 := 28) (pc' := 4) rfl (hb hby d4_28) (by decide) (by decide) ?_
    show SS p e below T3 (mkF m 4 #[vr r0, vd (FP.l2d ((0 : Int64) + v1)), us, vi (2 : Int32)] []) _
    refine XS.iloadN X3.here hx rfl (hb hby d4_4) rfl ?_
    show SS p e below T3 (mkF m 5 #[vr r0, vd (FP.l2d ((0 : Int64) + v1)), us, vi (2 : Int32)] [(.int (2 : Int32))]) _
    refine XS.aloadN X3.here hx rfl (hb hby d4_5) rfl rfl ?_
    show SS p e below T3 (mkF m 6 #[vr r0, vd (FP.l2d ((0 : Int64) + v1)), us, vi (2 : Int32)] [(.ref r0), (.int (2 : Int32))]) _
    refine st5 _ ?_
    show SS p e below T5 (mkF m 9 #[vr r0, vd (FP.l2d ((0 : Int64) + v1)), us, vi (2 : Int32)] [(.ref rb), (.int (2 : Int32))]) _
    refine X5.arraylength hx (own_at e5 Ar6.1) (State.isArrayOf_alike hZ.alike Ar6.2.1) (g := (mkF m 9 #[vr r0, vd (FP.l2d ((0 : Int64) + v1)), us, vi (2 : Int32)] [(.ref rb), (.int (2 : Int32))])) rfl rfl (hb hby d4_9) _ ?_
    rw [len_of S6 Nn6]
    show SS p e below T5 (mkF m 10 #[vr r0, vd (FP.l2d ((0 : Int64) + v1)), us, vi (2 : Int32)] [(.int (4 : Int32)), (.int (2 : Int32))]) _
    refine XS.icmpNo X5.here hx rfl (hb hby d4_10) rfl (tlt (by decide : (2 : Int32) < (4 : Int32))).2.1 ?_
    show SS p e below T5 (mkF m 13 #[vr r0, vd (FP.l2d ((0 : Int64) + v1)), us, vi (2 : Int32)] []) _
    refine XS.dloadN X5.here hx rfl (hb hby d4_13) rfl ?_
    show SS p e below T5 (mkF m 14 #[vr r0, vd (FP.l2d ((0 : Int64) + v1)), us, vi (2 : Int32)] [(.double (FP.l2d ((0 : Int64) + v1)))]) _
    refine XS.iloadN X5.here hx rfl (hb hby d4_14) rfl ?_
    show SS p e below T5 (mkF m 15 #[vr r0, vd (FP.l2d ((0 : Int64) + v1)), us, vi (2 : Int32)] [(.int (2 : Int32)), (.double (FP.l2d ((0 : Int64) + v1)))]) _
    refine XS.i2dS X5.here hx rfl (hb hby d4_15) rfl (v := (FP.l2d (2 : Int64))) (i2d_w _) ?_
    show SS p e below T5 (mkF m 16 #[vr r0, vd (FP.l2d ((0 : Int64) + v1)), us, vi (2 : Int32)] [(.double (FP.l2d (2 : Int64))), (.double (FP.l2d ((0 : Int64) + v1)))]) _
    refine XS.aloadN X5.here hx rfl (hb hby d4_16) rfl rfl ?_
    show SS p e below T5 (mkF m 17 #[vr r0, vd (FP.l2d ((0 : Int64) + v1)), us, vi (2 : Int32)] [(.ref r0), (.double (FP.l2d (2 : Int64))), (.double (FP.l2d ((0 : Int64) + v1)))]) _
    refine st7 _ ?_
    show SS p e below T7 (mkF m 20 #[vr r0, vd (FP.l2d ((0 : Int64) + v1)), us, vi (2 : Int32)] [(.ref rb), (.double (FP.l2d (2 : Int64))), (.double (FP.l2d ((0 : Int64) + v1)))]) _
    refine XS.iloadN X7.here hx rfl (hb hby d4_20) rfl ?_
    show SS p e below T7 (mkF m 21 #[vr r0, vd (FP.l2d ((0 : Int64) + v1)), us, vi (2 : Int32)] [(.int (2 : Int32)), (.ref rb), (.double (FP.l2d (2 : Int64))), (.double (FP.l2d ((0 : Int64) + v1)))]) _
    refine X7.daload hx (j := (2 : Int32)) (v := (.double (FP.l2d v2))) (own_at e7 Ar8.1) (State.isArrayOf_alike hZ.alike Ar8.2.1) Ar8.2.2 hin8 hat8 (g := (mkF m 21 #[vr r0, vd (FP.l2d ((0 : Int64) + v1)), us, vi (2 : Int32)] [(.int (2 : Int32)), (.ref rb), (.double (FP.l2d (2 : Int64))), (.double (FP.l2d ((0 : Int64) + v1)))])) rfl rfl (hb hby d4_21) _ ?_
    show SS p e below T7 (mkF m 22 #[vr r0, vd (FP.l2d ((0 : Int64) + v1)), us, vi (2 : Int32)] [(.double (FP.l2d v2)), (.double (FP.l2d (2 : Int64))), (.double (FP.l2d ((0 : Int64) + v1)))]) _
    refine XS.dmulS X7.here hx rfl (hb hby d4_22) rfl (v := (FP.l2d ((2 : Int64) * v2))) (nn_w pr2) pr2 ?_
    show SS p e below T7 (mkF m 23 #[vr r0, vd (FP.l2d ((0 : Int64) + v1)), us, vi (2 : Int32)] [(.double (FP.l2d ((2 : Int64) * v2))), (.double (FP.l2d ((0 : Int64) + v1)))]) _
    refine XS.daddS X7.here hx rfl (hb hby d4_23) rfl (v := (FP.l2d (((0 : Int64) + v1) + ((2 : Int64) * v2)))) (nn_w sm2.1) sm2.1 ?_
    show SS p e below T7 (mkF m 24 #[vr r0, vd (FP.l2d ((0 : Int64) + v1)), us, vi (2 : Int32)] [(.double (FP.l2d (((0 : Int64) + v1) + ((2 : Int64) * v2))))]) _
    refine XS.dstoreN X7.here hx rfl (hb hby d4_24) rfl (l' := #[vr r0, vd (FP.l2d (((0 : Int64) + v1) + ((2 : Int64) * v2))), us, vi (2 : Int32)]) rfl ?_
    show SS p e below T7 (mkF m 25 #[vr r0, vd (FP.l2d (((0 : Int64) + v1) + ((2 : Int64) * v2))), us, vi (2 : Int32)] []) _
    refine XS.iinc X7.here hx rfl (hb hby d4_25) rfl (l' := #[vr r0, vd (FP.l2d (((0 : Int64) + v1) + ((2 : Int64) * v2))), us, vi ((2 : Int32) + (1 : Int32))]) rfl ?_
    show SS p e below T7 (mkF m 28 #[vr r0, vd (FP.l2d (((0 : Int64) + v1) + ((2 : Int64) * v2))), us, vi ((2 : Int32) + (1 : Int32))] []) _
    rw [(by decide : ((2 : Int32) + (1 : Int32)) = (3 : Int32))]
    show SS p e below T7 (mkF m 28 #[vr r0, vd (FP.l2d (((0 : Int64) + v1) + ((2 : Int64) * v2))), us, vi (3 : Int32)] []) _
    refine XS.goto X7.here hx rfl (pc0 := 28) (pc' := 4) rfl (hb hby d4_28) (by decide) (by decide) ?_
    show SS p e below T7 (mkF m 4 #[vr r0, vd (FP.l2d (((0 : Int64) + v1) + ((2 : Int64) * v2))), us, vi (3 : Int32)] []) _
    refine XS.iloadN X7.here hx rfl (hb hby d4_4) rfl ?_
    show SS p e below T7 (mkF m 5 #[vr r0, vd (FP.l2d (((0 : Int64) + v1) + ((2 : Int64) * v2))), us, vi (3 : Int32)] [(.int (3 : Int32))]) _
    refine XS.aloadN X7.here hx rfl (hb hby d4_5) rfl rfl ?_
    show SS p e below T7 (mkF m 6 #[vr r0, vd (FP.l2d (((0 : Int64) + v1) + ((2 : Int64) * v2))), us, vi (3 : Int32)] [(.ref r0), (.int (3 : Int32))]) _
    refine st9 _ ?_
    show SS p e below T9 (mkF m 9 #[vr r0, vd (FP.l2d (((0 : Int64) + v1) + ((2 : Int64) * v2))), us, vi (3 : Int32)] [(.ref rb), (.int (3 : Int32))]) _
    refine X9.arraylength hx (own_at e9 Ar10.1) (State.isArrayOf_alike hZ.alike Ar10.2.1) (g := (mkF m 9 #[vr r0, vd (FP.l2d (((0 : Int64) + v1) + ((2 : Int64) * v2))), us, vi (3 : Int32)] [(.ref rb), (.int (3 : Int32))])) rfl rfl (hb hby d4_9) _ ?_
    rw [len_of S10 Nn10]
    show SS p e below T9 (mkF m 10 #[vr r0, vd (FP.l2d (((0 : Int64) + v1) + ((2 : Int64) * v2))), us, vi (3 : Int32)] [(.int (4 : Int32)), (.int (3 : Int32))]) _
    refine XS.icmpNo X9.here hx rfl (hb hby d4_10) rfl (tlt (by decide : (3 : Int32) < (4 : Int32))).2.1 ?_
    show SS p e below T9 (mkF m 13 #[vr r0, vd (FP.l2d (((0 : Int64) + v1) + ((2 : Int64) * v2))), us, vi (3 : Int32)] []) _
    refine XS.dloadN X9.here hx rfl (hb hby d4_13) rfl ?_
    show SS p e below T9 (mkF m 14 #[vr r0, vd (FP.l2d (((0 : Int64) + v1) + ((2 : Int64) * v2))), us, vi (3 : Int32)] [(.double (FP.l2d (((0 : Int64) + v1) + ((2 : Int64) * v2))))]) _
    refine XS.iloadN X9.here hx rfl (hb hby d4_14) rfl ?_
    show SS p e below T9 (mkF m 15 #[vr r0, vd (FP.l2d (((0 : Int64) + v1) + ((2 : Int64) * v2))), us, vi (3 : Int32)] [(.int (3 : Int32)), (.double (FP.l2d (((0 : Int64) + v1) + ((2 : Int64) * v2))))]) _
    refine XS.i2dS X9.here hx rfl (hb hby d4_15) rfl (v := (FP.l2d (3 : Int64))) (i2d_w _) ?_
    show SS p e below T9 (mkF m 16 #[vr r0, vd (FP.l2d (((0 : Int64) + v1) + ((2 : Int64) * v2))), us, vi (3 : Int32)] [(.double (FP.l2d (3 : Int64))), (.double (FP.l2d (((0 : Int64) + v1) + ((2 : Int64) * v2))))]) _
    refine XS.aloadN X9.here hx rfl (hb hby d4_16) rfl rfl ?_
    show SS p e below T9 (mkF m 17 #[vr r0, vd (FP.l2d (((0 : Int64) + v1) + ((2 : Int64) * v2))), us, vi (3 : Int32)] [(.ref r0), (.double (FP.l2d (3 : Int64))), (.double (FP.l2d (((0 : Int64) + v1) + ((2 : Int64) * v2))))]) _
    refine st11 _ ?_
    show SS p e below T11 (mkF m 20 #[vr r0, vd (FP.l2d (((0 : Int64) + v1) + ((2 : Int64) * v2))), us, vi (3 : Int32)] [(.ref rb), (.double (FP.l2d (3 : Int64))), (.double (FP.l2d (((0 : Int64) + v1) + ((2 : Int64) * v2))))]) _
    refine XS.iloadN X11.here hx rfl (hb hby d4_20) rfl ?_
    show SS p e below T11 (mkF m 21 #[vr r0, vd (FP.l2d (((0 : Int64) + v1) + ((2 : Int64) * v2))), us, vi (3 : Int32)] [(.int (3 : Int32)), (.ref rb), (.double (FP.l2d (3 : Int64))), (.double (FP.l2d (((0 : Int64) + v1) + ((2 : Int64) * v2))))]) _
    refine X11.daload hx (j := (3 : Int32)) (v := (.double (FP.l2d v3))) (own_at e11 Ar12.1) (State.isArrayOf_alike hZ.alike Ar12.2.1) Ar12.2.2 hin12 hat12 (g := (mkF m 21 #[vr r0, vd (FP.l2d (((0 : Int64) + v1) + ((2 : Int64) * v2))), us, vi (3 : Int32)] [(.int (3 : Int32)), (.ref rb), (.double (FP.l2d (3 : Int64))), (.double (FP.l2d (((0 : Int64) + v1) + ((2 : Int64) * v2))))])) rfl rfl (hb hby d4_21) _ ?_
    show SS p e below T11 (mkF m 22 #[vr r0, vd (FP.l2d (((0 : Int64) + v1) + ((2 : Int64) * v2))), us, vi (3 : Int32)] [(.double (FP.l2d v3)), (.double (FP.l2d (3 : Int64))), (.double (FP.l2d (((0 : Int64) + v1) + ((2 : Int64) * v2))))]) _
    refine XS.dmulS X11.here hx rfl (hb hby d4_22) rfl (v := (FP.l2d ((3 : Int64) * v3))) (nn_w pr3) pr3 ?_
    show SS p e below T11 (mkF m 23 #[vr r0, vd (FP.l2d (((0 : Int64) + v1) + ((2 : Int64) * v2))), us, vi (3 : Int32)] [(.double (FP.l2d ((3 : Int64) * v3))), (.double (FP.l2d (((0 : Int64) + v1) + ((2 : Int64) * v2))))]) _
    refine XS.daddS X11.here hx rfl (hb hby d4_23) rfl (v := (FP.l2d ((((0 : Int64) + v1) + ((2 : Int64) * v2)) + ((3 : Int64) * v3)))) (nn_w sm3.1) sm3.1 ?_
    show SS p e below T11 (mkF m 24 #[vr r0, vd (FP.l2d (((0 : Int64) + v1) + ((2 : Int64) * v2))), us, vi (3 : Int32)] [(.double (FP.l2d ((((0 : Int64) + v1) + ((2 : Int64) * v2)) + ((3 : Int64) * v3))))]) _
    refine XS.dstoreN X11.here hx rfl (hb hby d4_24) rfl (l' := #[vr r0, vd (FP.l2d ((((0 : Int64) + v1) + ((2 : Int64) * v2)) + ((3 : Int64) * v3))), us, vi (3 : Int32)]) rfl ?_
    show SS p e below T11 (mkF m 25 #[vr r0, vd (FP.l2d ((((0 : Int64) + v1) + ((2 : Int64) * v2)) + ((3 : Int64) * v3))), us, vi (3 : Int32)] []) _
    refine XS.iinc X11.here hx rfl (hb hby d4_25) rfl (l' := #[vr r0, vd (FP.l2d ((((0 : Int64) + v1) + ((2 : Int64) * v2)) + ((3 : Int64) * v3))), us, vi ((3 : Int32) + (1 : Int32))]) rfl ?_
    show SS p e below T11 (mkF m 28 #[vr r0, vd (FP.l2d ((((0 : Int64) + v1) + ((2 : Int64) * v2)) + ((3 : Int64) * v3))), us, vi ((3 : Int32) + (1 : Int32))] []) _
    rw [(by decide : ((3 : Int32) + (1 : Int32)) = (4 : Int32))]
    show SS p e below T11 (mkF m 28 #[vr r0, vd (FP.l2d ((((0 : Int64) + v1) + ((2 : Int64) * v2)) + ((3 : Int64) * v3))), us, vi (4 : Int32)] []) _
    refine XS.goto X11.here hx rfl (pc0 := 28) (pc' := 4) rfl (hb hby d4_28) (by decide) (by decide) ?_
    show SS p e below T11 (mkF m 4 #[vr r0, vd (FP.l2d ((((0 : Int64) + v1) + ((2 : Int64) * v2)) + ((3 : Int64) * v3))), us, vi (4 : Int32)] []) _
    refine XS.iloadN X11.here hx rfl (hb hby d4_4) rfl ?_
    show SS p e below T11 (mkF m 5 #[vr r0, vd (FP.l2d ((((0 : Int64) + v1) + ((2 : Int64) * v2)) + ((3 : Int64) * v3))), us, vi (4 : Int32)] [(.int (4 : Int32))]) _
    refine XS.aloadN X11.here hx rfl (hb hby d4_5) rfl rfl ?_
    show SS p e below T11 (mkF m 6 #[vr r0, vd (FP.l2d ((((0 : Int64) + v1) + ((2 : Int64) * v2)) + ((3 : Int64) * v3))), us, vi (4 : Int32)] [(.ref r0), (.int (4 : Int32))]) _
    refine st13 _ ?_
    show SS p e below T13 (mkF m 9 #[vr r0, vd (FP.l2d ((((0 : Int64) + v1) + ((2 : Int64) * v2)) + ((3 : Int64) * v3))), us, vi (4 : Int32)] [(.ref rb), (.int (4 : Int32))]) _
    refine X13.arraylength hx (own_at e13 Ar14.1) (State.isArrayOf_alike hZ.alike Ar14.2.1) (g := (mkF m 9 #[vr r0, vd (FP.l2d ((((0 : Int64) + v1) + ((2 : Int64) * v2)) + ((3 : Int64) * v3))), us, vi (4 : Int32)] [(.ref rb), (.int (4 : Int32))])) rfl rfl (hb hby d4_9) _ ?_
    rw [len_of S14 Nn14]
    show SS p e below T13 (mkF m 10 #[vr r0, vd (FP.l2d ((((0 : Int64) + v1) + ((2 : Int64) * v2)) + ((3 : Int64) * v3))), us, vi (4 : Int32)] [(.int (4 : Int32)), (.int (4 : Int32))]) _
    refine XS.icmpYes X13.here hx rfl (pc0 := 10) (pc' := 31) rfl (hb hby d4_10) rfl (flt (by decide : ¬ ((4 : Int32) < (4 : Int32)))).2.1 (by decide) (by decide) ?_
    show SS p e below T13 (mkF m 31 #[vr r0, vd (FP.l2d ((((0 : Int64) + v1) + ((2 : Int64) * v2)) + ((3 : Int64) * v3))), us, vi (4 : Int32)] []) _
    refine XS.dloadN X13.here hx rfl (hb hby d4_31) rfl ?_
    show SS p e below T13 (mkF m 32 #[vr r0, vd (FP.l2d ((((0 : Int64) + v1) + ((2 : Int64) * v2)) + ((3 : Int64) * v3))), us, vi (4 : Int32)] [(.double (FP.l2d ((((0 : Int64) + v1) + ((2 : Int64) * v2)) + ((3 : Int64) * v3))))]) _
    refine XS.aloadN X13.here hx rfl (hb hby d4_32) rfl rfl ?_
    show SS p e below T13 (mkF m 33 #[vr r0, vd (FP.l2d ((((0 : Int64) + v1) + ((2 : Int64) * v2)) + ((3 : Int64) * v3))), us, vi (4 : Int32)] [(.ref r0), (.double (FP.l2d ((((0 : Int64) + v1) + ((2 : Int64) * v2)) + ((3 : Int64) * v3))))]) _
    refine st15 _ ?_
    show SS p e below T15 (mkF m 36 #[vr r0, vd (FP.l2d ((((0 : Int64) + v1) + ((2 : Int64) * v2)) + ((3 : Int64) * v3))), us, vi (4 : Int32)] [(.double (FP.l2d vt)), (.double (FP.l2d ((((0 : Int64) + v1) + ((2 : Int64) * v2)) + ((3 : Int64) * v3))))]) _
    refine XS.ddivS X15.here hx rfl (hb hby d4_36) rfl (v := (FP.ddiv (FP.l2d ((((0 : Int64) + v1) + ((2 : Int64) * v2)) + ((3 : Int64) * v3))) (FP.l2d vt))) (own_dnn _ unz) rfl ?_
    show SS p e below T15 (mkF m 37 #[vr r0, vd (FP.l2d ((((0 : Int64) + v1) + ((2 : Int64) * v2)) + ((3 : Int64) * v3))), us, vi (4 : Int32)] [(.double (FP.ddiv (FP.l2d ((((0 : Int64) + v1) + ((2 : Int64) * v2)) + ((3 : Int64) * v3))) (FP.l2d vt)))]) _
    exact retOut X15 hx Bd.returns rfl (Or.inr (Or.inr (Or.inl ⟨rfl, rfl, _, rfl⟩))) (hb hby d4_37) hr
  · show Q_rmM4 Z r0 rb kb vt v0 v1 v2 v3 h0 n0 _ T15.heap _
    rw [e15]
    exact ⟨rfl, N0, rfl⟩
theorem ef_9 (m : MethodId) (x0 : Int32) (x1 : Int32) (x2 : Int32) (x3 : Int32) (x4 : Int32) (x5 : Int32) : entryFrame m #[(.int x0), (.int x1), (.int x2), (.int x3), (.int x4), (.int x5)] maxLocals = mkF m 0 #[vi x0, vi x1, vi x2, vi x3, vi x4, vi x5, uu, uu, uu, uu, uu, uu, uu, uu, uu, uu, uu, uu, uu, uu, uu, uu, uu, uu, uu] [] := by first | (simp [entryFrame, mkF, argsToLocals, Value.category, maxLocals]; done) | rfl
theorem pd_3 : parseMethodDescriptor "(IDDDD)[D" = some ⟨[.int, .double, .double, .double, .double], some (.array .double)⟩ := by decide +kernel
theorem pd_4 : parseMethodDescriptor "([DD)V" = some ⟨[(.array .double), .double], none⟩ := by decide +kernel
theorem pd_5 : parseMethodDescriptor "()D" = some ⟨[], some .double⟩ := by decide +kernel
def Q_rm0 (Z : State) (p0 : Int32) (p1 : Int32) (p2 : Int32) (p3 : Int32) (p4 : Int32) (p5 : Int32) (w0 : Int64) (w1 : Int64) (w2 : Int64) (w3 : Int64) (vt : Int64) (vN : Int32) (h0 : Heap) (n0 : Nat) (v : Option Value) (h : Heap) (L : List Loc) : Prop := (v = some (.int 1) ∧ Fr n0 L)
set_option maxRecDepth 65536 in
set_option maxHeartbeats 40000000 in
theorem rm0 (l : Launch) (Z : State) (a0 : Array Value) (hw : ∀ d ∈ tables_1, d.before a0 Z = true) (ws : List Jvm.Cond) (p0 : Int32) (p1 : Int32) (p2 : Int32) (p3 : Int32) (p4 : Int32) (p5 : Int32) (w0 : Int64) (w1 : Int64) (w2 : Int64) (w3 : Int64) (vt : Int64) (vN : Int32) (h0 : Heap) (n0 : Nat) (Z0 : n0 ≤ h0.size) (uN : ((p0 &&& (2147483647 : Int32)) % (5 : Int32)) = vN) (ud0 : (p1 &&& (2147483647 : Int32)).toInt64 = w0) (ud1 : (p2 &&& (2147483647 : Int32)).toInt64 = w1) (ud2 : (p3 &&& (2147483647 : Int32)).toInt64 = w2) (ud3 : (p4 &&& (2147483647 : Int32)).toInt64 = w3) (ue : ((p5 &&& (2147483647 : Int32)).toInt64 + (1 : Int64)) = vt) (unz : vt ≠ 0) (u5 : vN = (0 : Int32) ∨ vN = (1 : Int32) ∨ vN = (2 : Int32) ∨ vN = (3 : Int32) ∨ vN = (4 : Int32)) (uz_w0 : 0 ≤ w0.toInt) (ut_w0 : w0.toInt < 2147483648) (uz_w1 : 0 ≤ w1.toInt) (ut_w1 : w1.toInt < 2147483648) (uz_w2 : 0 ≤ w2.toInt) (ut_w2 : w2.toInt < 2147483648) (uz_w3 : 0 ≤ w3.toInt) (ut_w3 : w3.toInt < 2147483648) :
    MetFree l x (head1 (Jvm.Cond.code x code maxLocals ret :: ws) room_1) (fun a U => a = #[(.int p0), (.int p1), (.int p2), (.int p3), (.int p4), (.int p5)] ∧ Z.Warmed39 U.vm ∧ U.heap = h0) (fun _ _ _ _ _ => True) (fun _ U o U' => ∃ v L, o = .returned v ∧ Q_rm0 Z p0 p1 p2 p3 p4 p5 w0 w1 w2 w3 vt vN h0 n0 v U'.heap L ∧ FrameEnd U o U' L room_1.cells room_1.slots) := by
  refine MetFree.of_bodySF (plainFor_of_name pn_2) hisR ?_
  intro p e s m args below meth c s₁ Bd hml0 hP hK
  obtain ⟨rfl, hZ, hh⟩ := hP
  have hx := Bd.exec
  have hby := Bd.bytes
  have hml : c.maxLocals = 25 := hml0
  have hown : s.vm.findClass "org/quarrel/model/DistributionMeanPinLaw" = some m.cls := findClass_of_methodNamed Bd.named
  have hnm := (name_of_methodNamed Bd.named Bd.method).1
  have X0 : Stand p l e room_1 s m #[(.int p0), (.int p1), (.int p2), (.int p3), (.int p4), (.int p5)] below meth c s₁ [] 0 0 := Stand.of_body Bd
  have e0 : s₁.heap = h0 := by rw [← hh, Bd.state]; rfl
  have N0 := Fr.nil n0
  have pre0 : ∀ t, Steps p.tables e below (s₁.setTop (mkF m 0 #[vi p0, vi p1, vi p2, vi p3, vi p4, vi p5, uu, uu, uu, uu, uu, uu, uu, uu, uu, uu, uu, uu, uu, uu, uu, uu, uu, uu, uu] [])) t → Steps p.tables e below (s₁.setTop (entryFrame m #[(.int p0), (.int p1), (.int p2), (.int p3), (.int p4), (.int p5)] maxLocals)) t := fun t k => castTop (ef_9 m p0 p1 p2 p3 p4 p5) k
  have sg1 : ∀ target, SS p e below s₁ (mkF m 61 #[vi p0, vi p1, vi p2, vi p3, vi p4, vi p5, vi vN, vl w0, us, vl w1, us, vl w2, us, vl w3, us, vl vt, us, uu, uu, uu, uu, uu, uu, uu, uu] [(.double (FP.l2d w3)), (.double (FP.l2d w2)), (.double (FP.l2d w1)), (.double (FP.l2d w0)), (.int vN)]) target → SS p e below s₁ (mkF m 0 #[vi p0, vi p1, vi p2, vi p3, vi p4, vi p5, uu, uu, uu, uu, uu, uu, uu, uu, uu, uu, uu, uu, uu, uu, uu, uu, uu, uu, uu] []) target := by
    intro target kt
    show SS p e below s₁ (mkF m 0 #[vi p0, vi p1, vi p2, vi p3, vi p4, vi p5, uu, uu, uu, uu, uu, uu, uu, uu, uu, uu, uu, uu, uu, uu, uu, uu, uu, uu, uu] []) _
    refine XS.iloadN X0.here hx rfl (hb hby at_0) rfl ?_
    show SS p e below s₁ (mkF m 1 #[vi p0, vi p1, vi p2, vi p3, vi p4, vi p5, uu, uu, uu, uu, uu, uu, uu, uu, uu, uu, uu, uu, uu, uu, uu, uu, uu, uu, uu] [(.int p0)]) _
    refine X0.ldcInt hx hown (mvT hZ (wd hw 0 rfl)) (g := (mkF m 1 #[vi p0, vi p1, vi p2, vi p3, vi p4, vi p5, uu, uu, uu, uu, uu, uu, uu, uu, uu, uu, uu, uu, uu, uu, uu, uu, uu, uu, uu] [(.int p0)])) rfl (hb hby at_1) _ ?_
    show SS p e below s₁ (mkF m 3 #[vi p0, vi p1, vi p2, vi p3, vi p4, vi p5, uu, uu, uu, uu, uu, uu, uu, uu, uu, uu, uu, uu, uu, uu, uu, uu, uu, uu, uu] [(.int (2147483647 : Int32)), (.int p0)]) _
    refine XS.iand X0.here hx rfl (hb hby at_3) rfl ?_
    show SS p e below s₁ (mkF m 4 #[vi p0, vi p1, vi p2, vi p3, vi p4, vi p5, uu, uu, uu, uu, uu, uu, uu, uu, uu, uu, uu, uu, uu, uu, uu, uu, uu, uu, uu] [(.int (p0 &&& (2147483647 : Int32)))]) _
    refine XS.iconst X0.here hx rfl (hb hby at_4) ?_
    show SS p e below s₁ (mkF m 5 #[vi p0, vi p1, vi p2, vi p3, vi p4, vi p5, uu, uu, uu, uu, uu, uu, uu, uu, uu, uu, uu, uu, uu, uu, uu, uu, uu, uu, uu] [(.int (5 : Int32)), (.int (p0 &&& (2147483647 : Int32)))]) _
    refine iremM X0 hx rfl (hb hby at_5) rfl (by decide) ?_
    show SS p e below s₁ (mkF m 6 #[vi p0, vi p1, vi p2, vi p3, vi p4, vi p5, uu, uu, uu, uu, uu, uu, uu, uu, uu, uu, uu, uu, uu, uu, uu, uu, uu, uu, uu] [(.int ((p0 &&& (2147483647 : Int32)) % (5 : Int32)))]) _
    rw [uN]
    show SS p e below s₁ (mkF m 6 #[vi p0, vi p1, vi p2, vi p3, vi p4, vi p5, uu, uu, uu, uu, uu, uu, uu, uu, uu, uu, uu, uu, uu, uu, uu, uu, uu, uu, uu] [(.int vN)]) _
    refine XS.istore X0.here hx rfl (hb hby at_6) rfl (l' := #[vi p0, vi p1, vi p2, vi p3, vi p4, vi p5, vi vN, uu, uu, uu, uu, uu, uu, uu, uu, uu, uu, uu, uu, uu, uu, uu, uu, uu, uu]) rfl ?_
    show SS p e below s₁ (mkF m 8 #[vi p0, vi p1, vi p2, vi p3, vi p4, vi p5, vi vN, uu, uu, uu, uu, uu, uu, uu, uu, uu, uu, uu, uu, uu, uu, uu, uu, uu, uu] []) _
    refine XS.iloadN X0.here hx rfl (hb hby at_8) rfl ?_
    show SS p e below s₁ (mkF m 9 #[vi p0, vi p1, vi p2, vi p3, vi p4, vi p5, vi vN, uu, uu, uu, uu, uu, uu, uu, uu, uu, uu, uu, uu, uu, uu, uu, uu, uu, uu] [(.int p1)]) _
    refine X0.ldcInt hx hown (mvT hZ (wd hw 0 rfl)) (g := (mkF m 9 #[vi p0, vi p1, vi p2, vi p3, vi p4, vi p5, vi vN, uu, uu, uu, uu, uu, uu, uu, uu, uu, uu, uu, uu, uu, uu, uu, uu, uu, uu] [(.int p1)])) rfl (hb hby at_9) _ ?_
    show SS p e below s₁ (mkF m 11 #[vi p0, vi p1, vi p2, vi p3, vi p4, vi p5, vi vN, uu, uu, uu, uu, uu, uu, uu, uu, uu, uu, uu, uu, uu, uu, uu, uu, uu, uu] [(.int (2147483647 : Int32)), (.int p1)]) _
    refine XS.iand X0.here hx rfl (hb hby at_11) rfl ?_
    show SS p e below s₁ (mkF m 12 #[vi p0, vi p1, vi p2, vi p3, vi p4, vi p5, vi vN, uu, uu, uu, uu, uu, uu, uu, uu, uu, uu, uu, uu, uu, uu, uu, uu, uu, uu] [(.int (p1 &&& (2147483647 : Int32)))]) _
    refine XS.i2l X0.here hx rfl (hb hby at_12) rfl ?_
    show SS p e below s₁ (mkF m 13 #[vi p0, vi p1, vi p2, vi p3, vi p4, vi p5, vi vN, uu, uu, uu, uu, uu, uu, uu, uu, uu, uu, uu, uu, uu, uu, uu, uu, uu, uu] [(.long ((p1 &&& (2147483647 : Int32)).toInt64))]) _
    rw [ud0]
    show SS p e below s₁ (mkF m 13 #[vi p0, vi p1, vi p2, vi p3, vi p4, vi p5, vi vN, uu, uu, uu, uu, uu, uu, uu, uu, uu, uu, uu, uu, uu, uu, uu, uu, uu, uu] [(.long w0)]) _
    refine XS.lstore X0.here hx rfl (hb hby at_13) rfl (l' := #[vi p0, vi p1, vi p2, vi p3, vi p4, vi p5, vi vN, vl w0, us, uu, uu, uu, uu, uu, uu, uu, uu, uu, uu, uu, uu, uu, uu, uu, uu]) rfl ?_
    show SS p e below s₁ (mkF m 15 #[vi p0, vi p1, vi p2, vi p3, vi p4, vi p5, vi vN, vl w0, us, uu, uu, uu, uu, uu, uu, uu, uu, uu, uu, uu, uu, uu, uu, uu, uu] []) _
    refine XS.iloadN X0.here hx rfl (hb hby at_15) rfl ?_
    show SS p e below s₁ (mkF m 16 #[vi p0, vi p1, vi p2, vi p3, vi p4, vi p5, vi vN, vl w0, us, uu, uu, uu, uu, uu, uu, uu, uu, uu, uu, uu, uu, uu, uu, uu, uu] [(.int p2)]) _
    refine X0.ldcInt hx hown (mvT hZ (wd hw 0 rfl)) (g := (mkF m 16 #[vi p0, vi p1, vi p2, vi p3, vi p4, vi p5, vi vN, vl w0, us, uu, uu, uu, uu, uu, uu, uu, uu, uu, uu, uu, uu, uu, uu, uu, uu] [(.int p2)])) rfl (hb hby at_16) _ ?_
    show SS p e below s₁ (mkF m 18 #[vi p0, vi p1, vi p2, vi p3, vi p4, vi p5, vi vN, vl w0, us, uu, uu, uu, uu, uu, uu, uu, uu, uu, uu, uu, uu, uu, uu, uu, uu] [(.int (2147483647 : Int32)), (.int p2)]) _
    refine XS.iand X0.here hx rfl (hb hby at_18) rfl ?_
    show SS p e below s₁ (mkF m 19 #[vi p0, vi p1, vi p2, vi p3, vi p4, vi p5, vi vN, vl w0, us, uu, uu, uu, uu, uu, uu, uu, uu, uu, uu, uu, uu, uu, uu, uu, uu] [(.int (p2 &&& (2147483647 : Int32)))]) _
    refine XS.i2l X0.here hx rfl (hb hby at_19) rfl ?_
    show SS p e below s₁ (mkF m 20 #[vi p0, vi p1, vi p2, vi p3, vi p4, vi p5, vi vN, vl w0, us, uu, uu, uu, uu, uu, uu, uu, uu, uu, uu, uu, uu, uu, uu, uu, uu] [(.long ((p2 &&& (2147483647 : Int32)).toInt64))]) _
    rw [ud1]
    show SS p e below s₁ (mkF m 20 #[vi p0, vi p1, vi p2, vi p3, vi p4, vi p5, vi vN, vl w0, us, uu, uu, uu, uu, uu, uu, uu, uu, uu, uu, uu, uu, uu, uu, uu, uu] [(.long w1)]) _
    refine XS.lstore X0.here hx rfl (hb hby at_20) rfl (l' := #[vi p0, vi p1, vi p2, vi p3, vi p4, vi p5, vi vN, vl w0, us, vl w1, us, uu, uu, uu, uu, uu, uu, uu, uu, uu, uu, uu, uu, uu, uu]) rfl ?_
    show SS p e below s₁ (mkF m 22 #[vi p0, vi p1, vi p2, vi p3, vi p4, vi p5, vi vN, vl w0, us, vl w1, us, uu, uu, uu, uu, uu, uu, uu, uu, uu, uu, uu, uu, uu, uu] []) _
    refine XS.iloadN X0.here hx rfl (hb hby at_22) rfl ?_
    show SS p e below s₁ (mkF m 23 #[vi p0, vi p1, vi p2, vi p3, vi p4, vi p5, vi vN, vl w0, us, vl w1, us, uu, uu, uu, uu, uu, uu, uu, uu, uu, uu, uu, uu, uu, uu] [(.int p3)]) _
    refine X0.ldcInt hx hown (mvT hZ (wd hw 0 rfl)) (g := (mkF m 23 #[vi p0, vi p1, vi p2, vi p3, vi p4, vi p5, vi vN, vl w0, us, vl w1, us, uu, uu, uu, uu, uu, uu, uu, uu, uu, uu, uu, uu, uu, uu] [(.int p3)])) rfl (hb hby at_23) _ ?_
    show SS p e below s₁ (mkF m 25 #[vi p0, vi p1, vi p2, vi p3, vi p4, vi p5, vi vN, vl w0, us, vl w1, us, uu, uu, uu, uu, uu, uu, uu, uu, uu, uu, uu, uu, uu, uu] [(.int (2147483647 : Int32)), (.int p3)]) _
    refine XS.iand X0.here hx rfl (hb hby at_25) rfl ?_
    show SS p e below s₁ (mkF m 26 #[vi p0, vi p1, vi p2, vi p3, vi p4, vi p5, vi vN, vl w0, us, vl w1, us, uu, uu, uu, uu, uu, uu, uu, uu, uu, uu, uu, uu, uu, uu] [(.int (p3 &&& (2147483647 : Int32)))]) _
    refine XS.i2l X0.here hx rfl (hb hby at_26) rfl ?_
    show SS p e below s₁ (mkF m 27 #[vi p0, vi p1, vi p2, vi p3, vi p4, vi p5, vi vN, vl w0, us, vl w1, us, uu, uu, uu, uu, uu, uu, uu, uu, uu, uu, uu, uu, uu, uu] [(.long ((p3 &&& (2147483647 : Int32)).toInt64))]) _
    rw [ud2]
    show SS p e below s₁ (mkF m 27 #[vi p0, vi p1, vi p2, vi p3, vi p4, vi p5, vi vN, vl w0, us, vl w1, us, uu, uu, uu, uu, uu, uu, uu, uu, uu, uu, uu, uu, uu, uu] [(.long w2)]) _
    refine XS.lstore X0.here hx rfl (hb hby at_27) rfl (l' := #[vi p0, vi p1, vi p2, vi p3, vi p4, vi p5, vi vN, vl w0, us, vl w1, us, vl w2, us, uu, uu, uu, uu, uu, uu, uu, uu, uu, uu, uu, uu]) rfl ?_
    show SS p e below s₁ (mkF m 29 #[vi p0, vi p1, vi p2, vi p3, vi p4, vi p5, vi vN, vl w0, us, vl w1, us, vl w2, us, uu, uu, uu, uu, uu, uu, uu, uu, uu, uu, uu, uu] []) _
    refine XS.iload X0.here hx rfl (hb hby at_29) rfl ?_
    show SS p e below s₁ (mkF m 31 #[vi p0, vi p1, vi p2, vi p3, vi p4, vi p5, vi vN, vl w0, us, vl w1, us, vl w2, us, uu, uu, uu, uu, uu, uu, uu, uu, uu, uu, uu, uu] [(.int p4)]) _
    refine X0.ldcInt hx hown (mvT hZ (wd hw 0 rfl)) (g := (mkF m 31 #[vi p0, vi p1, vi p2, vi p3, vi p4, vi p5, vi vN, vl w0, us, vl w1, us, vl w2, us, uu, uu, uu, uu, uu, uu, uu, uu, uu, uu, uu, uu] [(.int p4)])) rfl (hb hby at_31) _ ?_
    show SS p e below s₁ (mkF m 33 #[vi p0, vi p1, vi p2, vi p3, vi p4, vi p5, vi vN, vl w0, us, vl w1, us, vl w2, us, uu, uu, uu, uu, uu, uu, uu, uu, uu, uu, uu, uu] [(.int (2147483647 : Int32)), (.int p4)]) _
    refine XS.iand X0.here hx rfl (hb hby at_33) rfl ?_
    show SS p e below s₁ (mkF m 34 #[vi p0, vi p1, vi p2, vi p3, vi p4, vi p5, vi vN, vl w0, us, vl w1, us, vl w2, us, uu, uu, uu, uu, uu, uu, uu, uu, uu, uu, uu, uu] [(.int (p4 &&& (2147483647 : Int32)))]) _
    refine XS.i2l X0.here hx rfl (hb hby at_34) rfl ?_
    show SS p e below s₁ (mkF m 35 #[vi p0, vi p1, vi p2, vi p3, vi p4, vi p5, vi vN, vl w0, us, vl w1, us, vl w2, us, uu, uu, uu, uu, uu, uu, uu, uu, uu, uu, uu, uu] [(.long ((p4 &&& (2147483647 : Int32)).toInt64))]) _
    rw [ud3]
    show SS p e below s₁ (mkF m 35 #[vi p0, vi p1, vi p2, vi p3, vi p4, vi p5, vi vN, vl w0, us, vl w1, us, vl w2, us, uu, uu, uu, uu, uu, uu, uu, uu, uu, uu, uu, uu] [(.long w3)]) _
    refine XS.lstore X0.here hx rfl (hb hby at_35) rfl (l' := #[vi p0, vi p1, vi p2, vi p3, vi p4, vi p5, vi vN, vl w0, us, vl w1, us, vl w2, us, vl w3, us, uu, uu, uu, uu, uu, uu, uu, uu, uu, uu]) rfl ?_
    show SS p e below s₁ (mkF m 37 #[vi p0, vi p1, vi p2, vi p3, vi p4, vi p5, vi vN, vl w0, us, vl w1, us, vl w2, us, vl w3, us, uu, uu, uu, uu, uu, uu, uu, uu, uu, uu] []) _
    refine XS.iload X0.here hx rfl (hb hby at_37) rfl ?_
    show SS p e below s₁ (mkF m 39 #[vi p0, vi p1, vi p2, vi p3, vi p4, vi p5, vi vN, vl w0, us, vl w1, us, vl w2, us, vl w3, us, uu, uu, uu, uu, uu, uu, uu, uu, uu, uu] [(.int p5)]) _
    refine X0.ldcInt hx hown (mvT hZ (wd hw 0 rfl)) (g := (mkF m 39 #[vi p0, vi p1, vi p2, vi p3, vi p4, vi p5, vi vN, vl w0, us, vl w1, us, vl w2, us, vl w3, us, uu, uu, uu, uu, uu, uu, uu, uu, uu, uu] [(.int p5)])) rfl (hb hby at_39) _ ?_
    show SS p e below s₁ (mkF m 41 #[vi p0, vi p1, vi p2, vi p3, vi p4, vi p5, vi vN, vl w0, us, vl w1, us, vl w2, us, vl w3, us, uu, uu, uu, uu, uu, uu, uu, uu, uu, uu] [(.int (2147483647 : Int32)), (.int p5)]) _
    refine XS.iand X0.here hx rfl (hb hby at_41) rfl ?_
    show SS p e below s₁ (mkF m 42 #[vi p0, vi p1, vi p2, vi p3, vi p4, vi p5, vi vN, vl w0, us, vl w1, us, vl w2, us, vl w3, us, uu, uu, uu, uu, uu, uu, uu, uu, uu, uu] [(.int (p5 &&& (2147483647 : Int32)))]) _
    refine XS.i2l X0.here hx rfl (hb hby at_42) rfl ?_
    show SS p e below s₁ (mkF m 43 #[vi p0, vi p1, vi p2, vi p3, vi p4, vi p5, vi vN, vl w0, us, vl w1, us, vl w2, us, vl w3, us, uu, uu, uu, uu, uu, uu, uu, uu, uu, uu] [(.long ((p5 &&& (2147483647 : Int32)).toInt64))]) _
    refine XS.lconst X0.here hx rfl (hb hby at_43) ?_
    show SS p e below s₁ (mkF m 44 #[vi p0, vi p1, vi p2, vi p3, vi p4, vi p5, vi vN, vl w0, us, vl w1, us, vl w2, us, vl w3, us, uu, uu, uu, uu, uu, uu, uu, uu, uu, uu] [(.long (1 : Int64)), (.long ((p5 &&& (2147483647 : Int32)).toInt64))]) _
    refine XS.ladd X0.here hx rfl (hb hby at_44) rfl ?_
    show SS p e below s₁ (mkF m 45 #[vi p0, vi p1, vi p2, vi p3, vi p4, vi p5, vi vN, vl w0, us, vl w1, us, vl w2, us, vl w3, us, uu, uu, uu, uu, uu, uu, uu, uu, uu, uu] [(.long (((p5 &&& (2147483647 : Int32)).toInt64) + (1 : Int64)))]) _
    rw [ue]
    show SS p e below s₁ (mkF m 45 #[vi p0, vi p1, vi p2, vi p3, vi p4, vi p5, vi vN, vl w0, us, vl w1, us, vl w2, us, vl w3, us, uu, uu, uu, uu, uu, uu, uu, uu, uu, uu] [(.long vt)]) _
    refine XS.lstore X0.here hx rfl (hb hby at_45) rfl (l' := #[vi p0, vi p1, vi p2, vi p3, vi p4, vi p5, vi vN, vl w0, us, vl w1, us, vl w2, us, vl w3, us, vl vt, us, uu, uu, uu, uu, uu, uu, uu, uu]) rfl ?_
    show SS p e below s₁ (mkF m 47 #[vi p0, vi p1, vi p2, vi p3, vi p4, vi p5, vi vN, vl w0, us, vl w1, us, vl w2, us, vl w3, us, vl vt, us, uu, uu, uu, uu, uu, uu, uu, uu] []) _
    refine XS.iload X0.here hx rfl (hb hby at_47) rfl ?_
    show SS p e below s₁ (mkF m 49 #[vi p0, vi p1, vi p2, vi p3, vi p4, vi p5, vi vN, vl w0, us, vl w1, us, vl w2, us, vl w3, us, vl vt, us, uu, uu, uu, uu, uu, uu, uu, uu] [(.int vN)]) _
    refine XS.lload X0.here hx rfl (hb hby at_49) rfl ?_
    show SS p e below s₁ (mkF m 51 #[vi p0, vi p1, vi p2, vi p3, vi p4, vi p5, vi vN, vl w0, us, vl w1, us, vl w2, us, vl w3, us, vl vt, us, uu, uu, uu, uu, uu, uu, uu, uu] [(.long w0), (.int vN)]) _
    refine XS.l2dS X0.here hx rfl (hb hby at_51) rfl (v := (FP.l2d w0)) rfl ?_
    show SS p e below s₁ (mkF m 52 #[vi p0, vi p1, vi p2, vi p3, vi p4, vi p5, vi vN, vl w0, us, vl w1, us, vl w2, us, vl w3, us, vl vt, us, uu, uu, uu, uu, uu, uu, uu, uu] [(.double (FP.l2d w0)), (.int vN)]) _
    refine XS.lload X0.here hx rfl (hb hby at_52) rfl ?_
    show SS p e below s₁ (mkF m 54 #[vi p0, vi p1, vi p2, vi p3, vi p4, vi p5, vi vN, vl w0, us, vl w1, us, vl w2, us, vl w3, us, vl vt, us, uu, uu, uu, uu, uu, uu, uu, uu] [(.long w1), (.double (FP.l2d w0)), (.int vN)]) _
    refine XS.l2dS X0.here hx rfl (hb hby at_54) rfl (v := (FP.l2d w1)) rfl ?_
    show SS p e below s₁ (mkF m 55 #[vi p0, vi p1, vi p2, vi p3, vi p4, vi p5, vi vN, vl w0, us, vl w1, us, vl w2, us, vl w3, us, vl vt, us, uu, uu, uu, uu, uu, uu, uu, uu] [(.double (FP.l2d w1)), (.double (FP.l2d w0)), (.int vN)]) _
    refine XS.lload X0.here hx rfl (hb hby at_55) rfl ?_
    show SS p e below s₁ (mkF m 57 #[vi p0, vi p1, vi p2, vi p3, vi p4, vi p5, vi vN, vl w0, us, vl w1, us, vl w2, us, vl w3, us, vl vt, us, uu, uu, uu, uu, uu, uu, uu, uu] [(.long w2), (.double (FP.l2d w1)), (.double (FP.l2d w0)), (.int vN)]) _
    refine XS.l2dS X0.here hx rfl (hb hby at_57) rfl (v := (FP.l2d w2)) rfl ?_
    show SS p e below s₁ (mkF m 58 #[vi p0, vi p1, vi p2, vi p3, vi p4, vi p5, vi vN, vl w0, us, vl w1, us, vl w2, us, vl w3, us, vl vt, us, uu, uu, uu, uu, uu, uu, uu, uu] [(.double (FP.l2d w2)), (.double (FP.l2d w1)), (.double (FP.l2d w0)), (.int vN)]) _
    refine XS.lload X0.here hx rfl (hb hby at_58) rfl ?_
    show SS p e below s₁ (mkF m 60 #[vi p0, vi p1, vi p2, vi p3, vi p4, vi p5, vi vN, vl w0, us, vl w1, us, vl w2, us, vl w3, us, vl vt, us, uu, uu, uu, uu, uu, uu, uu, uu] [(.long w3), (.double (FP.l2d w2)), (.double (FP.l2d w1)), (.double (FP.l2d w0)), (.int vN)]) _
    refine XS.l2dS X0.here hx rfl (hb hby at_60) rfl (v := (FP.l2d w3)) rfl ?_
    exact kt
  rcases u5 with rfl | rfl | rfl | rfl | rfl
  · obtain ⟨_, _, ⟨T2, L2, k2, n2⟩, -, X2, ⟨Lc2, hQ2, l2, y2, z2⟩, st2⟩ := Jvm.LawKit.callS X0 hx (y := (⟨"org/quarrel/model/DistributionMeanPinLaw", "weights", "(IDDDD)[D"⟩ : MethodName)) hown (mvT hZ (wd hw 1 rfl)) (mvT hZ (wd hw 2 rfl)) (mvT hZ (wd hw 3 rfl)) (mvT hZ (wd hw 4 rfl)) (by decide) (backOf (W := 0) (rmW0 l Z a0 hw [] (FP.l2d w0) (FP.l2d w1) (FP.l2d w2) (FP.l2d w3) h0 n0 Z0) hZ (wd hw 4 rfl) (wd hw 3 rfl) (by decide) (by decide)) (g := (mkF m 61 #[vi p0, vi p1, vi p2, vi p3, vi p4, vi p5, vi (0 : Int32), vl w0, us, vl w1, us, vl w2, us, vl w3, us, vl vt, us, uu, uu, uu, uu, uu, uu, uu, uu] [(.double (FP.l2d w3)), (.double (FP.l2d w2)), (.double (FP.l2d w1)), (.double (FP.l2d w0)), (.int (0 : Int32))])) rfl (by rw [hml]; rfl) (argsL := [(.int (0 : Int32)), (.double (FP.l2d w0)), (.double (FP.l2d w1)), (.double (FP.l2d w2)), (.double (FP.l2d w3))]) (rest := []) (lenOf pd_3 rfl) rfl (by show 2 * 0 + _ ≤ _; exact Nat.le_of_eq rfl) (hb hby at_61) (fun _ _ => ⟨rfl, e0, (by decide : 0 + 1 ≤ _), (by decide : 0 + 0 ≤ _)⟩)
    dsimp only [Pt.U, Pt.locs, Pt.cells, Pt.slots] at X2 l2 y2 z2 st2 hQ2
    subst l2 y2 z2
    obtain ⟨nb_2, kn_2, rfl, Nq2, Kq2, f2_0, f2_1, f2_2⟩ := hQ2
    have N2 := Fr.app N0 Nq2
    have g_nb_2 : n0 ≤ nb_2 := Nat.le_trans Z0 f2_0
    have sz_nb_2 : h0.size ≤ nb_2 := Nat.le_trans (Keep.refl h0 []).1 f2_0
    have K2 : Keep h0 T2.heap [] := (Keep.refl h0 []).trans Kq2 all0
    have Z2 : n0 ≤ T2.heap.size := Nat.le_trans Z0 Kq2.1
    obtain ⟨T3, h3, X3, e3, E3, A3, D3, Un3, st3⟩ := newO X2 hx hZ hown (wd hw 6 rfl) (wd hw 7 rfl) (wd hw 8 rfl) rfl (g := (mkF m 66 #[vi p0, vi p1, vi p2, vi p3, vi p4, vi p5, vi (0 : Int32), vl w0, us, vl w1, us, vl w2, us, vl w3, us, vl vt, us, vr nb_2, uu, uu, uu, uu, uu, uu, uu] [])) rfl (hb hby at_66) (by decide) (by decide)
    obtain ⟨b3, g3⟩ : ∃ z, z = T2.heap.size := ⟨_, rfl⟩
    rw [← g3] at A3 D3 Un3 st3
    have ne_nb_2_b3 : nb_2 ≠ b3 := Nat.ne_of_lt (Nat.lt_of_lt_of_le f2_1.lt (Nat.le_of_eq g3.symm))
    have F3_weights : Fld Z h3 b3 "org/quarrel/model/Distribution" "weights" "[D" .null := D3 (Or.inr (wd hw 25 rfl)) (ty := (.array .double)) (by decide)
    have F3_total : Fld Z h3 b3 "org/quarrel/model/Distribution" "total" "D" (.double 0) := D3 (Or.inr (wd hw 27 rfl)) (ty := .double) (by decide)
    have g_b3 : n0 ≤ b3 := Nat.le_trans Z2 (Nat.le_of_eq g3.symm)
    have sz_b3 : h0.size ≤ b3 := Nat.le_trans K2.1 (Nat.le_of_eq g3.symm)
    have K3 : Keep h0 h3 [] := K2.ext E3
    have Z3 : n0 ≤ h3.size := Nat.le_trans Z2 E3.1
    have c5 := (f2_1.ext E3)
    have c6 := (f2_2.ext E3)
    obtain ⟨_, _, ⟨T4, L4, k4, n4⟩, -, X4, ⟨Lc4, hQ4, l4, y4, z4⟩, st4⟩ := X3.specialBack hx (y := (⟨"org/quarrel/model/Distribution", "<init>", "([DD)V"⟩ : MethodName)) rfl hown (mvT hZ (wd hw 9 rfl)) (mvT hZ (wd hw 10 rfl)) (mvT hZ (wd hw 11 rfl)) (by decide) (backOf (W := 1) (rmI0 l Z a0 hw [] b3 nb_2 (FP.l2d vt) kn_2 h3 n0 Z3 A3 F3_weights F3_total g_b3 c5 c6) hZ (wd hw 11 rfl) (wd hw 8 rfl) (by decide) (by decide)) (g := (mkF m 75 #[vi p0, vi p1, vi p2, vi p3, vi p4, vi p5, vi (0 : Int32), vl w0, us, vl w1, us, vl w2, us, vl w3, us, vl vt, us, vr nb_2, uu, uu, uu, uu, uu, uu, uu] [(.double (FP.l2d vt)), (.ref nb_2), (.ref b3), (.ref b3)])) rfl (by rw [hml]; rfl) (Steps.refl _) (a := b3) (argsL := [(.ref nb_2), (.double (FP.l2d vt))]) (rest := [(.ref b3)]) (lenOf pd_4 rfl) rfl (by show 2 * 0 + _ ≤ _; exact Nat.le_of_eq rfl) (hb hby at_75) (fun _ _ => ⟨rfl, e3, (by decide : 2 + 1 ≤ _), (by decide : 2 + 0 ≤ _)⟩)
    dsimp only [Pt.U, Pt.locs, Pt.cells, Pt.slots] at X4 l4 y4 z4 st4 hQ4
    subst l4 y4 z4
    obtain ⟨nb_4, rfl, Nq4, Kq4, f4_0, f4_1, f4_2, f4_3, f4_4⟩ := hQ4
    have N4 := Fr.app N2 Nq4
    have ne_nb_2_nb_4 : nb_2 ≠ nb_4 := Nat.ne_of_lt (Nat.lt_of_lt_of_le c5.lt f4_3)
    have ne_b3_nb_4 : b3 ≠ nb_4 := Nat.ne_of_lt (Nat.lt_of_lt_of_le A3.lt f4_3)
    have g_nb_4 : n0 ≤ nb_4 := Nat.le_trans Z3 f4_3
    have sz_nb_4 : h0.size ≤ nb_4 := Nat.le_trans K3.1 f4_3
    have K4 : Keep h0 T4.heap [] := K3.trans Kq4 (allS (Or.inr sz_b3) all0)
    have Z4 : n0 ≤ T4.heap.size := Nat.le_trans Z3 Kq4.1
    obtain ⟨cq7, kq7, q7a, q7b, q7c⟩ := isOf hZ rfl f4_0
    obtain ⟨_, _, ⟨T7, L7, k7, n7⟩, -, X7, ⟨Lc7, hQ7, l7, y7, z7⟩, st7⟩ := X4.virtualBack hx (y := (⟨"org/quarrel/model/Distribution", "mean", "()D"⟩ : MethodName)) (z := (⟨"org/quarrel/model/Distribution", "mean", "()D"⟩ : MethodName)) hown (mvT hZ (wd hw 28 rfl)) (mvT hZ (wd hw 29 rfl)) (notFace_of_selects (args := #[]) (mvT hZ (wd hw 31 rfl))) (mvT hZ (wd hw 31 rfl)) (mvT hZ (wd hw 30 rfl)) (by decide) (backOf (W := 0) (rmM0 l Z a0 hw [] b3 nb_4 kn_2 vt T4.heap n0 Z4 f4_1 f4_2 f4_4 unz) hZ (wd hw 32 rfl) (wd hw 8 rfl) (by decide) (by decide)) q7a q7c (g := (mkF m 82 #[vi p0, vi p1, vi p2, vi p3, vi p4, vi p5, vi (0 : Int32), vl w0, us, vl w1, us, vl w2, us, vl w3, us, vl vt, us, vr nb_2, vr b3, uu, uu, uu, uu, uu, uu] [(.ref b3)])) rfl (by rw [hml]; rfl) (Steps.refl _) (argsL := []) (rest := []) (lenOf pd_5 rfl) rfl (by show 2 * 0 + _ ≤ _; exact Nat.le_of_eq rfl) (hb hby at_82) (fun _ _ => ⟨rfl, rfl, (by decide : 3 + 0 ≤ _), (by decide : 2 + 0 ≤ _)⟩)
    dsimp only [Pt.U, Pt.locs, Pt.cells, Pt.slots] at X7 l7 y7 z7 st7 hQ7
    subst l7 y7 z7
    obtain ⟨rfl, Nq7, eh7⟩ := hQ7
    have N7 := Fr.app N4 Nq7
    obtain ⟨fs, hr, hrun, hended, hW, hsame⟩ := X7.leave (v := some (.int (nar .boolean (1 : Int32)))) (fun h => by rw [Bd.returns] at h; cases h)
    refine ⟨_, _, pre0 _ ?_, hrun, hended, _, _, rfl, ?_, ⟨_, rfl⟩, hW, hsame.mono (by decide) (by decide)⟩
    · refine sg1 _ ?_
      show SS p e below s₁ (mkF m 61 #[vi p0, vi p1, vi p2, vi p3, vi p4, vi p5, vi (0 : Int32), vl w0, us, vl w1, us, vl w2, us, vl w3, us, vl vt, us, uu, uu, uu, uu, uu, uu, uu, uu] [(.double (FP.l2d w3)), (.double (FP.l2d w2)), (.double (FP.l2d w1)), (.double (FP.l2d w0)), (.int (0 : Int32))]) _
      refine st2 _ ?_
      show SS p e below T2 (mkF m 64 #[vi p0, vi p1, vi p2, vi p3, vi p4, vi p5, vi (0 : Int32), vl w0, us, vl w1, us, vl w2, us, vl w3, us, vl vt, us, uu, uu, uu, uu, uu, uu, uu, uu] [(.ref nb_2)]) _
      refine XS.astore X2.here hx rfl (hb hby at_64) rfl rfl (l' := #[vi p0, vi p1, vi p2, vi p3, vi p4, vi p5, vi (0 : Int32), vl w0, us, vl w1, us, vl w2, us, vl w3, us, vl vt, us, vr nb_2, uu, uu, uu, uu, uu, uu, uu]) rfl ?_
      show SS p e below T2 (mkF m 66 #[vi p0, vi p1, vi p2, vi p3, vi p4, vi p5, vi (0 : Int32), vl w0, us, vl w1, us, vl w2, us, vl w3, us, vl vt, us, vr nb_2, uu, uu, uu, uu, uu, uu, uu] []) _
      refine st3 _ ?_
      show SS p e below T3 (mkF m 69 #[vi p0, vi p1, vi p2, vi p3, vi p4, vi p5, vi (0 : Int32), vl w0, us, vl w1, us, vl w2, us, vl w3, us, vl vt, us, vr nb_2, uu, uu, uu, uu, uu, uu, uu] [(.ref b3)]) _
      refine XS.dup X3.here hx rfl (hb hby at_69) rfl rfl ?_
      show SS p e below T3 (mkF m 70 #[vi p0, vi p1, vi p2, vi p3, vi p4, vi p5, vi (0 : Int32), vl w0, us, vl w1, us, vl w2, us, vl w3, us, vl vt, us, vr nb_2, uu, uu, uu, uu, uu, uu, uu] [(.ref b3), (.ref b3)]) _
      refine XS.aload X3.here hx rfl (hb hby at_70) rfl rfl ?_
      show SS p e below T3 (mkF m 72 #[vi p0, vi p1, vi p2, vi p3, vi p4, vi p5, vi (0 : Int32), vl w0, us, vl w1, us, vl w2, us, vl w3, us, vl vt, us, vr nb_2, uu, uu, uu, uu, uu, uu, uu] [(.ref nb_2), (.ref b3), (.ref b3)]) _
      refine XS.lload X3.here hx rfl (hb hby at_72) rfl ?_
      show SS p e below T3 (mkF m 74 #[vi p0, vi p1, vi p2, vi p3, vi p4, vi p5, vi (0 : Int32), vl w0, us, vl w1, us, vl w2, us, vl w3, us, vl vt, us, vr nb_2, uu, uu, uu, uu, uu, uu, uu] [(.long vt), (.ref nb_2), (.ref b3), (.ref b3)]) _
      refine XS.l2dS X3.here hx rfl (hb hby at_74) rfl (v := (FP.l2d vt)) rfl ?_
      show SS p e below T3 (mkF m 75 #[vi p0, vi p1, vi p2, vi p3, vi p4, vi p5, vi (0 : Int32), vl w0, us, vl w1, us, vl w2, us, vl w3, us, vl vt, us, vr nb_2, uu, uu, uu, uu, uu, uu, uu] [(.double (FP.l2d vt)), (.ref nb_2), (.ref b3), (.ref b3)]) _
      refine st4.trans ?_
      show SS p e below T4 (mkF m 78 #[vi p0, vi p1, vi p2, vi p3, vi p4, vi p5, vi (0 : Int32), vl w0, us, vl w1, us, vl w2, us, vl w3, us, vl vt, us, vr nb_2, uu, uu, uu, uu, uu, uu, uu] [(.ref b3)]) _
      refine XS.astore X4.here hx rfl (hb hby at_78) rfl rfl (l' := #[vi p0, vi p1, vi p2, vi p3, vi p4, vi p5, vi (0 : Int32), vl w0, us, vl w1, us, vl w2, us, vl w3, us, vl vt, us, vr nb_2, vr b3, uu, uu, uu, uu, uu, uu]) rfl ?_
      show SS p e below T4 (mkF m 80 #[vi p0, vi p1, vi p2, vi p3, vi p4, vi p5, vi (0 : Int32), vl w0, us, vl w1, us, vl w2, us, vl w3, us, vl vt, us, vr nb_2, vr b3, uu, uu, uu, uu, uu, uu] []) _
      refine XS.aload X4.here hx rfl (hb hby at_80) rfl rfl ?_
      show SS p e below T4 (mkF m 82 #[vi p0, vi p1, vi p2, vi p3, vi p4, vi p5, vi (0 : Int32), vl w0, us, vl w1, us, vl w2, us, vl w3, us, vl vt, us, vr nb_2, vr b3, uu, uu, uu, uu, uu, uu] [(.ref b3)]) _
      refine st7.trans ?_
      show SS p e below T7 (mkF m 85 #[vi p0, vi p1, vi p2, vi p3, vi p4, vi p5, vi (0 : Int32), vl w0, us, vl w1, us, vl w2, us, vl w3, us, vl vt, us, vr nb_2, vr b3, uu, uu, uu, uu, uu, uu] [(.double (FP.ddiv (FP.l2d (0 : Int64)) (FP.l2d vt)))]) _
      refine XS.dstore X7.here hx rfl (hb hby at_85) rfl (l' := #[vi p0, vi p1, vi p2, vi p3, vi p4, vi p5, vi (0 : Int32), vl w0, us, vl w1, us, vl w2, us, vl w3, us, vl vt, us, vr nb_2, vr b3, vd (FP.ddiv (FP.l2d (0 : Int64)) (FP.l2d vt)), us, uu, uu, uu, uu]) rfl ?_
      show SS p e below T7 (mkF m 87 #[vi p0, vi p1, vi p2, vi p3, vi p4, vi p5, vi (0 : Int32), vl w0, us, vl w1, us, vl w2, us, vl w3, us, vl vt, us, vr nb_2, vr b3, vd (FP.ddiv (FP.l2d (0 : Int64)) (FP.l2d vt)), us, uu, uu, uu, uu] []) _
      refine XS.lconst X7.here hx rfl (hb hby at_87) ?_
      show SS p e below T7 (mkF m 88 #[vi p0, vi p1, vi p2, vi p3, vi p4, vi p5, vi (0 : Int32), vl w0, us, vl w1, us, vl w2, us, vl w3, us, vl vt, us, vr nb_2, vr b3, vd (FP.ddiv (FP.l2d (0 : Int64)) (FP.l2d vt)), us, uu, uu, uu, uu] [(.long (0 : Int64))]) _
      refine XS.lstore X7.here hx rfl (hb hby at_88) rfl (l' := #[vi p0, vi p1, vi p2, vi p3, vi p4, vi p5, vi (0 : Int32), vl w0, us, vl w1, us, vl w2, us, vl w3, us, vl vt, us, vr nb_2, vr b3, vd (FP.ddiv (FP.l2d (0 : Int64)) (FP.l2d vt)), us, vl (0 : Int64), us, uu, uu]) rfl ?_
      show SS p e below T7 (mkF m 90 #[vi p0, vi p1, vi p2, vi p3, vi p4, vi p5, vi (0 : Int32), vl w0, us, vl w1, us, vl w2, us, vl w3, us, vl vt, us, vr nb_2, vr b3, vd (FP.ddiv (FP.l2d (0 : Int64)) (FP.l2d vt)), us, vl (0 : Int64), us, uu, uu] []) _
      refine XS.iload X7.here hx rfl (hb hby at_90) rfl ?_
      show SS p e below T7 (mkF m 92 #[vi p0, vi p1, vi p2, vi p3, vi p4, vi p5, vi (0 : Int32), vl w0, us, vl w1, us, vl w2, us, vl w3, us, vl vt, us, vr nb_2, vr b3, vd (FP.ddiv (FP.l2d (0 : Int64)) (FP.l2d vt)), us, vl (0 : Int64), us, uu, uu] [(.int (0 : Int32))]) _
      refine XS.iconst X7.here hx rfl (hb hby at_92) ?_
      show SS p e below T7 (mkF m 93 #[vi p0, vi p1, vi p2, vi p3, vi p4, vi p5, vi (0 : Int32), vl w0, us, vl w1, us, vl w2, us, vl w3, us, vl vt, us, vr nb_2, vr b3, vd (FP.ddiv (FP.l2d (0 : Int64)) (FP.l2d vt)), us, vl (0 : Int64), us, uu, uu] [(.int (1 : Int32)), (.int (0 : Int32))]) _
      refine XS.icmpYes X7.here hx rfl (pc0 := 93) (pc' := 103) rfl (hb hby at_93) rfl (flt (by decide : ¬ ((1 : Int32) < (0 : Int32)))).2.2.2 (by decide) (by decide) ?_
      show SS p e below T7 (mkF m 103 #[vi p0, vi p1, vi p2, vi p3, vi p4, vi p5, vi (0 : Int32), vl w0, us, vl w1, us, vl w2, us, vl w3, us, vl vt, us, vr nb_2, vr b3, vd (FP.ddiv (FP.l2d (0 : Int64)) (FP.l2d vt)), us, vl (0 : Int64), us, uu, uu] []) _
      refine XS.iload X7.here hx rfl (hb hby at_103) rfl ?_
      show SS p e below T7 (mkF m 105 #[vi p0, vi p1, vi p2, vi p3, vi p4, vi p5, vi (0 : Int32), vl w0, us, vl w1, us, vl w2, us, vl w3, us, vl vt, us, vr nb_2, vr b3, vd (FP.ddiv (FP.l2d (0 : Int64)) (FP.l2d vt)), us, vl (0 : Int64), us, uu, uu] [(.int (0 : Int32))]) _
      refine XS.iconst X7.here hx rfl (hb hby at_105) ?_
      show SS p e below T7 (mkF m 106 #[vi p0, vi p1, vi p2, vi p3, vi p4, vi p5, vi (0 : Int32), vl w0, us, vl w1, us, vl w2, us, vl w3, us, vl vt, us, vr nb_2, vr b3, vd (FP.ddiv (FP.l2d (0 : Int64)) (FP.l2d vt)), us, vl (0 : Int64), us, uu, uu] [(.int (2 : Int32)), (.int (0 : Int32))]) _
      refine XS.icmpYes X7.here hx rfl (pc0 := 106) (pc' := 120) rfl (hb hby at_106) rfl (flt (by decide : ¬ ((2 : Int32) < (0 : Int32)))).2.2.2 (by decide) (by decide) ?_
      show SS p e below T7 (mkF m 120 #[vi p0, vi p1, vi p2, vi p3, vi p4, vi p5, vi (0 : Int32), vl w0, us, vl w1, us, vl w2, us, vl w3, us, vl vt, us, vr nb_2, vr b3, vd (FP.ddiv (FP.l2d (0 : Int64)) (FP.l2d vt)), us, vl (0 : Int64), us, uu, uu] []) _
      refine XS.iload X7.here hx rfl (hb hby at_120) rfl ?_
      show SS p e below T7 (mkF m 122 #[vi p0, vi p1, vi p2, vi p3, vi p4, vi p5, vi (0 : Int32), vl w0, us, vl w1, us, vl w2, us, vl w3, us, vl vt, us, vr nb_2, vr b3, vd (FP.ddiv (FP.l2d (0 : Int64)) (FP.l2d vt)), us, vl (0 : Int64), us, uu, uu] [(.int (0 : Int32))]) _
      refine XS.iconst X7.here hx rfl (hb hby at_122) ?_
      show SS p e below T7 (mkF m 123 #[vi p0, vi p1, vi p2, vi p3, vi p4, vi p5, vi (0 : Int32), vl w0, us, vl w1, us, vl w2, us, vl w3, us, vl vt, us, vr nb_2, vr b3, vd (FP.ddiv (FP.l2d (0 : Int64)) (FP.l2d vt)), us, vl (0 : Int64), us, uu, uu] [(.int (3 : Int32)), (.int (0 : Int32))]) _
      refine XS.icmpYes X7.here hx rfl (pc0 := 123) (pc' := 137) rfl (hb hby at_123) rfl (flt (by decide : ¬ ((3 : Int32) < (0 : Int32)))).2.2.2 (by decide) (by decide) ?_
      show SS p e below T7 (mkF m 137 #[vi p0, vi p1, vi p2, vi p3, vi p4, vi p5, vi (0 : Int32), vl w0, us, vl w1, us, vl w2, us, vl w3, us, vl vt, us, vr nb_2, vr b3, vd (FP.ddiv (FP.l2d (0 : Int64)) (FP.l2d vt)), us, vl (0 : Int64), us, uu, uu] []) _
      refine XS.lload X7.here hx rfl (hb hby at_137) rfl ?_
      show SS p e below T7 (mkF m 139 #[vi p0, vi p1, vi p2, vi p3, vi p4, vi p5, vi (0 : Int32), vl w0, us, vl w1, us, vl w2, us, vl w3, us, vl vt, us, vr nb_2, vr b3, vd (FP.ddiv (FP.l2d (0 : Int64)) (FP.l2d vt)), us, vl (0 : Int64), us, uu, uu] [(.long (0 : Int64))]) _
      refine XS.l2dS X7.here hx rfl (hb hby at_139) rfl (v := (FP.l2d (0 : Int64))) rfl ?_
      show SS p e below T7 (mkF m 140 #[vi p0, vi p1, vi p2, vi p3, vi p4, vi p5, vi (0 : Int32), vl w0, us, vl w1, us, vl w2, us, vl w3, us, vl vt, us, vr nb_2, vr b3, vd (FP.ddiv (FP.l2d (0 : Int64)) (FP.l2d vt)), us, vl (0 : Int64), us, uu, uu] [(.double (FP.l2d (0 : Int64)))]) _
      refine XS.lload X7.here hx rfl (hb hby at_140) rfl ?_
      show SS p e below T7 (mkF m 142 #[vi p0, vi p1, vi p2, vi p3, vi p4, vi p5, vi (0 : Int32), vl w0, us, vl w1, us, vl w2, us, vl w3, us, vl vt, us, vr nb_2, vr b3, vd (FP.ddiv (FP.l2d (0 : Int64)) (FP.l2d vt)), us, vl (0 : Int64), us, uu, uu] [(.long vt), (.double (FP.l2d (0 : Int64)))]) _
      refine XS.l2dS X7.here hx rfl (hb hby at_142) rfl (v := (FP.l2d vt)) rfl ?_
      show SS p e below T7 (mkF m 143 #[vi p0, vi p1, vi p2, vi p3, vi p4, vi p5, vi (0 : Int32), vl w0, us, vl w1, us, vl w2, us, vl w3, us, vl vt, us, vr nb_2, vr b3, vd (FP.ddiv (FP.l2d (0 : Int64)) (FP.l2d vt)), us, vl (0 : Int64), us, uu, uu] [(.double (FP.l2d vt)), (.double (FP.l2d (0 : Int64)))]) _
      refine XS.ddivS X7.here hx rfl (hb hby at_143) rfl (v := (FP.ddiv (FP.l2d (0 : Int64)) (FP.l2d vt))) (own_dnn _ unz) rfl ?_
      show SS p e below T7 (mkF m 144 #[vi p0, vi p1, vi p2, vi p3, vi p4, vi p5, vi (0 : Int32), vl w0, us, vl w1, us, vl w2, us, vl w3, us, vl vt, us, vr nb_2, vr b3, vd (FP.ddiv (FP.l2d (0 : Int64)) (FP.l2d vt)), us, vl (0 : Int64), us, uu, uu] [(.double (FP.ddiv (FP.l2d (0 : Int64)) (FP.l2d vt)))]) _
      refine XS.dstore X7.here hx rfl (hb hby at_144) rfl (l' := #[vi p0, vi p1, vi p2, vi p3, vi p4, vi p5, vi (0 : Int32), vl w0, us, vl w1, us, vl w2, us, vl w3, us, vl vt, us, vr nb_2, vr b3, vd (FP.ddiv (FP.l2d (0 : Int64)) (FP.l2d vt)), us, vl (0 : Int64), us, vd (FP.ddiv (FP.l2d (0 : Int64)) (FP.l2d vt)), us]) rfl ?_
      show SS p e below T7 (mkF m 146 #[vi p0, vi p1, vi p2, vi p3, vi p4, vi p5, vi (0 : Int32), vl w0, us, vl w1, us, vl w2, us, vl w3, us, vl vt, us, vr nb_2, vr b3, vd (FP.ddiv (FP.l2d (0 : Int64)) (FP.l2d vt)), us, vl (0 : Int64), us, vd (FP.ddiv (FP.l2d (0 : Int64)) (FP.l2d vt)), us] []) _
      refine XS.dload X7.here hx rfl (hb hby at_146) rfl ?_
      show SS p e below T7 (mkF m 148 #[vi p0, vi p1, vi p2, vi p3, vi p4, vi p5, vi (0 : Int32), vl w0, us, vl w1, us, vl w2, us, vl w3, us, vl vt, us, vr nb_2, vr b3, vd (FP.ddiv (FP.l2d (0 : Int64)) (FP.l2d vt)), us, vl (0 : Int64), us, vd (FP.ddiv (FP.l2d (0 : Int64)) (FP.l2d vt)), us] [(.double (FP.ddiv (FP.l2d (0 : Int64)) (FP.l2d vt)))]) _
      refine XS.dload X7.here hx rfl (hb hby at_148) rfl ?_
      show SS p e below T7 (mkF m 150 #[vi p0, vi p1, vi p2, vi p3, vi p4, vi p5, vi (0 : Int32), vl w0, us, vl w1, us, vl w2, us, vl w3, us, vl vt, us, vr nb_2, vr b3, vd (FP.ddiv (FP.l2d (0 : Int64)) (FP.l2d vt)), us, vl (0 : Int64), us, vd (FP.ddiv (FP.l2d (0 : Int64)) (FP.l2d vt)), us] [(.double (FP.ddiv (FP.l2d (0 : Int64)) (FP.l2d vt))), (.double (FP.ddiv (FP.l2d (0 : Int64)) (FP.l2d vt)))]) _
      refine XS.dcmpS X7.here hx rfl (hb hby at_150) rfl (v := (0 : Int32)) (dcmpV_self (own_dnn _ unz) _) ?_
      show SS p e below T7 (mkF m 151 #[vi p0, vi p1, vi p2, vi p3, vi p4, vi p5, vi (0 : Int32), vl w0, us, vl w1, us, vl w2, us, vl w3, us, vl vt, us, vr nb_2, vr b3, vd (FP.ddiv (FP.l2d (0 : Int64)) (FP.l2d vt)), us, vl (0 : Int64), us, vd (FP.ddiv (FP.l2d (0 : Int64)) (FP.l2d vt)), us] [(.int (0 : Int32))]) _
      refine XS.ifNo X7.here hx rfl (hb hby at_151) rfl ((if0 _ _).trans (teq (rfl : (0 : Int32) = (0 : Int32))).2) ?_
      show SS p e below T7 (mkF m 154 #[vi p0, vi p1, vi p2, vi p3, vi p4, vi p5, vi (0 : Int32), vl w0, us, vl w1, us, vl w2, us, vl w3, us, vl vt, us, vr nb_2, vr b3, vd (FP.ddiv (FP.l2d (0 : Int64)) (FP.l2d vt)), us, vl (0 : Int64), us, vd (FP.ddiv (FP.l2d (0 : Int64)) (FP.l2d vt)), us] []) _
      refine XS.iconst X7.here hx rfl (hb hby at_154) ?_
      show SS p e below T7 (mkF m 155 #[vi p0, vi p1, vi p2, vi p3, vi p4, vi p5, vi (0 : Int32), vl w0, us, vl w1, us, vl w2, us, vl w3, us, vl vt, us, vr nb_2, vr b3, vd (FP.ddiv (FP.l2d (0 : Int64)) (FP.l2d vt)), us, vl (0 : Int64), us, vd (FP.ddiv (FP.l2d (0 : Int64)) (FP.l2d vt)), us] [(.int (1 : Int32))]) _
      refine XS.goto X7.here hx rfl (pc0 := 155) (pc' := 159) rfl (hb hby at_155) (by decide) (by decide) ?_
      show SS p e below T7 (mkF m 159 #[vi p0, vi p1, vi p2, vi p3, vi p4, vi p5, vi (0 : Int32), vl w0, us, vl w1, us, vl w2, us, vl w3, us, vl vt, us, vr nb_2, vr b3, vd (FP.ddiv (FP.l2d (0 : Int64)) (FP.l2d vt)), us, vl (0 : Int64), us, vd (FP.ddiv (FP.l2d (0 : Int64)) (FP.l2d vt)), us] [(.int (1 : Int32))]) _
      exact retN X7 hx (t := .boolean) Bd.returns (by simp) (hb hby at_159) hr
    · show Q_rm0 Z p0 p1 p2 p3 p4 p5 w0 w1 w2 w3 vt (0 : Int32) h0 n0 _ T7.heap _
      rw [eh7]
      exact ⟨rfl, N7⟩
  · obtain ⟨_, _, ⟨T8, L8, k8, n8⟩, -, X8, ⟨Lc8, hQ8, l8, y8, z8⟩, st8⟩ := Jvm.LawKit.callS X0 hx (y := (⟨"org/quarrel/model/DistributionMeanPinLaw", "weights", "(IDDDD)[D"⟩ : MethodName)) hown (mvT hZ (wd hw 1 rfl)) (mvT hZ (wd hw 2 rfl)) (mvT hZ (wd hw 3 rfl)) (mvT hZ (wd hw 4 rfl)) (by decide) (backOf (W := 0) (rmW1 l Z a0 hw [] (FP.l2d w0) (FP.l2d w1) (FP.l2d w2) (FP.l2d w3) h0 n0 Z0) hZ (wd hw 4 rfl) (wd hw 3 rfl) (by decide) (by decide)) (g := (mkF m 61 #[vi p0, vi p1, vi p2, vi p3, vi p4, vi p5, vi (1 : Int32), vl w0, us, vl w1, us, vl w2, us, vl w3, us, vl vt, us, uu, uu, uu, uu, uu, uu, uu, uu] [(.double (FP.l2d w3)), (.double (FP.l2d w2)), (.double (FP.l2d w1)), (.double (FP.l2d w0)), (.int (1 : Int32))])) rfl (by rw [hml]; rfl) (argsL := [(.int (1 : Int32)), (.double (FP.l2d w0)), (.double (FP.l2d w1)), (.double (FP.l2d w2)), (.double (FP.l2d w3))]) (rest := []) (lenOf pd_3 rfl) rfl (by show 2 * 0 + _ ≤ _; exact Nat.le_of_eq rfl) (hb hby at_61) (fun _ _ => ⟨rfl, e0, (by decide : 0 + 1 ≤ _), (by decide : 0 + 1 ≤ _)⟩)
    dsimp only [Pt.U, Pt.locs, Pt.cells, Pt.slots] at X8 l8 y8 z8 st8 hQ8
    subst l8 y8 z8
    obtain ⟨nb_8, kn_8, rfl, Nq8, Kq8, f8_0, f8_1, f8_2⟩ := hQ8
    have N8 := Fr.app N0 Nq8
    have g_nb_8 : n0 ≤ nb_8 := Nat.le_trans Z0 f8_0
    have sz_nb_8 : h0.size ≤ nb_8 := Nat.le_trans (Keep.refl h0 []).1 f8_0
    have K8 : Keep h0 T8.heap [] := (Keep.refl h0 []).trans Kq8 all0
    have Z8 : n0 ≤ T8.heap.size := Nat.le_trans Z0 Kq8.1
    obtain ⟨T9, h9, X9, e9, E9, A9, D9, Un9, st9⟩ := newO X8 hx hZ hown (wd hw 6 rfl) (wd hw 7 rfl) (wd hw 8 rfl) rfl (g := (mkF m 66 #[vi p0, vi p1, vi p2, vi p3, vi p4, vi p5, vi (1 : Int32), vl w0, us, vl w1, us, vl w2, us, vl w3, us, vl vt, us, vr nb_8, uu, uu, uu, uu, uu, uu, uu] [])) rfl (hb hby at_66) (by decide) (by decide)
    obtain ⟨b9, g9⟩ : ∃ z, z = T8.heap.size := ⟨_, rfl⟩
    rw [← g9] at A9 D9 Un9 st9
    have ne_nb_8_b9 : nb_8 ≠ b9 := Nat.ne_of_lt (Nat.lt_of_lt_of_le f8_1.lt (Nat.le_of_eq g9.symm))
    have F9_weights : Fld Z h9 b9 "org/quarrel/model/Distribution" "weights" "[D" .null := D9 (Or.inr (wd hw 25 rfl)) (ty := (.array .double)) (by decide)
    have F9_total : Fld Z h9 b9 "org/quarrel/model/Distribution" "total" "D" (.double 0) := D9 (Or.inr (wd hw 27 rfl)) (ty := .double) (by decide)
    have g_b9 : n0 ≤ b9 := Nat.le_trans Z8 (Nat.le_of_eq g9.symm)
    have sz_b9 : h0.size ≤ b9 := Nat.le_trans K8.1 (Nat.le_of_eq g9.symm)
    have K9 : Keep h0 h9 [] := K8.ext E9
    have Z9 : n0 ≤ h9.size := Nat.le_trans Z8 E9.1
    have c11 := (f8_1.ext E9)
    have c12 := (f8_2.ext E9)
    obtain ⟨_, _, ⟨T10, L10, k10, n10⟩, -, X10, ⟨Lc10, hQ10, l10, y10, z10⟩, st10⟩ := X9.specialBack hx (y := (⟨"org/quarrel/model/Distribution", "<init>", "([DD)V"⟩ : MethodName)) rfl hown (mvT hZ (wd hw 9 rfl)) (mvT hZ (wd hw 10 rfl)) (mvT hZ (wd hw 11 rfl)) (by decide) (backOf (W := 1) (rmI1 l Z a0 hw [] b9 nb_8 (FP.l2d vt) kn_8 w0 h9 n0 Z9 A9 F9_weights F9_total g_b9 c11 c12 uz_w0 ut_w0) hZ (wd hw 11 rfl) (wd hw 8 rfl) (by decide) (by decide)) (g := (mkF m 75 #[vi p0, vi p1, vi p2, vi p3, vi p4, vi p5, vi (1 : Int32), vl w0, us, vl w1, us, vl w2, us, vl w3, us, vl vt, us, vr nb_8, uu, uu, uu, uu, uu, uu, uu] [(.double (FP.l2d vt)), (.ref nb_8), (.ref b9), (.ref b9)])) rfl (by rw [hml]; rfl) (Steps.refl _) (a := b9) (argsL := [(.ref nb_8), (.double (FP.l2d vt))]) (rest := [(.ref b9)]) (lenOf pd_4 rfl) rfl (by show 2 * 0 + _ ≤ _; exact Nat.le_of_eq rfl) (hb hby at_75) (fun _ _ => ⟨rfl, e9, (by decide : 2 + 1 ≤ _), (by decide : 3 + 1 ≤ _)⟩)
    dsimp only [Pt.U, Pt.locs, Pt.cells, Pt.slots] at X10 l10 y10 z10 st10 hQ10
    subst l10 y10 z10
    obtain ⟨nb_10, rfl, Nq10, Kq10, f10_0, f10_1, f10_2, f10_3, f10_4⟩ := hQ10
    have N10 := Fr.app N8 Nq10
    have ne_nb_8_nb_10 : nb_8 ≠ nb_10 := Nat.ne_of_lt (Nat.lt_of_lt_of_le c11.lt f10_3)
    have ne_b9_nb_10 : b9 ≠ nb_10 := Nat.ne_of_lt (Nat.lt_of_lt_of_le A9.lt f10_3)
    have g_nb_10 : n0 ≤ nb_10 := Nat.le_trans Z9 f10_3
    have sz_nb_10 : h0.size ≤ nb_10 := Nat.le_trans K9.1 f10_3
    have K10 : Keep h0 T10.heap [] := K9.trans Kq10 (allS (Or.inr sz_b9) all0)
    have Z10 : n0 ≤ T10.heap.size := Nat.le_trans Z9 Kq10.1
    obtain ⟨cq13, kq13, q13a, q13b, q13c⟩ := isOf hZ rfl f10_0
    obtain ⟨_, _, ⟨T13, L13, k13, n13⟩, -, X13, ⟨Lc13, hQ13, l13, y13, z13⟩, st13⟩ := X10.virtualBack hx (y := (⟨"org/quarrel/model/Distribution", "mean", "()D"⟩ : MethodName)) (z := (⟨"org/quarrel/model/Distribution", "mean", "()D"⟩ : MethodName)) hown (mvT hZ (wd hw 28 rfl)) (mvT hZ (wd hw 29 rfl)) (notFace_of_selects (args := #[]) (mvT hZ (wd hw 31 rfl))) (mvT hZ (wd hw 31 rfl)) (mvT hZ (wd hw 30 rfl)) (by decide) (backOf (W := 0) (rmM1 l Z a0 hw [] b9 nb_10 kn_8 vt w0 T10.heap n0 Z10 f10_1 f10_2 f10_4 unz uz_w0 ut_w0) hZ (wd hw 32 rfl) (wd hw 8 rfl) (by decide) (by decide)) q13a q13c (g := (mkF m 82 #[vi p0, vi p1, vi p2, vi p3, vi p4, vi p5, vi (1 : Int32), vl w0, us, vl w1, us, vl w2, us, vl w3, us, vl vt, us, vr nb_8, vr b9, uu, uu, uu, uu, uu, uu] [(.ref b9)])) rfl (by rw [hml]; rfl) (Steps.refl _) (argsL := []) (rest := []) (lenOf pd_5 rfl) rfl (by show 2 * 0 + _ ≤ _; exact Nat.le_of_eq rfl) (hb hby at_82) (fun _ _ => ⟨rfl, rfl, (by decide : 3 + 0 ≤ _), (by decide : 4 + 0 ≤ _)⟩)
    dsimp only [Pt.U, Pt.locs, Pt.cells, Pt.slots] at X13 l13 y13 z13 st13 hQ13
    subst l13 y13 z13
    obtain ⟨rfl, Nq13, eh13⟩ := hQ13
    have N13 := Fr.app N10 Nq13
    obtain ⟨fs, hr, hrun, hended, hW, hsame⟩ := X13.leave (v := some (.int (nar .boolean (1 : Int32)))) (fun h => by rw [Bd.returns] at h; cases h)
    refine ⟨_, _, pre0 _ ?_, hrun, hended, _, _, rfl, ?_, ⟨_, rfl⟩, hW, hsame.mono (by decide) (by decide)⟩
    · refine sg1 _ ?_
      show SS p e below s₁ (mkF m 61 #[vi p0, vi p1, vi p2, vi p3, vi p4, vi p5, vi (1 : Int32), vl w0, us, vl w1, us, vl w2, us, vl w3, us, vl vt, us, uu, uu, uu, uu, uu, uu, uu, uu] [(.double (FP.l2d w3)), (.double (FP.l2d w2)), (.double (FP.l2d w1)), (.double (FP.l2d w0)), (.int (1 : Int32))]) _
      refine st8 _ ?_
      show SS p e below T8 (mkF m 64 #[vi p0, vi p1, vi p2, vi p3, vi p4, vi p5, vi (1 : Int32), vl w0, us, vl w1, us, vl w2, us, vl w3, us, vl vt, us, uu, uu, uu, uu, uu, uu, uu, uu] [(.ref nb_8)]) _
      refine XS.astore X8.here hx rfl (hb hby at_64) rfl rfl (l' := #[vi p0, vi p1, vi p2, vi p3, vi p4, vi p5, vi (1 : Int32), vl w0, us, vl w1, us, vl w2, us, vl w3, us, vl vt, us, vr nb_8, uu, uu, uu, uu, uu, uu, uu]) rfl ?_
      show SS p e below T8 (mkF m 66 #[vi p0, vi p1, vi p2, vi p3, vi p4, vi p5, vi (1 : Int32), vl w0, us, vl w1, us, vl w2, us, vl w3, us, vl vt, us, vr nb_8, uu, uu, uu, uu, uu, uu, uu] []) _
      refine st9 _ ?_
      show SS p e below T9 (mkF m 69 #[vi p0, vi p1, vi p2, vi p3, vi p4, vi p5, vi (1 : Int32), vl w0, us, vl w1, us, vl w2, us, vl w3, us, vl vt, us, vr nb_8, uu, uu, uu, uu, uu, uu, uu] [(.ref b9)]) _
      refine XS.dup X9.here hx rfl (hb hby at_69) rfl rfl ?_
      show SS p e below T9 (mkF m 70 #[vi p0, vi p1, vi p2, vi p3, vi p4, vi p5, vi (1 : Int32), vl w0, us, vl w1, us, vl w2, us, vl w3, us, vl vt, us, vr nb_8, uu, uu, uu, uu, uu, uu, uu] [(.ref b9), (.ref b9)]) _
      refine XS.aload X9.here hx rfl (hb hby at_70) rfl rfl ?_
      show SS p e below T9 (mkF m 72 #[vi p0, vi p1, vi p2, vi p3, vi p4, vi p5, vi (1 : Int32), vl w0, us, vl w1, us, vl w2, us, vl w3, us, vl vt, us, vr nb_8, uu, uu, uu, uu, uu, uu, uu] [(.ref nb_8), (.ref b9), (.ref b9)]) _
      refine XS.lload X9.here hx rfl (hb hby at_72) rfl ?_
      show SS p e below T9 (mkF m 74 #[vi p0, vi p1, vi p2, vi p3, vi p4, vi p5, vi (1 : Int32), vl w0, us, vl w1, us, vl w2, us, vl w3, us, vl vt, us, vr nb_8, uu, uu, uu, uu, uu, uu, uu] [(.long vt), (.ref nb_8), (.ref b9), (.ref b9)]) _
      refine XS.l2dS X9.here hx rfl (hb hby at_74) rfl (v := (FP.l2d vt)) rfl ?_
      show SS p e below T9 (mkF m 75 #[vi p0, vi p1, vi p2, vi p3, vi p4, vi p5, vi (1 : Int32), vl w0, us, vl w1, us, vl w2, us, vl w3, us, vl vt, us, vr nb_8, uu, uu, uu, uu, uu, uu, uu] [(.double (FP.l2d vt)), (.ref nb_8), (.ref b9), (.ref b9)]) _
      refine st10.trans ?_
      show SS p e below T10 (mkF m 78 #[vi p0, vi p1, vi p2, vi p3, vi p4, vi p5, vi (1 : Int32), vl w0, us, vl w1, us, vl w2, us, vl w3, us, vl vt, us, vr nb_8, uu, uu, uu, uu, uu, uu, uu] [(.ref b9)]) _
      refine XS.astore X10.here hx rfl (hb hby at_78) rfl rfl (l' := #[vi p0, vi p1, vi p2, vi p3, vi p4, vi p5, vi (1 : Int32), vl w0, us, vl w1, us, vl w2, us, vl w3, us, vl vt, us, vr nb_8, vr b9, uu, uu, uu, uu, uu, uu]) rfl ?_
      show SS p e below T10 (mkF m 80 #[vi p0, vi p1, vi p2, vi p3, vi p4, vi p5, vi (1 : Int32), vl w0, us, vl w1, us, vl w2, us, vl w3, us, vl vt, us, vr nb_8, vr b9, uu, uu, uu, uu, uu, uu] []) _
      refine XS.aload X10.here hx rfl (hb hby at_80) rfl rfl ?_
      show SS p e below T10 (mkF m 82 #[vi p0, vi p1, vi p2, vi p3, vi p4, vi p5, vi (1 : Int32), vl w0, us, vl w1, us, vl w2, us, vl w3, us, vl vt, us, vr nb_8, vr b9, uu, uu, uu, uu, uu, uu] [(.ref b9)]) _
      refine st13.trans ?_
      show SS p e below T13 (mkF m 85 #[vi p0, vi p1, vi p2, vi p3, vi p4, vi p5, vi (1 : Int32), vl w0, us, vl w1, us, vl w2, us, vl w3, us, vl vt, us, vr nb_8, vr b9, uu, uu, uu, uu, uu, uu] [(.double (FP.ddiv (FP.l2d (0 : Int64)) (FP.l2d vt)))]) _
      refine XS.dstore X13.here hx rfl (hb hby at_85) rfl (l' := #[vi p0, vi p1, vi p2, vi p3, vi p4, vi p5, vi (1 : Int32), vl w0, us, vl w1, us, vl w2, us, vl w3, us, vl vt, us, vr nb_8, vr b9, vd (FP.ddiv (FP.l2d (0 : Int64)) (FP.l2d vt)), us, uu, uu, uu, uu]) rfl ?_
      show SS p e below T13 (mkF m 87 #[vi p0, vi p1, vi p2, vi p3, vi p4, vi p5, vi (1 : Int32), vl w0, us, vl w1, us, vl w2, us, vl w3, us, vl vt, us, vr nb_8, vr b9, vd (FP.ddiv (FP.l2d (0 : Int64)) (FP.l2d vt)), us, uu, uu, uu, uu] []) _
      refine XS.lconst X13.here hx rfl (hb hby at_87) ?_
      show SS p e below T13 (mkF m 88 #[vi p0, vi p1, vi p2, vi p3, vi p4, vi p5, vi (1 : Int32), vl w0, us, vl w1, us, vl w2, us, vl w3, us, vl vt, us, vr nb_8, vr b9, vd (FP.ddiv (FP.l2d (0 : Int64)) (FP.l2d vt)), us, uu, uu, uu, uu] [(.long (0 : Int64))]) _
      refine XS.lstore X13.here hx rfl (hb hby at_88) rfl (l' := #[vi p0, vi p1, vi p2, vi p3, vi p4, vi p5, vi (1 : Int32), vl w0, us, vl w1, us, vl w2, us, vl w3, us, vl vt, us, vr nb_8, vr b9, vd (FP.ddiv (FP.l2d (0 : Int64)) (FP.l2d vt)), us, vl (0 : Int64), us, uu, uu]) rfl ?_
      show SS p e below T13 (mkF m 90 #[vi p0, vi p1, vi p2, vi p3, vi p4, vi p5, vi (1 : Int32), vl w0, us, vl w1, us, vl w2, us, vl w3, us, vl vt, us, vr nb_8, vr b9, vd (FP.ddiv (FP.l2d (0 : Int64)) (FP.l2d vt)), us, vl (0 : Int64), us, uu, uu] []) _
      refine XS.iload X13.here hx rfl (hb hby at_90) rfl ?_
      show SS p e below T13 (mkF m 92 #[vi p0, vi p1, vi p2, vi p3, vi p4, vi p5, vi (1 : Int32), vl w0, us, vl w1, us, vl w2, us, vl w3, us, vl vt, us, vr nb_8, vr b9, vd (FP.ddiv (FP.l2d (0 : Int64)) (FP.l2d vt)), us, vl (0 : Int64), us, uu, uu] [(.int (1 : Int32))]) _
      refine XS.iconst X13.here hx rfl (hb hby at_92) ?_
      show SS p e below T13 (mkF m 93 #[vi p0, vi p1, vi p2, vi p3, vi p4, vi p5, vi (1 : Int32), vl w0, us, vl w1, us, vl w2, us, vl w3, us, vl vt, us, vr nb_8, vr b9, vd (FP.ddiv (FP.l2d (0 : Int64)) (FP.l2d vt)), us, vl (0 : Int64), us, uu, uu] [(.int (1 : Int32)), (.int (1 : Int32))]) _
      refine XS.icmpYes X13.here hx rfl (pc0 := 93) (pc' := 103) rfl (hb hby at_93) rfl (flt (by decide : ¬ ((1 : Int32) < (1 : Int32)))).2.2.2 (by decide) (by decide) ?_
      show SS p e below T13 (mkF m 103 #[vi p0, vi p1, vi p2, vi p3, vi p4, vi p5, vi (1 : Int32), vl w0, us, vl w1, us, vl w2, us, vl w3, us, vl vt, us, vr nb_8, vr b9, vd (FP.ddiv (FP.l2d (0 : Int64)) (FP.l2d vt)), us, vl (0 : Int64), us, uu, uu] []) _
      refine XS.iload X13.here hx rfl (hb hby at_103) rfl ?_
      show SS p e below T13 (mkF m 105 #[vi p0, vi p1, vi p2, vi p3, vi p4, vi p5, vi (1 : Int32), vl w0, us, vl w1, us, vl w2, us, vl w3, us, vl vt, us, vr nb_8, vr b9, vd (FP.ddiv (FP.l2d (0 : Int64)) (FP.l2d vt)), us, vl (0 : Int64), us, uu, uu] [(.int (1 : Int32))]) _
      refine XS.iconst X13.here hx rfl (hb hby at_105) ?_
      show SS p e below T13 (mkF m 106 #[vi p0, vi p1, vi p2, vi p3, vi p4, vi p5, vi (1 : Int32), vl w0, us, vl w1, us, vl w2, us, vl w3, us, vl vt, us, vr nb_8, vr b9, vd (FP.ddiv (FP.l2d (0 : Int64)) (FP.l2d vt)), us, vl (0 : Int64), us, uu, uu] [(.int (2 : Int32)), (.int (1 : Int32))]) _
      refine XS.icmpYes X13.here hx rfl (pc0 := 106) (pc' := 120) rfl (hb hby at_106) rfl (flt (by decide : ¬ ((2 : Int32) < (1 : Int32)))).2.2.2 (by decide) (by decide) ?_
      show SS p e below T13 (mkF m 120 #[vi p0, vi p1, vi p2, vi p3, vi p4, vi p5, vi (1 : Int32), vl w0, us, vl w1, us, vl w2, us, vl w3, us, vl vt, us, vr nb_8, vr b9, vd (FP.ddiv (FP.l2d (0 : Int64)) (FP.l2d vt)), us, vl (0 : Int64), us, uu, uu] []) _
      refine XS.iload X13.here hx rfl (hb hby at_120) rfl ?_
      show SS p e below T13 (mkF m 122 #[vi p0, vi p1, vi p2, vi p3, vi p4, vi p5, vi (1 : Int32), vl w0, us, vl w1, us, vl w2, us, vl w3, us, vl vt, us, vr nb_8, vr b9, vd (FP.ddiv (FP.l2d (0 : Int64)) (FP.l2d vt)), us, vl (0 : Int64), us, uu, uu] [(.int (1 : Int32))]) _
      refine XS.iconst X13.here hx rfl (hb hby at_122) ?_
      show SS p e below T13 (mkF m 123 #[vi p0, vi p1, vi p2, vi p3, vi p4, vi p5, vi (1 : Int32), vl w0, us, vl w1, us, vl w2, us, vl w3, us, vl vt, us, vr nb_8, vr b9, vd (FP.ddiv (FP.l2d (0 : Int64)) (FP.l2d vt)), us, vl (0 : Int64), us, uu, uu] [(.int (3 : Int32)), (.int (1 : Int32))]) _
      refine XS.icmpYes X13.here hx rfl (pc0 := 123) (pc' := 137) rfl (hb hby at_123) rfl (flt (by decide : ¬ ((3 : Int32) < (1 : Int32)))).2.2.2 (by decide) (by decide) ?_
      show SS p e below T13 (mkF m 137 #[vi p0, vi p1, vi p2, vi p3, vi p4, vi p5, vi (1 : Int32), vl w0, us, vl w1, us, vl w2, us, vl w3, us, vl vt, us, vr nb_8, vr b9, vd (FP.ddiv (FP.l2d (0 : Int64)) (FP.l2d vt)), us, vl (0 : Int64), us, uu, uu] []) _
      refine XS.lload X13.here hx rfl (hb hby at_137) rfl ?_
      show SS p e below T13 (mkF m 139 #[vi p0, vi p1, vi p2, vi p3, vi p4, vi p5, vi (1 : Int32), vl w0, us, vl w1, us, vl w2, us, vl w3, us, vl vt, us, vr nb_8, vr b9, vd (FP.ddiv (FP.l2d (0 : Int64)) (FP.l2d vt)), us, vl (0 : Int64), us, uu, uu] [(.long (0 : Int64))]) _
      refine XS.l2dS X13.here hx rfl (hb hby at_139) rfl (v := (FP.l2d (0 : Int64))) rfl ?_
      show SS p e below T13 (mkF m 140 #[vi p0, vi p1, vi p2, vi p3, vi p4, vi p5, vi (1 : Int32), vl w0, us, vl w1, us, vl w2, us, vl w3, us, vl vt, us, vr nb_8, vr b9, vd (FP.ddiv (FP.l2d (0 : Int64)) (FP.l2d vt)), us, vl (0 : Int64), us, uu, uu] [(.double (FP.l2d (0 : Int64)))]) _
      refine XS.lload X13.here hx rfl (hb hby at_140) rfl ?_
      show SS p e below T13 (mkF m 142 #[vi p0, vi p1, vi p2, vi p3, vi p4, vi p5, vi (1 : Int32), vl w0, us, vl w1, us, vl w2, us, vl w3, us, vl vt, us, vr nb_8, vr b9, vd (FP.ddiv (FP.l2d (0 : Int64)) (FP.l2d vt)), us, vl (0 : Int64), us, uu, uu] [(.long vt), (.double (FP.l2d (0 : Int64)))]) _
      refine XS.l2dS X13.here hx rfl (hb hby at_142) rfl (v := (FP.l2d vt)) rfl ?_
      show SS p e below T13 (mkF m 143 #[vi p0, vi p1, vi p2, vi p3, vi p4, vi p5, vi (1 : Int32), vl w0, us, vl w1, us, vl w2, us, vl w3, us, vl vt, us, vr nb_8, vr b9, vd (FP.ddiv (FP.l2d (0 : Int64)) (FP.l2d vt)), us, vl (0 : Int64), us, uu, uu] [(.double (FP.l2d vt)), (.double (FP.l2d (0 : Int64)))]) _
      refine XS.ddivS X13.here hx rfl (hb hby at_143) rfl (v := (FP.ddiv (FP.l2d (0 : Int64)) (FP.l2d vt))) (own_dnn _ unz) rfl ?_
      show SS p e below T13 (mkF m 144 #[vi p0, vi p1, vi p2, vi p3, vi p4, vi p5, vi (1 : Int32), vl w0, us, vl w1, us, vl w2, us, vl w3, us, vl vt, us, vr nb_8, vr b9, vd (FP.ddiv (FP.l2d (0 : Int64)) (FP.l2d vt)), us, vl (0 : Int64), us, uu, uu] [(.double (FP.ddiv (FP.l2d (0 : Int64)) (FP.l2d vt)))]) _
      refine XS.dstore X13.here hx rfl (hb hby at_144) rfl (l' := #[vi p0, vi p1, vi p2, vi p3, vi p4, vi p5, vi (1 : Int32), vl w0, us, vl w1, us, vl w2, us, vl w3, us, vl vt, us, vr nb_8, vr b9, vd (FP.ddiv (FP.l2d (0 : Int64)) (FP.l2d vt)), us, vl (0 : Int64), us, vd (FP.ddiv (FP.l2d (0 : Int64)) (FP.l2d vt)), us]) rfl ?_
      show SS p e below T13 (mkF m 146 #[vi p0, vi p1, vi p2, vi p3, vi p4, vi p5, vi (1 : Int32), vl w0, us, vl w1, us, vl w2, us, vl w3, us, vl vt, us, vr nb_8, vr b9, vd (FP.ddiv (FP.l2d (0 : Int64)) (FP.l2d vt)), us, vl (0 : Int64), us, vd (FP.ddiv (FP.l2d (0 : Int64)) (FP.l2d vt)), us] []) _
      refine XS.dload X13.here hx rfl (hb hby at_146) rfl ?_
      show SS p e below T13 (mkF m 148 #[vi p0, vi p1, vi p2, vi p3, vi p4, vi p5, vi (1 : Int32), vl w0, us, vl w1, us, vl w2, us, vl w3, us, vl vt, us, vr nb_8, vr b9, vd (FP.ddiv (FP.l2d (0 : Int64)) (FP.l2d vt)), us, vl (0 : Int64), us, vd (FP.ddiv (FP.l2d (0 : Int64)) (FP.l2d vt)), us] [(.double (FP.ddiv (FP.l2d (0 : Int64)) (FP.l2d vt)))]) _
      refine XS.dload X13.here hx rfl (hb hby at_148) rfl ?_
      show SS p e below T13 (mkF m 150 #[vi p0, vi p1, vi p2, vi p3, vi p4, vi p5, vi (1 : Int32), vl w0, us, vl w1, us, vl w2, us, vl w3, us, vl vt, us, vr nb_8, vr b9, vd (FP.ddiv (FP.l2d (0 : Int64)) (FP.l2d vt)), us, vl (0 : Int64), us, vd (FP.ddiv (FP.l2d (0 : Int64)) (FP.l2d vt)), us] [(.double (FP.ddiv (FP.l2d (0 : Int64)) (FP.l2d vt))), (.double (FP.ddiv (FP.l2d (0 : Int64)) (FP.l2d vt)))]) _
      refine XS.dcmpS X13.here hx rfl (hb hby at_150) rfl (v := (0 : Int32)) (dcmpV_self (own_dnn _ unz) _) ?_
      show SS p e below T13 (mkF m 151 #[vi p0, vi p1, vi p2, vi p3, vi p4, vi p5, vi (1 : Int32), vl w0, us, vl w1, us, vl w2, us, vl w3, us, vl vt, us, vr nb_8, vr b9, vd (FP.ddiv (FP.l2d (0 : Int64)) (FP.l2d vt)), us, vl (0 : Int64), us, vd (FP.ddiv (FP.l2d (0 : Int64)) (FP.l2d vt)), us] [(.int (0 : Int32))]) _
      refine XS.ifNo X13.here hx rfl (hb hby at_151) rfl ((if0 _ _).trans (teq (rfl : (0 : Int32) = (0 : Int32))).2) ?_
      show SS p e below T13 (mkF m 154 #[vi p0, vi p1, vi p2, vi p3, vi p4, vi p5, vi (1 : Int32), vl w0, us, vl w1, us, vl w2, us, vl w3, us, vl vt, us, vr nb_8, vr b9, vd (FP.ddiv (FP.l2d (0 : Int64)) (FP.l2d vt)), us, vl (0 : Int64), us, vd (FP.ddiv (FP.l2d (0 : Int64)) (FP.l2d vt)), us] []) _
      refine XS.iconst X13.here hx rfl (hb hby at_154) ?_
      show SS p e below T13 (mkF m 155 #[vi p0, vi p1, vi p2, vi p3, vi p4, vi p5, vi (1 : Int32), vl w0, us, vl w1, us, vl w2, us, vl w3, us, vl vt, us, vr nb_8, vr b9, vd (FP.ddiv (FP.l2d (0 : Int64)) (FP.l2d vt)), us, vl (0 : Int64), us, vd (FP.ddiv (FP.l2d (0 : Int64)) (FP.l2d vt)), us] [(.int (1 : Int32))]) _
      refine XS.goto X13.here hx rfl (pc0 := 155) (pc' := 159) rfl (hb hby at_155) (by decide) (by decide) ?_
      show SS p e below T13 (mkF m 159 #[vi p0, vi p1, vi p2, vi p3, vi p4, vi p5, vi (1 : Int32), vl w0, us, vl w1, us, vl w2, us, vl w3, us, vl vt, us, vr nb_8, vr b9, vd (FP.ddiv (FP.l2d (0 : Int64)) (FP.l2d vt)), us, vl (0 : Int64), us, vd (FP.ddiv (FP.l2d (0 : Int64)) (FP.l2d vt)), us] [(.int (1 : Int32))]) _
      exact retN X13 hx (t := .boolean) Bd.returns (by simp) (hb hby at_159) hr
    · show Q_rm0 Z p0 p1 p2 p3 p4 p5 w0 w1 w2 w3 vt (1 : Int32) h0 n0 _ T13.heap _
      rw [eh13]
      exact ⟨rfl, N13⟩
  · obtain ⟨_, _, ⟨T14, L14, k14, n14⟩, -, X14, ⟨Lc14, hQ14, l14, y14, z14⟩, st14⟩ := Jvm.LawKit.callS X0 hx (y := (⟨"org/quarrel/model/DistributionMeanPinLaw", "weights", "(IDDDD)[D"⟩ : MethodName)) hown (mvT hZ (wd hw 1 rfl)) (mvT hZ (wd hw 2 rfl)) (mvT hZ (wd hw 3 rfl)) (mvT hZ (wd hw 4 rfl)) (by decide) (backOf (W := 0) (rmW2 l Z a0 hw [] (FP.l2d w0) (FP.l2d w1) (FP.l2d w2) (FP.l2d w3) h0 n0 Z0) hZ (wd hw 4 rfl) (wd hw 3 rfl) (by decide) (by decide)) (g := (mkF m 61 #[vi p0, vi p1, vi p2, vi p3, vi p4, vi p5, vi (2 : Int32), vl w0, us, vl w1, us, vl w2, us, vl w3, us, vl vt, us, uu, uu, uu, uu, uu, uu, uu, uu] [(.double (FP.l2d w3)), (.double (FP.l2d w2)), (.double (FP.l2d w1)), (.double (FP.l2d w0)), (.int (2 : Int32))])) rfl (by rw [hml]; rfl) (argsL := [(.int (2 : Int32)), (.double (FP.l2d w0)), (.double (FP.l2d w1)), (.double (FP.l2d w2)), (.double (FP.l2d w3))]) (rest := []) (lenOf pd_3 rfl) rfl (by show 2 * 0 + _ ≤ _; exact Nat.le_of_eq rfl) (hb hby at_61) (fun _ _ => ⟨rfl, e0, (by decide : 0 + 1 ≤ _), (by decide : 0 + 2 ≤ _)⟩)
    dsimp only [Pt.U, Pt.locs, Pt.cells, Pt.slots] at X14 l14 y14 z14 st14 hQ14
    subst l14 y14 z14
    obtain ⟨nb_14, kn_14, rfl, Nq14, Kq14, f14_0, f14_1, f14_2⟩ := hQ14
    have N14 := Fr.app N0 Nq14
    have g_nb_14 : n0 ≤ nb_14 := Nat.le_trans Z0 f14_0
    have sz_nb_14 : h0.size ≤ nb_14 := Nat.le_trans (Keep.refl h0 []).1 f14_0
    have K14 : Keep h0 T14.heap [] := (Keep.refl h0 []).trans Kq14 all0
    have Z14 : n0 ≤ T14.heap.size := Nat.le_trans Z0 Kq14.1
    obtain ⟨T15, h15, X15, e15, E15, A15, D15, Un15, st15⟩ := newO X14 hx hZ hown (wd hw 6 rfl) (wd hw 7 rfl) (wd hw 8 rfl) rfl (g := (mkF m 66 #[vi p0, vi p1, vi p2, vi p3, vi p4, vi p5, vi (2 : Int32), vl w0, us, vl w1, us, vl w2, us, vl w3, us, vl vt, us, vr nb_14, uu, uu, uu, uu, uu, uu, uu] [])) rfl (hb hby at_66) (by decide) (by decide)
    obtain ⟨b15, g15⟩ : ∃ z, z = T14.heap.size := ⟨_, rfl⟩
    rw [← g15] at A15 D15 Un15 st15
    have ne_nb_14_b15 : nb_14 ≠ b15 := Nat.ne_of_lt (Nat.lt_of_lt_of_le f14_1.lt (Nat.le_of_eq g15.symm))
    have F15_weights : Fld Z h15 b15 "org/quarrel/model/Distribution" "weights" "[D" .null := D15 (Or.inr (wd hw 25 rfl)) (ty := (.array .double)) (by decide)
    have F15_total : Fld Z h15 b15 "org/quarrel/model/Distribution" "total" "D" (.double 0) := D15 (Or.inr (wd hw 27 rfl)) (ty := .double) (by decide)
    have g_b15 : n0 ≤ b15 := Nat.le_trans Z14 (Nat.le_of_eq g15.symm)
    have sz_b15 : h0.size ≤ b15 := Nat.le_trans K14.1 (Nat.le_of_eq g15.symm)
    have K15 : Keep h0 h15 [] := K14.ext E15
    have Z15 : n0 ≤ h15.size := Nat.le_trans Z14 E15.1
    have c17 := (f14_1.ext E15)
    have c18 := (f14_2.ext E15)
    obtain ⟨_, _, ⟨T16, L16, k16, n16⟩, -, X16, ⟨Lc16, hQ16, l16, y16, z16⟩, st16⟩ := X15.specialBack hx (y := (⟨"org/quarrel/model/Distribution", "<init>", "([DD)V"⟩ : MethodName)) rfl hown (mvT hZ (wd hw 9 rfl)) (mvT hZ (wd hw 10 rfl)) (mvT hZ (wd hw 11 rfl)) (by decide) (backOf (W := 1) (rmI2 l Z a0 hw [] b15 nb_14 (FP.l2d vt) kn_14 w0 w1 h15 n0 Z15 A15 F15_weights F15_total g_b15 c17 c18 uz_w0 ut_w0 uz_w1 ut_w1) hZ (wd hw 11 rfl) (wd hw 8 rfl) (by decide) (by decide)) (g := (mkF m 75 #[vi p0, vi p1, vi p2, vi p3, vi p4, vi p5, vi (2 : Int32), vl w0, us, vl w1, us, vl w2, us, vl w3, us, vl vt, us, vr nb_14, uu, uu, uu, uu, uu, uu, uu] [(.double (FP.l2d vt)), (.ref nb_14), (.ref b15), (.ref b15)])) rfl (by rw [hml]; rfl) (Steps.refl _) (a := b15) (argsL := [(.ref nb_14), (.double (FP.l2d vt))]) (rest := [(.ref b15)]) (lenOf pd_4 rfl) rfl (by show 2 * 0 + _ ≤ _; exact Nat.le_of_eq rfl) (hb hby at_75) (fun _ _ => ⟨rfl, e15, (by decide : 2 + 1 ≤ _), (by decide : 4 + 2 ≤ _)⟩)
    dsimp only [Pt.U, Pt.locs, Pt.cells, Pt.slots] at X16 l16 y16 z16 st16 hQ16
    subst l16 y16 z16
    obtain ⟨nb_16, rfl, Nq16, Kq16, f16_0, f16_1, f16_2, f16_3, f16_4⟩ := hQ16
    have N16 := Fr.app N14 Nq16
    have ne_nb_14_nb_16 : nb_14 ≠ nb_16 := Nat.ne_of_lt (Nat.lt_of_lt_of_le c17.lt f16_3)
    have ne_b15_nb_16 : b15 ≠ nb_16 := Nat.ne_of_lt (Nat.lt_of_lt_of_le A15.lt f16_3)
    have g_nb_16 : n0 ≤ nb_16 := Nat.le_trans Z15 f16_3
    have sz_nb_16 : h0.size ≤ nb_16 := Nat.le_trans K15.1 f16_3
    have K16 : Keep h0 T16.heap [] := K15.trans Kq16 (allS (Or.inr sz_b15) all0)
    have Z16 : n0 ≤ T16.heap.size := Nat.le_trans Z15 Kq16.1
    obtain ⟨cq19, kq19, q19a, q19b, q19c⟩ := isOf hZ rfl f16_0
    obtain ⟨_, _, ⟨T19, L19, k19, n19⟩, -, X19, ⟨Lc19, hQ19, l19, y19, z19⟩, st19⟩ := X16.virtualBack hx (y := (⟨"org/quarrel/model/Distribution", "mean", "()D"⟩ : MethodName)) (z := (⟨"org/quarrel/model/Distribution", "mean", "()D"⟩ : MethodName)) hown (mvT hZ (wd hw 28 rfl)) (mvT hZ (wd hw 29 rfl)) (notFace_of_selects (args := #[]) (mvT hZ (wd hw 31 rfl))) (mvT hZ (wd hw 31 rfl)) (mvT hZ (wd hw 30 rfl)) (by decide) (backOf (W := 0) (rmM2 l Z a0 hw [] b15 nb_16 kn_14 vt w0 w1 T16.heap n0 Z16 f16_1 f16_2 f16_4 unz uz_w0 ut_w0 uz_w1 ut_w1) hZ (wd hw 32 rfl) (wd hw 8 rfl) (by decide) (by decide)) q19a q19c (g := (mkF m 82 #[vi p0, vi p1, vi p2, vi p3, vi p4, vi p5, vi (2 : Int32), vl w0, us, vl w1, us, vl w2, us, vl w3, us, vl vt, us, vr nb_14, vr b15, uu, uu, uu, uu, uu, uu] [(.ref b15)])) rfl (by rw [hml]; rfl) (Steps.refl _) (argsL := []) (rest := []) (lenOf pd_5 rfl) rfl (by show 2 * 0 + _ ≤ _; exact Nat.le_of_eq rfl) (hb hby at_82) (fun _ _ => ⟨rfl, rfl, (by decide : 3 + 0 ≤ _), (by decide : 6 + 0 ≤ _)⟩)
    dsimp only [Pt.U, Pt.locs, Pt.cells, Pt.slots] at X19 l19 y19 z19 st19 hQ19
    subst l19 y19 z19
    obtain ⟨rfl, Nq19, eh19⟩ := hQ19
    have N19 := Fr.app N16 Nq19
    obtain ⟨fs, hr, hrun, hended, hW, hsame⟩ := X19.leave (v := some (.int (nar .boolean (1 : Int32)))) (fun h => by rw [Bd.returns] at h; cases h)
    refine ⟨_, _, pre0 _ ?_, hrun, hended, _, _, rfl, ?_, ⟨_, rfl⟩, hW, hsame.mono (by decide) (by decide)⟩
    · refine sg1 _ ?_
      show SS p e below s₁ (mkF m 61 #[vi p0, vi p1, vi p2, vi p3, vi p4, vi p5, vi (2 : Int32), vl w0, us, vl w1, us, vl w2, us, vl w3, us, vl vt, us, uu, uu, uu, uu, uu, uu, uu, uu] [(.double (FP.l2d w3)), (.double (FP.l2d w2)), (.double (FP.l2d w1)), (.double (FP.l2d w0)), (.int (2 : Int32))]) _
      refine st14 _ ?_
      show SS p e below T14 (mkF m 64 #[vi p0, vi p1, vi p2, vi p3, vi p4, vi p5, vi (2 : Int32), vl w0, us, vl w1, us, vl w2, us, vl w3, us, vl vt, us, uu, uu, uu, uu, uu, uu, uu, uu] [(.ref nb_14)]) _
      refine XS.astore X14.here hx rfl (hb hby at_64) rfl rfl (l' := #[vi p0, vi p1, vi p2, vi p3, vi p4, vi p5, vi (2 : Int32), vl w0, us, vl w1, us, vl w2, us, vl w3, us, vl vt, us, vr nb_14, uu, uu, uu, uu, uu, uu, uu]) rfl ?_
      show SS p e below T14 (mkF m 66 #[vi p0, vi p1, vi p2, vi p3, vi p4, vi p5, vi (2 : Int32), vl w0, us, vl w1, us, vl w2, us, vl w3, us, vl vt, us, vr nb_14, uu, uu, uu, uu, uu, uu, uu] []) _
      refine st15 _ ?_
      show SS p e below T15 (mkF m 69 #[vi p0, vi p1, vi p2, vi p3, vi p4, vi p5, vi (2 : Int32), vl w0, us, vl w1, us, vl w2, us, vl w3, us, vl vt, us, vr nb_14, uu, uu, uu, uu, uu, uu, uu] [(.ref b15)]) _
      refine XS.dup X15.here hx rfl (hb hby at_69) rfl rfl ?_
      show SS p e below T15 (mkF m 70 #[vi p0, vi p1, vi p2, vi p3, vi p4, vi p5, vi (2 : Int32), vl w0, us, vl w1, us, vl w2, us, vl w3, us, vl vt, us, vr nb_14, uu, uu, uu, uu, uu, uu, uu] [(.ref b15), (.ref b15)]) _
      refine XS.aload X15.here hx rfl (hb hby at_70) rfl rfl ?_
      show SS p e below T15 (mkF m 72 #[vi p0, vi p1, vi p2, vi p3, vi p4, vi p5, vi (2 : Int32), vl w0, us, vl w1, us, vl w2, us, vl w3, us, vl vt, us, vr nb_14, uu, uu, uu, uu, uu, uu, uu] [(.ref nb_14), (.ref b15), (.ref b15)]) _
      refine XS.lload X15.here hx rfl (hb hby at_72) rfl ?_
      show SS p e below T15 (mkF m 74 #[vi p0, vi p1, vi p2, vi p3, vi p4, vi p5, vi (2 : Int32), vl w0, us, vl w1, us, vl w2, us, vl w3, us, vl vt, us, vr nb_14, uu, uu, uu, uu, uu, uu, uu] [(.long vt), (.ref nb_14), (.ref b15), (.ref b15)]) _
      refine XS.l2dS X15.here hx rfl (hb hby at_74) rfl (v := (FP.l2d vt)) rfl ?_
      show SS p e below T15 (mkF m 75 #[vi p0, vi p1, vi p2, vi p3, vi p4, vi p5, vi (2 : Int32), vl w0, us, vl w1, us, vl w2, us, vl w3, us, vl vt, us, vr nb_14, uu, uu, uu, uu, uu, uu, uu] [(.double (FP.l2d vt)), (.ref nb_14), (.ref b15), (.ref b15)]) _
      refine st16.trans ?_
      show SS p e below T16 (mkF m 78 #[vi p0, vi p1, vi p2, vi p3, vi p4, vi p5, vi (2 : Int32), vl w0, us, vl w1, us, vl w2, us, vl w3, us, vl vt, us, vr nb_14, uu, uu, uu, uu, uu, uu, uu] [(.ref b15)]) _
      refine XS.astore X16.here hx rfl (hb hby at_78) rfl rfl (l' := #[vi p0, vi p1, vi p2, vi p3, vi p4, vi p5, vi (2 : Int32), vl w0, us, vl w1, us, vl w2, us, vl w3, us, vl vt, us, vr nb_14, vr b15, uu, uu, uu, uu, uu, uu]) rfl ?_
      show SS p e below T16 (mkF m 80 #[vi p0, vi p1, vi p2, vi p3, vi p4, vi p5, vi (2 : Int32), vl w0, us, vl w1, us, vl w2, us, vl w3, us, vl vt, us, vr nb_14, vr b15, uu, uu, uu, uu, uu, uu] []) _
      refine XS.aload X16.here hx rfl (hb hby at_80) rfl rfl ?_
      show SS p e below T16 (mkF m 82 #[vi p0, vi p1, vi p2, vi p3, vi p4, vi p5, vi (2 : Int32), vl w0, us, vl w1, us, vl w2, us, vl w3, us, vl vt, us, vr nb_14, vr b15, uu, uu, uu, uu, uu, uu] [(.ref b15)]) _
      refine st19.trans ?_
      show SS p e below T19 (mkF m 85 #[vi p0, vi p1, vi p2, vi p3, vi p4, vi p5, vi (2 : Int32), vl w0, us, vl w1, us, vl w2, us, vl w3, us, vl vt, us, vr nb_14, vr b15, uu, uu, uu, uu, uu, uu] [(.double (FP.ddiv (FP.l2d ((0 : Int64) + w1)) (FP.l2d vt)))]) _
      refine XS.dstore X19.here hx rfl (hb hby at_85) rfl (l' := #[vi p0, vi p1, vi p2, vi p3, vi p4, vi p5, vi (2 : Int32), vl w0, us, vl w1, us, vl w2, us, vl w3, us, vl vt, us, vr nb_14, vr b15, vd (FP.ddiv (FP.l2d ((0 : Int64) + w1)) (FP.l2d vt)), us, uu, uu, uu, uu]) rfl ?_
      show SS p e below T19 (mkF m 87 #[vi p0, vi p1, vi p2, vi p3, vi p4, vi p5, vi (2 : Int32), vl w0, us, vl w1, us, vl w2, us, vl w3, us, vl vt, us, vr nb_14, vr b15, vd (FP.ddiv (FP.l2d ((0 : Int64) + w1)) (FP.l2d vt)), us, uu, uu, uu, uu] []) _
      refine XS.lconst X19.here hx rfl (hb hby at_87) ?_
      show SS p e below T19 (mkF m 88 #[vi p0, vi p1, vi p2, vi p3, vi p4, vi p5, vi (2 : Int32), vl w0, us, vl w1, us, vl w2, us, vl w3, us, vl vt, us, vr nb_14, vr b15, vd (FP.ddiv (FP.l2d ((0 : Int64) + w1)) (FP.l2d vt)), us, uu, uu, uu, uu] [(.long (0 : Int64))]) _
      refine XS.lstore X19.here hx rfl (hb hby at_88) rfl (l' := #[vi p0, vi p1, vi p2, vi p3, vi p4, vi p5, vi (2 : Int32), vl w0, us, vl w1, us, vl w2, us, vl w3, us, vl vt, us, vr nb_14, vr b15, vd (FP.ddiv (FP.l2d ((0 : Int64) + w1)) (FP.l2d vt)), us, vl (0 : Int64), us, uu, uu]) rfl ?_
      show SS p e below T19 (mkF m 90 #[vi p0, vi p1, vi p2, vi p3, vi p4, vi p5, vi (2 : Int32), vl w0, us, vl w1, us, vl w2, us, vl w3, us, vl vt, us, vr nb_14, vr b15, vd (FP.ddiv (FP.l2d ((0 : Int64) + w1)) (FP.l2d vt)), us, vl (0 : Int64), us, uu, uu] []) _
      refine XS.iload X19.here hx rfl (hb hby at_90) rfl ?_
      show SS p e below T19 (mkF m 92 #[vi p0, vi p1, vi p2, vi p3, vi p4, vi p5, vi (2 : Int32), vl w0, us, vl w1, us, vl w2, us, vl w3, us, vl vt, us, vr nb_14, vr b15, vd (FP.ddiv (FP.l2d ((0 : Int64) + w1)) (FP.l2d vt)), us, vl (0 : Int64), us, uu, uu] [(.int (2 : Int32))]) _
      refine XS.iconst X19.here hx rfl (hb hby at_92) ?_
      show SS p e below T19 (mkF m 93 #[vi p0, vi p1, vi p2, vi p3, vi p4, vi p5, vi (2 : Int32), vl w0, us, vl w1, us, vl w2, us, vl w3, us, vl vt, us, vr nb_14, vr b15, vd (FP.ddiv (FP.l2d ((0 : Int64) + w1)) (FP.l2d vt)), us, vl (0 : Int64), us, uu, uu] [(.int (1 : Int32)), (.int (2 : Int32))]) _
      refine XS.icmpNo X19.here hx rfl (hb hby at_93) rfl (tlt (by decide : (1 : Int32) < (2 : Int32))).2.2.2 ?_
      show SS p e below T19 (mkF m 96 #[vi p0, vi p1, vi p2, vi p3, vi p4, vi p5, vi (2 : Int32), vl w0, us, vl w1, us, vl w2, us, vl w3, us, vl vt, us, vr nb_14, vr b15, vd (FP.ddiv (FP.l2d ((0 : Int64) + w1)) (FP.l2d vt)), us, vl (0 : Int64), us, uu, uu] []) _
      refine XS.lload X19.here hx rfl (hb hby at_96) rfl ?_
      show SS p e below T19 (mkF m 98 #[vi p0, vi p1, vi p2, vi p3, vi p4, vi p5, vi (2 : Int32), vl w0, us, vl w1, us, vl w2, us, vl w3, us, vl vt, us, vr nb_14, vr b15, vd (FP.ddiv (FP.l2d ((0 : Int64) + w1)) (FP.l2d vt)), us, vl (0 : Int64), us, uu, uu] [(.long (0 : Int64))]) _
      refine XS.lload X19.here hx rfl (hb hby at_98) rfl ?_
      show SS p e below T19 (mkF m 100 #[vi p0, vi p1, vi p2, vi p3, vi p4, vi p5, vi (2 : Int32), vl w0, us, vl w1, us, vl w2, us, vl w3, us, vl vt, us, vr nb_14, vr b15, vd (FP.ddiv (FP.l2d ((0 : Int64) + w1)) (FP.l2d vt)), us, vl (0 : Int64), us, uu, uu] [(.long w1), (.long (0 : Int64))]) _
      refine XS.ladd X19.here hx rfl (hb hby at_100) rfl ?_
      show SS p e below T19 (mkF m 101 #[vi p0, vi p1, vi p2, vi p3, vi p4, vi p5, vi (2 : Int32), vl w0, us, vl w1, us, vl w2, us, vl w3, us, vl vt, us, vr nb_14, vr b15, vd (FP.ddiv (FP.l2d ((0 : Int64) + w1)) (FP.l2d vt)), us, vl (0 : Int64), us, uu, uu] [(.long ((0 : Int64) + w1))]) _
      refine XS.lstore X19.here hx rfl (hb hby at_101) rfl (l' := #[vi p0, vi p1, vi p2, vi p3, vi p4, vi p5, vi (2 : Int32), vl w0, us, vl w1, us, vl w2, us, vl w3, us, vl vt, us, vr nb_14, vr b15, vd (FP.ddiv (FP.l2d ((0 : Int64) + w1)) (FP.l2d vt)), us, vl ((0 : Int64) + w1), us, uu, uu]) rfl ?_
      show SS p e below T19 (mkF m 103 #[vi p0, vi p1, vi p2, vi p3, vi p4, vi p5, vi (2 : Int32), vl w0, us, vl w1, us, vl w2, us, vl w3, us, vl vt, us, vr nb_14, vr b15, vd (FP.ddiv (FP.l2d ((0 : Int64) + w1)) (FP.l2d vt)), us, vl ((0 : Int64) + w1), us, uu, uu] []) _
      refine XS.iload X19.here hx rfl (hb hby at_103) rfl ?_
      show SS p e below T19 (mkF m 105 #[vi p0, vi p1, vi p2, vi p3, vi p4, vi p5, vi (2 : Int32), vl w0, us, vl w1, us, vl w2, us, vl w3, us, vl vt, us, vr nb_14, vr b15, vd (FP.ddiv (FP.l2d ((0 : Int64) + w1)) (FP.l2d vt)), us, vl ((0 : Int64) + w1), us, uu, uu] [(.int (2 : Int32))]) _
      refine XS.iconst X19.here hx rfl (hb hby at_105) ?_
      show SS p e below T19 (mkF m 106 #[vi p0, vi p1, vi p2, vi p3, vi p4, vi p5, vi (2 : Int32), vl w0, us, vl w1, us, vl w2, us, vl w3, us, vl vt, us, vr nb_14, vr b15, vd (FP.ddiv (FP.l2d ((0 : Int64) + w1)) (FP.l2d vt)), us, vl ((0 : Int64) + w1), us, uu, uu] [(.int (2 : Int32)), (.int (2 : Int32))]) _
      refine XS.icmpYes X19.here hx rfl (pc0 := 106) (pc' := 120) rfl (hb hby at_106) rfl (flt (by decide : ¬ ((2 : Int32) < (2 : Int32)))).2.2.2 (by decide) (by decide) ?_
      show SS p e below T19 (mkF m 120 #[vi p0, vi p1, vi p2, vi p3, vi p4, vi p5, vi (2 : Int32), vl w0, us, vl w1, us, vl w2, us, vl w3, us, vl vt, us, vr nb_14, vr b15, vd (FP.ddiv (FP.l2d ((0 : Int64) + w1)) (FP.l2d vt)), us, vl ((0 : Int64) + w1), us, uu, uu] []) _
      refine XS.iload X19.here hx rfl (hb hby at_120) rfl ?_
      show SS p e below T19 (mkF m 122 #[vi p0, vi p1, vi p2, vi p3, vi p4, vi p5, vi (2 : Int32), vl w0, us, vl w1, us, vl w2, us, vl w3, us, vl vt, us, vr nb_14, vr b15, vd (FP.ddiv (FP.l2d ((0 : Int64) + w1)) (FP.l2d vt)), us, vl ((0 : Int64) + w1), us, uu, uu] [(.int (2 : Int32))]) _
      refine XS.iconst X19.here hx rfl (hb hby at_122) ?_
      show SS p e below T19 (mkF m 123 #[vi p0, vi p1, vi p2, vi p3, vi p4, vi p5, vi (2 : Int32), vl w0, us, vl w1, us, vl w2, us, vl w3, us, vl vt, us, vr nb_14, vr b15, vd (FP.ddiv (FP.l2d ((0 : Int64) + w1)) (FP.l2d vt)), us, vl ((0 : Int64) + w1), us, uu, uu] [(.int (3 : Int32)), (.int (2 : Int32))]) _
      refine XS.icmpYes X19.here hx rfl (pc0 := 123) (pc' := 137) rfl (hb hby at_123) rfl (flt (by decide : ¬ ((3 : Int32) < (2 : Int32)))).2.2.2 (by decide) (by decide) ?_
      show SS p e below T19 (mkF m 137 #[vi p0, vi p1, vi p2, vi p3, vi p4, vi p5, vi (2 : Int32), vl w0, us, vl w1, us, vl w2, us, vl w3, us, vl vt, us, vr nb_14, vr b15, vd (FP.ddiv (FP.l2d ((0 : Int64) + w1)) (FP.l2d vt)), us, vl ((0 : Int64) + w1), us, uu, uu] []) _
      refine XS.lload X19.here hx rfl (hb hby at_137) rfl ?_
      show SS p e below T19 (mkF m 139 #[vi p0, vi p1, vi p2, vi p3, vi p4, vi p5, vi (2 : Int32), vl w0, us, vl w1, us, vl w2, us, vl w3, us, vl vt, us, vr nb_14, vr b15, vd (FP.ddiv (FP.l2d ((0 : Int64) + w1)) (FP.l2d vt)), us, vl ((0 : Int64) + w1), us, uu, uu] [(.long ((0 : Int64) + w1))]) _
      refine XS.l2dS X19.here hx rfl (hb hby at_139) rfl (v := (FP.l2d ((0 : Int64) + w1))) rfl ?_
      show SS p e below T19 (mkF m 140 #[vi p0, vi p1, vi p2, vi p3, vi p4, vi p5, vi (2 : Int32), vl w0, us, vl w1, us, vl w2, us, vl w3, us, vl vt, us, vr nb_14, vr b15, vd (FP.ddiv (FP.l2d ((0 : Int64) + w1)) (FP.l2d vt)), us, vl ((0 : Int64) + w1), us, uu, uu] [(.double (FP.l2d ((0 : Int64) + w1)))]) _
      refine XS.lload X19.here hx rfl (hb hby at_140) rfl ?_
      show SS p e below T19 (mkF m 142 #[vi p0, vi p1, vi p2, vi p3, vi p4, vi p5, vi (2 : Int32), vl w0, us, vl w1, us, vl w2, us, vl w3, us, vl vt, us, vr nb_14, vr b15, vd (FP.ddiv (FP.l2d ((0 : Int64) + w1)) (FP.l2d vt)), us, vl ((0 : Int64) + w1), us, uu, uu] [(.long vt), (.double (FP.l2d ((0 : Int64) + w1)))]) _
      refine XS.l2dS X19.here hx rfl (hb hby at_142) rfl (v := (FP.l2d vt)) rfl ?_
      show SS p e below T19 (mkF m 143 #[vi p0, vi p1, vi p2, vi p3, vi p4, vi p5, vi (2 : Int32), vl w0, us, vl w1, us, vl w2, us, vl w3, us, vl vt, us, vr nb_14, vr b15, vd (FP.ddiv (FP.l2d ((0 : Int64) + w1)) (FP.l2d vt)), us, vl ((0 : Int64) + w1), us, uu, uu] [(.double (FP.l2d vt)), (.double (FP.l2d ((0 : Int64) + w1)))]) _
      refine XS.ddivS X19.here hx rfl (hb hby at_143) rfl (v := (FP.ddiv (FP.l2d ((0 : Int64) + w1)) (FP.l2d vt))) (own_dnn _ unz) rfl ?_
      show SS p e below T19 (mkF m 144 #[vi p0, vi p1, vi p2, vi p3, vi p4, vi p5, vi (2 : Int32), vl w0, us, vl w1, us, vl w2, us, vl w3, us, vl vt, us, vr nb_14, vr b15, vd (FP.ddiv (FP.l2d ((0 : Int64) + w1)) (FP.l2d vt)), us, vl ((0 : Int64) + w1), us, uu, uu] [(.double (FP.ddiv (FP.l2d ((0 : Int64) + w1)) (FP.l2d vt)))]) _
      refine XS.dstore X19.here hx rfl (hb hby at_144) rfl (l' := #[vi p0, vi p1, vi p2, vi p3, vi p4, vi p5, vi (2 : Int32), vl w0, us, vl w1, us, vl w2, us, vl w3, us, vl vt, us, vr nb_14, vr b15, vd (FP.ddiv (FP.l2d ((0 : Int64) + w1)) (FP.l2d vt)), us, vl ((0 : Int64) + w1), us, vd (FP.ddiv (FP.l2d ((0 : Int64) + w1)) (FP.l2d vt)), us]) rfl ?_
      show SS p e below T19 (mkF m 146 #[vi p0, vi p1, vi p2, vi p3, vi p4, vi p5, vi (2 : Int32), vl w0, us, vl w1, us, vl w2, us, vl w3, us, vl vt, us, vr nb_14, vr b15, vd (FP.ddiv (FP.l2d ((0 : Int64) + w1)) (FP.l2d vt)), us, vl ((0 : Int64) + w1), us, vd (FP.ddiv (FP.l2d ((0 : Int64) + w1)) (FP.l2d vt)), us] []) _
      refine XS.dload X19.here hx rfl (hb hby at_146) rfl ?_
      show SS p e below T19 (mkF m 148 #[vi p0, vi p1, vi p2, vi p3, vi p4, vi p5, vi (2 : Int32), vl w0, us, vl w1, us, vl w2, us, vl w3, us, vl vt, us, vr nb_14, vr b15, vd (FP.ddiv (FP.l2d ((0 : Int64) + w1)) (FP.l2d vt)), us, vl ((0 : Int64) + w1), us, vd (FP.ddiv (FP.l2d ((0 : Int64) + w1)) (FP.l2d vt)), us] [(.double (FP.ddiv (FP.l2d ((0 : Int64) + w1)) (FP.l2d vt)))]) _
      refine XS.dload X19.here hx rfl (hb hby at_148) rfl ?_
      show SS p e below T19 (mkF m 150 #[vi p0, vi p1, vi p2, vi p3, vi p4, vi p5, vi (2 : Int32), vl w0, us, vl w1, us, vl w2, us, vl w3, us, vl vt, us, vr nb_14, vr b15, vd (FP.ddiv (FP.l2d ((0 : Int64) + w1)) (FP.l2d vt)), us, vl ((0 : Int64) + w1), us, vd (FP.ddiv (FP.l2d ((0 : Int64) + w1)) (FP.l2d vt)), us] [(.double (FP.ddiv (FP.l2d ((0 : Int64) + w1)) (FP.l2d vt))), (.double (FP.ddiv (FP.l2d ((0 : Int64) + w1)) (FP.l2d vt)))]) _
      refine XS.dcmpS X19.here hx rfl (hb hby at_150) rfl (v := (0 : Int32)) (dcmpV_self (own_dnn _ unz) _) ?_
      show SS p e below T19 (mkF m 151 #[vi p0, vi p1, vi p2, vi p3, vi p4, vi p5, vi (2 : Int32), vl w0, us, vl w1, us, vl w2, us, vl w3, us, vl vt, us, vr nb_14, vr b15, vd (FP.ddiv (FP.l2d ((0 : Int64) + w1)) (FP.l2d vt)), us, vl ((0 : Int64) + w1), us, vd (FP.ddiv (FP.l2d ((0 : Int64) + w1)) (FP.l2d vt)), us] [(.int (0 : Int32))]) _
      refine XS.ifNo X19.here hx rfl (hb hby at_151) rfl ((if0 _ _).trans (teq (rfl : (0 : Int32) = (0 : Int32))).2) ?_
      show SS p e below T19 (mkF m 154 #[vi p0, vi p1, vi p2, vi p3, vi p4, vi p5, vi (2 : Int32), vl w0, us, vl w1, us, vl w2, us, vl w3, us, vl vt, us, vr nb_14, vr b15, vd (FP.ddiv (FP.l2d ((0 : Int64) + w1)) (FP.l2d vt)), us, vl ((0 : Int64) + w1), us, vd (FP.ddiv (FP.l2d ((0 : Int64) + w1)) (FP.l2d vt)), us] []) _
      refine XS.iconst X19.here hx rfl (hb hby at_154) ?_
      show SS p e below T19 (mkF m 155 #[vi p0, vi p1, vi p2, vi p3, vi p4, vi p5, vi (2 : Int32), vl w0, us, vl w1, us, vl w2, us, vl w3, us, vl vt, us, vr nb_14, vr b15, vd (FP.ddiv (FP.l2d ((0 : Int64) + w1)) (FP.l2d vt)), us, vl ((0 : Int64) + w1), us, vd (FP.ddiv (FP.l2d ((0 : Int64) + w1)) (FP.l2d vt)), us] [(.int (1 : Int32))]) _
      refine XS.goto X19.here hx rfl (pc0 := 155) (pc' := 159) rfl (hb hby at_155) (by decide) (by decide) ?_
      show SS p e below T19 (mkF m 159 #[vi p0, vi p1, vi p2, vi p3, vi p4, vi p5, vi (2 : Int32), vl w0, us, vl w1, us, vl w2, us, vl w3, us, vl vt, us, vr nb_14, vr b15, vd (FP.ddiv (FP.l2d ((0 : Int64) + w1)) (FP.l2d vt)), us, vl ((0 : Int64) + w1), us, vd (FP.ddiv (FP.l2d ((0 : Int64) + w1)) (FP.l2d vt)), us] [(.int (1 : Int32))]) _
      exact retN X19 hx (t := .boolean) Bd.returns (by simp) (hb hby at_159) hr
    · show Q_rm0 Z p0 p1 p2 p3 p4 p5 w0 w1 w2 w3 vt (2 : Int32) h0 n0 _ T19.heap _
      rw [eh19]
      exact ⟨rfl, N19⟩
  · obtain ⟨_, _, ⟨T20, L20, k20, n20⟩, -, X20, ⟨Lc20, hQ20, l20, y20, z20⟩, st20⟩ := Jvm.LawKit.callS X0 hx (y := (⟨"org/quarrel/model/DistributionMeanPinLaw", "weights", "(IDDDD)[D"⟩ : MethodName)) hown (mvT hZ (wd hw 1 rfl)) (mvT hZ (wd hw 2 rfl)) (mvT hZ (wd hw 3 rfl)) (mvT hZ (wd hw 4 rfl)) (by decide) (backOf (W := 0) (rmW3 l Z a0 hw [] (FP.l2d w0) (FP.l2d w1) (FP.l2d w2) (FP.l2d w3) h0 n0 Z0) hZ (wd hw 4 rfl) (wd hw 3 rfl) (by decide) (by decide)) (g := (mkF m 61 #[vi p0, vi p1, vi p2, vi p3, vi p4, vi p5, vi (3 : Int32), vl w0, us, vl w1, us, vl w2, us, vl w3, us, vl vt, us, uu, uu, uu, uu, uu, uu, uu, uu] [(.double (FP.l2d w3)), (.double (FP.l2d w2)), (.double (FP.l2d w1)), (.double (FP.l2d w0)), (.int (3 : Int32))])) rfl (by rw [hml]; rfl) (argsL := [(.int (3 : Int32)), (.double (FP.l2d w0)), (.double (FP.l2d w1)), (.double (FP.l2d w2)), (.double (FP.l2d w3))]) (rest := []) (lenOf pd_3 rfl) rfl (by show 2 * 0 + _ ≤ _; exact Nat.le_of_eq rfl) (hb hby at_61) (fun _ _ => ⟨rfl, e0, (by decide : 0 + 1 ≤ _), (by decide : 0 + 3 ≤ _)⟩)
    dsimp only [Pt.U, Pt.locs, Pt.cells, Pt.slots] at X20 l20 y20 z20 st20 hQ20
    subst l20 y20 z20
    obtain ⟨nb_20, kn_20, rfl, Nq20, Kq20, f20_0, f20_1, f20_2⟩ := hQ20
    have N20 := Fr.app N0 Nq20
    have g_nb_20 : n0 ≤ nb_20 := Nat.le_trans Z0 f20_0
    have sz_nb_20 : h0.size ≤ nb_20 := Nat.le_trans (Keep.refl h0 []).1 f20_0
    have K20 : Keep h0 T20.heap [] := (Keep.refl h0 []).trans Kq20 all0
    have Z20 : n0 ≤ T20.heap.size := Nat.le_trans Z0 Kq20.1
    obtain ⟨T21, h21, X21, e21, E21, A21, D21, Un21, st21⟩ := newO X20 hx hZ hown (wd hw 6 rfl) (wd hw 7 rfl) (wd hw 8 rfl) rfl (g := (mkF m 66 #[vi p0, vi p1, vi p2, vi p3, vi p4, vi p5, vi (3 : Int32), vl w0, us, vl w1, us, vl w2, us, vl w3, us, vl vt, us, vr nb_20, uu, uu, uu, uu, uu, uu, uu] [])) rfl (hb hby at_66) (by decide) (by decide)
    obtain ⟨b21, g21⟩ : ∃ z, z = T20.heap.size := ⟨_, rfl⟩
    rw [← g21] at A21 D21 Un21 st21
    have ne_nb_20_b21 : nb_20 ≠ b21 := Nat.ne_of_lt (Nat.lt_of_lt_of_le f20_1.lt (Nat.le_of_eq g21.symm))
    have F21_weights : Fld Z h21 b21 "org/quarrel/model/Distribution" "weights" "[D" .null := D21 (Or.inr (wd hw 25 rfl)) (ty := (.array .double)) (by decide)
    have F21_total : Fld Z h21 b21 "org/quarrel/model/Distribution" "total" "D" (.double 0) := D21 (Or.inr (wd hw 27 rfl)) (ty := .double) (by decide)
    have g_b21 : n0 ≤ b21 := Nat.le_trans Z20 (Nat.le_of_eq g21.symm)
    have sz_b21 : h0.size ≤ b21 := Nat.le_trans K20.1 (Nat.le_of_eq g21.symm)
    have K21 : Keep h0 h21 [] := K20.ext E21
    have Z21 : n0 ≤ h21.size := Nat.le_trans Z20 E21.1
    have c23 := (f20_1.ext E21)
    have c24 := (f20_2.ext E21)
    obtain ⟨_, _, ⟨T22, L22, k22, n22⟩, -, X22, ⟨Lc22, hQ22, l22, y22, z22⟩, st22⟩ := X21.specialBack hx (y := (⟨"org/quarrel/model/Distribution", "<init>", "([DD)V"⟩ : MethodName)) rfl hown (mvT hZ (wd hw 9 rfl)) (mvT hZ (wd hw 10 rfl)) (mvT hZ (wd hw 11 rfl)) (by decide) (backOf (W := 1) (rmI3 l Z a0 hw [] b21 nb_20 (FP.l2d vt) kn_20 w0 w1 w2 h21 n0 Z21 A21 F21_weights F21_total g_b21 c23 c24 uz_w0 ut_w0 uz_w1 ut_w1 uz_w2 ut_w2) hZ (wd hw 11 rfl) (wd hw 8 rfl) (by decide) (by decide)) (g := (mkF m 75 #[vi p0, vi p1, vi p2, vi p3, vi p4, vi p5, vi (3 : Int32), vl w0, us, vl w1, us, vl w2, us, vl w3, us, vl vt, us, vr nb_20, uu, uu, uu, uu, uu, uu, uu] [(.double (FP.l2d vt)), (.ref nb_20), (.ref b21), (.ref b21)])) rfl (by rw [hml]; rfl) (Steps.refl _) (a := b21) (argsL := [(.ref nb_20), (.double (FP.l2d vt))]) (rest := [(.ref b21)]) (lenOf pd_4 rfl) rfl (by show 2 * 0 + _ ≤ _; exact Nat.le_of_eq rfl) (hb hby at_75) (fun _ _ => ⟨rfl, e21, (by decide : 2 + 1 ≤ _), (by decide : 5 + 3 ≤ _)⟩)
    dsimp only [Pt.U, Pt.locs, Pt.cells, Pt.slots] at X22 l22 y22 z22 st22 hQ22
    subst l22 y22 z22
    obtain ⟨nb_22, rfl, Nq22, Kq22, f22_0, f22_1, f22_2, f22_3, f22_4⟩ := hQ22
    have N22 := Fr.app N20 Nq22
    have ne_nb_20_nb_22 : nb_20 ≠ nb_22 := Nat.ne_of_lt (Nat.lt_of_lt_of_le c23.lt f22_3)
    have ne_b21_nb_22 : b21 ≠ nb_22 := Nat.ne_of_lt (Nat.lt_of_lt_of_le A21.lt f22_3)
    have g_nb_22 : n0 ≤ nb_22 := Nat.le_trans Z21 f22_3
    have sz_nb_22 : h0.size ≤ nb_22 := Nat.le_trans K21.1 f22_3
    have K22 : Keep h0 T22.heap [] := K21.trans Kq22 (allS (Or.inr sz_b21) all0)
    have Z22 : n0 ≤ T22.heap.size := Nat.le_trans Z21 Kq22.1
    obtain ⟨cq25, kq25, q25a, q25b, q25c⟩ := isOf hZ rfl f22_0
    obtain ⟨_, _, ⟨T25, L25, k25, n25⟩, -, X25, ⟨Lc25, hQ25, l25, y25, z25⟩, st25⟩ := X22.virtualBack hx (y := (⟨"org/quarrel/model/Distribution", "mean", "()D"⟩ : MethodName)) (z := (⟨"org/quarrel/model/Distribution", "mean", "()D"⟩ : MethodName)) hown (mvT hZ (wd hw 28 rfl)) (mvT hZ (wd hw 29 rfl)) (notFace_of_selects (args := #[]) (mvT hZ (wd hw 31 rfl))) (mvT hZ (wd hw 31 rfl)) (mvT hZ (wd hw 30 rfl)) (by decide) (backOf (W := 0) (rmM3 l Z a0 hw [] b21 nb_22 kn_20 vt w0 w1 w2 T22.heap n0 Z22 f22_1 f22_2 f22_4 unz uz_w0 ut_w0 uz_w1 ut_w1 uz_w2 ut_w2) hZ (wd hw 32 rfl) (wd hw 8 rfl) (by decide) (by decide)) q25a q25c (g := (mkF m 82 #[vi p0, vi p1, vi p2, vi p3, vi p4, vi p5, vi (3 : Int32), vl w0, us, vl w1, us, vl w2, us, vl w3, us, vl vt, us, vr nb_20, vr b21, uu, uu, uu, uu, uu, uu] [(.ref b21)])) rfl (by rw [hml]; rfl) (Steps.refl _) (argsL := []) (rest := []) (lenOf pd_5 rfl) rfl (by show 2 * 0 + _ ≤ _; exact Nat.le_of_eq rfl) (hb hby at_82) (fun _ _ => ⟨rfl, rfl, (by decide : 3 + 0 ≤ _), (by decide : 8 + 0 ≤ _)⟩)
    dsimp only [Pt.U, Pt.locs, Pt.cells, Pt.slots] at X25 l25 y25 z25 st25 hQ25
    subst l25 y25 z25
    obtain ⟨rfl, Nq25, eh25⟩ := hQ25
    have N25 := Fr.app N22 Nq25
    obtain ⟨fs, hr, hrun, hended, hW, hsame⟩ := X25.leave (v := some (.int (nar .boolean (1 : Int32)))) (fun h => by rw [Bd.returns] at h; cases h)
    refine ⟨_, _, pre0 _ ?_, hrun, hended, _, _, rfl, ?_, ⟨_, rfl⟩, hW, hsame.mono (by decide) (by decide)⟩
    · refine sg1 _ ?_
      show SS p e below s₁ (mkF m 61 #[vi p0, vi p1, vi p2, vi p3, vi p4, vi p5, vi (3 : Int32), vl w0, us, vl w1, us, vl w2, us, vl w3, us, vl vt, us, uu, uu, uu, uu, uu, uu, uu, uu] [(.double (FP.l2d w3)), (.double (FP.l2d w2)), (.double (FP.l2d w1)), (.double (FP.l2d w0)), (.int (3 : Int32))]) _
      refine st20 _ ?_
      show SS p e below T20 (mkF m 64 #[vi p0, vi p1, vi p2, vi p3, vi p4, vi p5, vi (3 : Int32), vl w0, us, vl w1, us, vl w2, us, vl w3, us, vl vt, us, uu, uu, uu, uu, uu, uu, uu, uu] [(.ref nb_20)]) _
      refine XS.astore X20.here hx rfl (hb hby at_64) rfl rfl (l' := #[vi p0, vi p1, vi p2, vi p3, vi p4, vi p5, vi (3 : Int32), vl w0, us, vl w1, us, vl w2, us, vl w3, us, vl vt, us, vr nb_20, uu, uu, uu, uu, uu, uu, uu]) rfl ?_
      show SS p e below T20 (mkF m 66 #[vi p0, vi p1, vi p2, vi p3, vi p4, vi p5, vi (3 : Int32), vl w0, us, vl w1, us, vl w2, us, vl w3, us, vl vt, us, vr nb_20, uu, uu, uu, uu, uu, uu, uu] []) _
      refine st21 _ ?_
      show SS p e below T21 (mkF m 69 #[vi p0, vi p1, vi p2, vi p3, vi p4, vi p5, vi (3 : Int32), vl w0, us, vl w1, us, vl w2, us, vl w3, us, vl vt, us, vr nb_20, uu, uu, uu, uu, uu, uu, uu] [(.ref b21)]) _
      refine XS.dup X21.here hx rfl (hb hby at_69) rfl rfl ?_
      show SS p e below T21 (mkF m 70 #[vi p0, vi p1, vi p2, vi p3, vi p4, vi p5, vi (3 : Int32), vl w0, us, vl w1, us, vl w2, us, vl w3, us, vl vt, us, vr nb_20, uu, uu, uu, uu, uu, uu, uu] [(.ref b21), (.ref b21)]) _
      refine XS.aload X21.here hx rfl (hb hby at_70) rfl rfl ?_
      show SS p e below T21 (mkF m 72 #[vi p0, vi p1, vi p2, vi p3, vi p4, vi p5, vi (3 : Int32), vl w0, us, vl w1, us, vl w2, us, vl w3, us, vl vt, us, vr nb_20, uu, uu, uu, uu, uu, uu, uu] [(.ref nb_20), (.ref b21), (.ref b21)]) _
      refine XS.lload X21.here hx rfl (hb hby at_72) rfl ?_
      show SS p e below T21 (mkF m 74 #[vi p0, vi p1, vi p2, vi p3, vi p4, vi p5, vi (3 : Int32), vl w0, us, vl w1, us, vl w2, us, vl w3, us, vl vt, us, vr nb_20, uu, uu, uu, uu, uu, uu, uu] [(.long vt), (.ref nb_20), (.ref b21), (.ref b21)]) _
      refine XS.l2dS X21.here hx rfl (hb hby at_74) rfl (v := (FP.l2d vt)) rfl ?_
      show SS p e below T21 (mkF m 75 #[vi p0, vi p1, vi p2, vi p3, vi p4, vi p5, vi (3 : Int32), vl w0, us, vl w1, us, vl w2, us, vl w3, us, vl vt, us, vr nb_20, uu, uu, uu, uu, uu, uu, uu] [(.double (FP.l2d vt)), (.ref nb_20), (.ref b21), (.ref b21)]) _
      refine st22.trans ?_
      show SS p e below T22 (mkF m 78 #[vi p0, vi p1, vi p2, vi p3, vi p4, vi p5, vi (3 : Int32), vl w0, us, vl w1, us, vl w2, us, vl w3, us, vl vt, us, vr nb_20, uu, uu, uu, uu, uu, uu, uu] [(.ref b21)]) _
      refine XS.astore X22.here hx rfl (hb hby at_78) rfl rfl (l' := #[vi p0, vi p1, vi p2, vi p3, vi p4, vi p5, vi (3 : Int32), vl w0, us, vl w1, us, vl w2, us, vl w3, us, vl vt, us, vr nb_20, vr b21, uu, uu, uu, uu, uu, uu]) rfl ?_
      show SS p e below T22 (mkF m 80 #[vi p0, vi p1, vi p2, vi p3, vi p4, vi p5, vi (3 : Int32), vl w0, us, vl w1, us, vl w2, us, vl w3, us, vl vt, us, vr nb_20, vr b21, uu, uu, uu, uu, uu, uu] []) _
      refine XS.aload X22.here hx rfl (hb hby at_80) rfl rfl ?_
      show SS p e below T22 (mkF m 82 #[vi p0, vi p1, vi p2, vi p3, vi p4, vi p5, vi (3 : Int32), vl w0, us, vl w1, us, vl w2, us, vl w3, us, vl vt, us, vr nb_20, vr b21, uu, uu, uu, uu, uu, uu] [(.ref b21)]) _
      refine st25.trans ?_
      show SS p e below T25 (mkF m 85 #[vi p0, vi p1, vi p2, vi p3, vi p4, vi p5, vi (3 : Int32), vl w0, us, vl w1, us, vl w2, us, vl w3, us, vl vt, us, vr nb_20, vr b21, uu, uu, uu, uu, uu, uu] [(.double (FP.ddiv (FP.l2d (((0 : Int64) + w1) + ((2 : Int64) * w2))) (FP.l2d vt)))]) _
      refine XS.dstore X25.here hx rfl (hb hby at_85) rfl (l' := #[vi p0, vi p1, vi p2, vi p3, vi p4, vi p5, vi (3 : Int32), vl w0, us, vl w1, us, vl w2, us, vl w3, us, vl vt, us, vr nb_20, vr b21, vd (FP.ddiv (FP.l2d (((0 : Int64) + w1) + ((2 : Int64) * w2))) (FP.l2d vt)), us, uu, uu, uu, uu]) rfl ?_
      show SS p e below T25 (mkF m 87 #[vi p0, vi p1, vi p2, vi p3, vi p4, vi p5, vi (3 : Int32), vl w0, us, vl w1, us, vl w2, us, vl w3, us, vl vt, us, vr nb_20, vr b21, vd (FP.ddiv (FP.l2d (((0 : Int64) + w1) + ((2 : Int64) * w2))) (FP.l2d vt)), us, uu, uu, uu, uu] []) _
      refine XS.lconst X25.here hx rfl (hb hby at_87) ?_
      show SS p e below T25 (mkF m 88 #[vi p0, vi p1, vi p2, vi p3, vi p4, vi p5, vi (3 : Int32), vl w0, us, vl w1, us, vl w2, us, vl w3, us, vl vt, us, vr nb_20, vr b21, vd (FP.ddiv (FP.l2d (((0 : Int64) + w1) + ((2 : Int64) * w2))) (FP.l2d vt)), us, uu, uu, uu, uu] [(.long (0 : Int64))]) _
      refine XS.lstore X25.here hx rfl (hb hby at_88) rfl (l' := #[vi p0, vi p1, vi p2, vi p3, vi p4, vi p5, vi (3 : Int32), vl w0, us, vl w1, us, vl w2, us, vl w3, us, vl vt, us, vr nb_20, vr b21, vd (FP.ddiv (FP.l2d (((0 : Int64) + w1) + ((2 : Int64) * w2))) (FP.l2d vt)), us, vl (0 : Int64), us, uu, uu]) rfl ?_
      show SS p e below T25 (mkF m 90 #[vi p0, vi p1, vi p2, vi p3, vi p4, vi p5, vi (3 : Int32), vl w0, us, vl w1, us, vl w2, us, vl w3, us, vl vt, us, vr nb_20, vr b21, vd (FP.ddiv (FP.l2d (((0 : Int64) + w1) + ((2 : Int64) * w2))) (FP.l2d vt)), us, vl (0 : Int64), us, uu, uu] []) _
      refine XS.iload X25.here hx rfl (hb hby at_90) rfl ?_
      show SS p e below T25 (mkF m 92 #[vi p0, vi p1, vi p2, vi p3, vi p4, vi p5, vi (3 : Int32), vl w0, us, vl w1, us, vl w2, us, vl w3, us, vl vt, us, vr nb_20, vr b21, vd (FP.ddiv (FP.l2d (((0 : Int64) + w1) + ((2 : Int64) * w2))) (FP.l2d vt)), us, vl (0 : Int64), us, uu, uu] [(.int (3 : Int32))]) _
      refine XS.iconst X25.here hx rfl (hb hby at_92) ?_
      show SS p e below T25 (mkF m 93 #[vi p0, vi p1, vi p2, vi p3, vi p4, vi p5, vi (3 : Int32), vl w0, us, vl w1, us, vl w2, us, vl w3, us, vl vt, us, vr nb_20, vr b21, vd (FP.ddiv (FP.l2d (((0 : Int64) + w1) + ((2 : Int64) * w2))) (FP.l2d vt)), us, vl (0 : Int64), us, uu, uu] [(.int (1 : Int32)), (.int (3 : Int32))]) _
      refine XS.icmpNo X25.here hx rfl (hb hby at_93) rfl (tlt (by decide : (1 : Int32) < (3 : Int32))).2.2.2 ?_
      show SS p e below T25 (mkF m 96 #[vi p0, vi p1, vi p2, vi p3, vi p4, vi p5, vi (3 : Int32), vl w0, us, vl w1, us, vl w2, us, vl w3, us, vl vt, us, vr nb_20, vr b21, vd (FP.ddiv (FP.l2d (((0 : Int64) + w1) + ((2 : Int64) * w2))) (FP.l2d vt)), us, vl (0 : Int64), us, uu, uu] []) _
      refine XS.lload X25.here hx rfl (hb hby at_96) rfl ?_
      show SS p e below T25 (mkF m 98 #[vi p0, vi p1, vi p2, vi p3, vi p4, vi p5, vi (3 : Int32), vl w0, us, vl w1, us, vl w2, us, vl w3, us, vl vt, us, vr nb_20, vr b21, vd (FP.ddiv (FP.l2d (((0 : Int64) + w1) + ((2 : Int64) * w2))) (FP.l2d vt)), us, vl (0 : Int64), us, uu, uu] [(.long (0 : Int64))]) _
      refine XS.lload X25.here hx rfl (hb hby at_98) rfl ?_
      show SS p e below T25 (mkF m 100 #[vi p0, vi p1, vi p2, vi p3, vi p4, vi p5, vi (3 : Int32), vl w0, us, vl w1, us, vl w2, us, vl w3, us, vl vt, us, vr nb_20, vr b21, vd (FP.ddiv (FP.l2d (((0 : Int64) + w1) + ((2 : Int64) * w2))) (FP.l2d vt)), us, vl (0 : Int64), us, uu, uu] [(.long w1), (.long (0 : Int64))]) _
      refine XS.ladd X25.here hx rfl (hb hby at_100) rfl ?_
      show SS p e below T25 (mkF m 101 #[vi p0, vi p1, vi p2, vi p3, vi p4, vi p5, vi (3 : Int32), vl w0, us, vl w1, us, vl w2, us, vl w3, us, vl vt, us, vr nb_20, vr b21, vd (FP.ddiv (FP.l2d (((0 : Int64) + w1) + ((2 : Int64) * w2))) (FP.l2d vt)), us, vl (0 : Int64), us, uu, uu] [(.long ((0 : Int64) + w1))]) _
      refine XS.lstore X25.here hx rfl (hb hby at_101) rfl (l' := #[vi p0, vi p1, vi p2, vi p3, vi p4, vi p5, vi (3 : Int32), vl w0, us, vl w1, us, vl w2, us, vl w3, us, vl vt, us, vr nb_20, vr b21, vd (FP.ddiv (FP.l2d (((0 : Int64) + w1) + ((2 : Int64) * w2))) (FP.l2d vt)), us, vl ((0 : Int64) + w1), us, uu, uu]) rfl ?_
      show SS p e below T25 (mkF m 103 #[vi p0, vi p1, vi p2, vi p3, vi p4, vi p5, vi (3 : Int32), vl w0, us, vl w1, us, vl w2, us, vl w3, us, vl vt, us, vr nb_20, vr b21, vd (FP.ddiv (FP.l2d (((0 : Int64) + w1) + ((2 : Int64) * w2))) (FP.l2d vt)), us, vl ((0 : Int64) + w1), us, uu, uu] []) _
      refine XS.iload X25.here hx rfl (hb hby at_103) rfl ?_
      show SS p e below T25 (mkF m 105 #[vi p0, vi p1, vi p2, vi p3, vi p4, vi p5, vi (3 : Int32), vl w0, us, vl w1, us, vl w2, us, vl w3, us, vl vt, us, vr nb_20, vr b21, vd (FP.ddiv (FP.l2d (((0 : Int64) + w1) + ((2 : Int64) * w2))) (FP.l2d vt)), us, vl ((0 : Int64) + w1), us, uu, uu] [(.int (3 : Int32))]) _
      refine XS.iconst X25.here hx rfl (hb hby at_105) ?_
      show SS p e below T25 (mkF m 106 #[vi p0, vi p1, vi p2, vi p3, vi p4, vi p5, vi (3 : Int32), vl w0, us, vl w1, us, vl w2, us, vl w3, us, vl vt, us, vr nb_20, vr b21, vd (FP.ddiv (FP.l2d (((0 : Int64) + w1) + ((2 : Int64) * w2))) (FP.l2d vt)), us, vl ((0 : Int64) + w1), us, uu, uu] [(.int (2 : Int32)), (.int (3 : Int32))]) _
      refine XS.icmpNo X25.here hx rfl (hb hby at_106) rfl (tlt (by decide : (2 : Int32) < (3 : Int32))).2.2.2 ?_
      show SS p e below T25 (mkF m 109 #[vi p0, vi p1, vi p2, vi p3, vi p4, vi p5, vi (3 : Int32), vl w0, us, vl w1, us, vl w2, us, vl w3, us, vl vt, us, vr nb_20, vr b21, vd (FP.ddiv (FP.l2d (((0 : Int64) + w1) + ((2 : Int64) * w2))) (FP.l2d vt)), us, vl ((0 : Int64) + w1), us, uu, uu] []) _
      refine XS.lload X25.here hx rfl (hb hby at_109) rfl ?_
      show SS p e below T25 (mkF m 111 #[vi p0, vi p1, vi p2, vi p3, vi p4, vi p5, vi (3 : Int32), vl w0, us, vl w1, us, vl w2, us, vl w3, us, vl vt, us, vr nb_20, vr b21, vd (FP.ddiv (FP.l2d (((0 : Int64) + w1) + ((2 : Int64) * w2))) (FP.l2d vt)), us, vl ((0 : Int64) + w1), us, uu, uu] [(.long ((0 : Int64) + w1))]) _
      refine X25.ldc2Long hx hown (mvT hZ (wd hw 45 rfl)) (g := (mkF m 111 #[vi p0, vi p1, vi p2, vi p3, vi p4, vi p5, vi (3 : Int32), vl w0, us, vl w1, us, vl w2, us, vl w3, us, vl vt, us, vr nb_20, vr b21, vd (FP.ddiv (FP.l2d (((0 : Int64) + w1) + ((2 : Int64) * w2))) (FP.l2d vt)), us, vl ((0 : Int64) + w1), us, uu, uu] [(.long ((0 : Int64) + w1))])) rfl (hb hby at_111) _ ?_
      show SS p e below T25 (mkF m 114 #[vi p0, vi p1, vi p2, vi p3, vi p4, vi p5, vi (3 : Int32), vl w0, us, vl w1, us, vl w2, us, vl w3, us, vl vt, us, vr nb_20, vr b21, vd (FP.ddiv (FP.l2d (((0 : Int64) + w1) + ((2 : Int64) * w2))) (FP.l2d vt)), us, vl ((0 : Int64) + w1), us, uu, uu] [(.long (2 : Int64)), (.long ((0 : Int64) + w1))]) _
      refine XS.lload X25.here hx rfl (hb hby at_114) rfl ?_
      show SS p e below T25 (mkF m 116 #[vi p0, vi p1, vi p2, vi p3, vi p4, vi p5, vi (3 : Int32), vl w0, us, vl w1, us, vl w2, us, vl w3, us, vl vt, us, vr nb_20, vr b21, vd (FP.ddiv (FP.l2d (((0 : Int64) + w1) + ((2 : Int64) * w2))) (FP.l2d vt)), us, vl ((0 : Int64) + w1), us, uu, uu] [(.long w2), (.long (2 : Int64)), (.long ((0 : Int64) + w1))]) _
      refine XS.lmul X25.here hx rfl (hb hby at_116) rfl ?_
      show SS p e below T25 (mkF m 117 #[vi p0, vi p1, vi p2, vi p3, vi p4, vi p5, vi (3 : Int32), vl w0, us, vl w1, us, vl w2, us, vl w3, us, vl vt, us, vr nb_20, vr b21, vd (FP.ddiv (FP.l2d (((0 : Int64) + w1) + ((2 : Int64) * w2))) (FP.l2d vt)), us, vl ((0 : Int64) + w1), us, uu, uu] [(.long ((2 : Int64) * w2)), (.long ((0 : Int64) + w1))]) _
      refine XS.ladd X25.here hx rfl (hb hby at_117) rfl ?_
      show SS p e below T25 (mkF m 118 #[vi p0, vi p1, vi p2, vi p3, vi p4, vi p5, vi (3 : Int32), vl w0, us, vl w1, us, vl w2, us, vl w3, us, vl vt, us, vr nb_20, vr b21, vd (FP.ddiv (FP.l2d (((0 : Int64) + w1) + ((2 : Int64) * w2))) (FP.l2d vt)), us, vl ((0 : Int64) + w1), us, uu, uu] [(.long (((0 : Int64) + w1) + ((2 : Int64) * w2)))]) _
      refine XS.lstore X25.here hx rfl (hb hby at_118) rfl (l' := #[vi p0, vi p1, vi p2, vi p3, vi p4, vi p5, vi (3 : Int32), vl w0, us, vl w1, us, vl w2, us, vl w3, us, vl vt, us, vr nb_20, vr b21, vd (FP.ddiv (FP.l2d (((0 : Int64) + w1) + ((2 : Int64) * w2))) (FP.l2d vt)), us, vl (((0 : Int64) + w1) + ((2 : Int64) * w2)), us, uu, uu]) rfl ?_
      show SS p e below T25 (mkF m 120 #[vi p0, vi p1, vi p2, vi p3, vi p4, vi p5, vi (3 : Int32), vl w0, us, vl w1, us, vl w2, us, vl w3, us, vl vt, us, vr nb_20, vr b21, vd (FP.ddiv (FP.l2d (((0 : Int64) + w1) + ((2 : Int64) * w2))) (FP.l2d vt)), us, vl (((0 : Int64) + w1) + ((2 : Int64) * w2)), us, uu, uu] []) _
      refine XS.iload X25.here hx rfl (hb hby at_120) rfl ?_
      show SS p e below T25 (mkF m 122 #[vi p0, vi p1, vi p2, vi p3, vi p4, vi p5, vi (3 : Int32), vl w0, us, vl w1, us, vl w2, us, vl w3, us, vl vt, us, vr nb_20, vr b21, vd (FP.ddiv (FP.l2d (((0 : Int64) + w1) + ((2 : Int64) * w2))) (FP.l2d vt)), us, vl (((0 : Int64) + w1) + ((2 : Int64) * w2)), us, uu, uu] [(.int (3 : Int32))]) _
      refine XS.iconst X25.here hx rfl (hb hby at_122) ?_
      show SS p e below T25 (mkF m 123 #[vi p0, vi p1, vi p2, vi p3, vi p4, vi p5, vi (3 : Int32), vl w0, us, vl w1, us, vl w2, us, vl w3, us, vl vt, us, vr nb_20, vr b21, vd (FP.ddiv (FP.l2d (((0 : Int64) + w1) + ((2 : Int64) * w2))) (FP.l2d vt)), us, vl (((0 : Int64) + w1) + ((2 : Int64) * w2)), us, uu, uu] [(.int (3 : Int32)), (.int (3 : Int32))]) _
      refine XS.icmpYes X25.here hx rfl (pc0 := 123) (pc' := 137) rfl (hb hby at_123) rfl (flt (by decide : ¬ ((3 : Int32) < (3 : Int32)))).2.2.2 (by decide) (by decide) ?_
      show SS p e below T25 (mkF m 137 #[vi p0, vi p1, vi p2, vi p3, vi p4, vi p5, vi (3 : Int32), vl w0, us, vl w1, us, vl w2, us, vl w3, us, vl vt, us, vr nb_20, vr b21, vd (FP.ddiv (FP.l2d (((0 : Int64) + w1) + ((2 : Int64) * w2))) (FP.l2d vt)), us, vl (((0 : Int64) + w1) + ((2 : Int64) * w2)), us, uu, uu] []) _
      refine XS.lload X25.here hx rfl (hb hby at_137) rfl ?_
      show SS p e below T25 (mkF m 139 #[vi p0, vi p1, vi p2, vi p3, vi p4, vi p5, vi (3 : Int32), vl w0, us, vl w1, us, vl w2, us, vl w3, us, vl vt, us, vr nb_20, vr b21, vd (FP.ddiv (FP.l2d (((0 : Int64) + w1) + ((2 : Int64) * w2))) (FP.l2d vt)), us, vl (((0 : Int64) + w1) + ((2 : Int64) * w2)), us, uu, uu] [(.long (((0 : Int64) + w1) + ((2 : Int64) * w2)))]) _
      refine XS.l2dS X25.here hx rfl (hb hby at_139) rfl (v := (FP.l2d (((0 : Int64) + w1) + ((2 : Int64) * w2)))) rfl ?_
      show SS p e below T25 (mkF m 140 #[vi p0, vi p1, vi p2, vi p3, vi p4, vi p5, vi (3 : Int32), vl w0, us, vl w1, us, vl w2, us, vl w3, us, vl vt, us, vr nb_20, vr b21, vd (FP.ddiv (FP.l2d (((0 : Int64) + w1) + ((2 : Int64) * w2))) (FP.l2d vt)), us, vl (((0 : Int64) + w1) + ((2 : Int64) * w2)), us, uu, uu] [(.double (FP.l2d (((0 : Int64) + w1) + ((2 : Int64) * w2))))]) _
      refine XS.lload X25.here hx rfl (hb hby at_140) rfl ?_
      show SS p e below T25 (mkF m 142 #[vi p0, vi p1, vi p2, vi p3, vi p4, vi p5, vi (3 : Int32), vl w0, us, vl w1, us, vl w2, us, vl w3, us, vl vt, us, vr nb_20, vr b21, vd (FP.ddiv (FP.l2d (((0 : Int64) + w1) + ((2 : Int64) * w2))) (FP.l2d vt)), us, vl (((0 : Int64) + w1) + ((2 : Int64) * w2)), us, uu, uu] [(.long vt), (.double (FP.l2d (((0 : Int64) + w1) + ((2 : Int64) * w2))))]) _
      refine XS.l2dS X25.here hx rfl (hb hby at_142) rfl (v := (FP.l2d vt)) rfl ?_
      show SS p e below T25 (mkF m 143 #[vi p0, vi p1, vi p2, vi p3, vi p4, vi p5, vi (3 : Int32), vl w0, us, vl w1, us, vl w2, us, vl w3, us, vl vt, us, vr nb_20, vr b21, vd (FP.ddiv (FP.l2d (((0 : Int64) + w1) + ((2 : Int64) * w2))) (FP.l2d vt)), us, vl (((0 : Int64) + w1) + ((2 : Int64) * w2)), us, uu, uu] [(.double (FP.l2d vt)), (.double (FP.l2d (((0 : Int64) + w1) + ((2 : Int64) * w2))))]) _
      refine XS.ddivS X25.here hx rfl (hb hby at_143) rfl (v := (FP.ddiv (FP.l2d (((0 : Int64) + w1) + ((2 : Int64) * w2))) (FP.l2d vt))) (own_dnn _ unz) rfl ?_
      show SS p e below T25 (mkF m 144 #[vi p0, vi p1, vi p2, vi p3, vi p4, vi p5, vi (3 : Int32), vl w0, us, vl w1, us, vl w2, us, vl w3, us, vl vt, us, vr nb_20, vr b21, vd (FP.ddiv (FP.l2d (((0 : Int64) + w1) + ((2 : Int64) * w2))) (FP.l2d vt)), us, vl (((0 : Int64) + w1) + ((2 : Int64) * w2)), us, uu, uu] [(.double (FP.ddiv (FP.l2d (((0 : Int64) + w1) + ((2 : Int64) * w2))) (FP.l2d vt)))]) _
      refine XS.dstore X25.here hx rfl (hb hby at_144) rfl (l' := #[vi p0, vi p1, vi p2, vi p3, vi p4, vi p5, vi (3 : Int32), vl w0, us, vl w1, us, vl w2, us, vl w3, us, vl vt, us, vr nb_20, vr b21, vd (FP.ddiv (FP.l2d (((0 : Int64) + w1) + ((2 : Int64) * w2))) (FP.l2d vt)), us, vl (((0 : Int64) + w1) + ((2 : Int64) * w2)), us, vd (FP.ddiv (FP.l2d (((0 : Int64) + w1) + ((2 : Int64) * w2))) (FP.l2d vt)), us]) rfl ?_
      show SS p e below T25 (mkF m 146 #[vi p0, vi p1, vi p2, vi p3, vi p4, vi p5, vi (3 : Int32), vl w0, us, vl w1, us, vl w2, us, vl w3, us, vl vt, us, vr nb_20, vr b21, vd (FP.ddiv (FP.l2d (((0 : Int64) + w1) + ((2 : Int64) * w2))) (FP.l2d vt)), us, vl (((0 : Int64) + w1) + ((2 : Int64) * w2)), us, vd (FP.ddiv (FP.l2d (((0 : Int64) + w1) + ((2 : Int64) * w2))) (FP.l2d vt)), us] []) _
      refine XS.dload X25.here hx rfl (hb hby at_146) rfl ?_
      show SS p e below T25 (mkF m 148 #[vi p0, vi p1, vi p2, vi p3, vi p4, vi p5, vi (3 : Int32), vl w0, us, vl w1, us, vl w2, us, vl w3, us, vl vt, us, vr nb_20, vr b21, vd (FP.ddiv (FP.l2d (((0 : Int64) + w1) + ((2 : Int64) * w2))) (FP.l2d vt)), us, vl (((0 : Int64) + w1) + ((2 : Int64) * w2)), us, vd (FP.ddiv (FP.l2d (((0 : Int64) + w1) + ((2 : Int64) * w2))) (FP.l2d vt)), us] [(.double (FP.ddiv (FP.l2d (((0 : Int64) + w1) + ((2 : Int64) * w2))) (FP.l2d vt)))]) _
      refine XS.dload X25.here hx rfl (hb hby at_148) rfl ?_
      show SS p e below T25 (mkF m 150 #[vi p0, vi p1, vi p2, vi p3, vi p4, vi p5, vi (3 : Int32), vl w0, us, vl w1, us, vl w2, us, vl w3, us, vl vt, us, vr nb_20, vr b21, vd (FP.ddiv (FP.l2d (((0 : Int64) + w1) + ((2 : Int64) * w2))) (FP.l2d vt)), us, vl (((0 : Int64) + w1) + ((2 : Int64) * w2)), us, vd (FP.ddiv (FP.l2d (((0 : Int64) + w1) + ((2 : Int64) * w2))) (FP.l2d vt)), us] [(.double (FP.ddiv (FP.l2d (((0 : Int64) + w1) + ((2 : Int64) * w2))) (FP.l2d vt))), (.double (FP.ddiv (FP.l2d (((0 : Int64) + w1) + ((2 : Int64) * w2))) (FP.l2d vt)))]) _
      refine XS.dcmpS X25.here hx rfl (hb hby at_150) rfl (v := (0 : Int32)) (dcmpV_self (own_dnn _ unz) _) ?_
      show SS p e below T25 (mkF m 151 #[vi p0, vi p1, vi p2, vi p3, vi p4, vi p5, vi (3 : Int32), vl w0, us, vl w1, us, vl w2, us, vl w3, us, vl vt, us, vr nb_20, vr b21, vd (FP.ddiv (FP.l2d (((0 : Int64) + w1) + ((2 : Int64) * w2))) (FP.l2d vt)), us, vl (((0 : Int64) + w1) + ((2 : Int64) * w2)), us, vd (FP.ddiv (FP.l2d (((0 : Int64) + w1) + ((2 : Int64) * w2))) (FP.l2d vt)), us] [(.int (0 : Int32))]) _
      refine XS.ifNo X25.here hx rfl (hb hby at_151) rfl ((if0 _ _).trans (teq (rfl : (0 : Int32) = (0 : Int32))).2) ?_
      show SS p e below T25 (mkF m 154 #[vi p0, vi p1, vi p2, vi p3, vi p4, vi p5, vi (3 : Int32), vl w0, us, vl w1, us, vl w2, us, vl w3, us, vl vt, us, vr nb_20, vr b21, vd (FP.ddiv (FP.l2d (((0 : Int64) + w1) + ((2 : Int64) * w2))) (FP.l2d vt)), us, vl (((0 : Int64) + w1) + ((2 : Int64) * w2)), us, vd (FP.ddiv (FP.l2d (((0 : Int64) + w1) + ((2 : Int64) * w2))) (FP.l2d vt)), us] []) _
      refine XS.iconst X25.here hx rfl (hb hby at_154) ?_
      show SS p e below T25 (mkF m 155 #[vi p0, vi p1, vi p2, vi p3, vi p4, vi p5, vi (3 : Int32), vl w0, us, vl w1, us, vl w2, us, vl w3, us, vl vt, us, vr nb_20, vr b21, vd (FP.ddiv (FP.l2d (((0 : Int64) + w1) + ((2 : Int64) * w2))) (FP.l2d vt)), us, vl (((0 : Int64) + w1) + ((2 : Int64) * w2)), us, vd (FP.ddiv (FP.l2d (((0 : Int64) + w1) + ((2 : Int64) * w2))) (FP.l2d vt)), us] [(.int (1 : Int32))]) _
      refine XS.goto X25.here hx rfl (pc0 := 155) (pc' := 159) rfl (hb hby at_155) (by decide) (by decide) ?_
      show SS p e below T25 (mkF m 159 #[vi p0, vi p1, vi p2, vi p3, vi p4, vi p5, vi (3 : Int32), vl w0, us, vl w1, us, vl w2, us, vl w3, us, vl vt, us, vr nb_20, vr b21, vd (FP.ddiv (FP.l2d (((0 : Int64) + w1) + ((2 : Int64) * w2))) (FP.l2d vt)), us, vl (((0 : Int64) + w1) + ((2 : Int64) * w2)), us, vd (FP.ddiv (FP.l2d (((0 : Int64) + w1) + ((2 : Int64) * w2))) (FP.l2d vt)), us] [(.int (1 : Int32))]) _
      exact retN X25 hx (t := .boolean) Bd.returns (by simp) (hb hby at_159) hr
    · show Q_rm0 Z p0 p1 p2 p3 p4 p5 w0 w1 w2 w3 vt (3 : Int32) h0 n0 _ T25.heap _
      rw [eh25]
      exact ⟨rfl, N25⟩
  · obtain ⟨_, _, ⟨T26, L26, k26, n26⟩, -, X26, ⟨Lc26, hQ26, l26, y26, z26⟩, st26⟩ := Jvm.LawKit.callS X0 hx (y := (⟨"org/quarrel/model/DistributionMeanPinLaw", "weights", "(IDDDD)[D"⟩ : MethodName)) hown (mvT hZ (wd hw 1 rfl)) (mvT hZ (wd hw 2 rfl)) (mvT hZ (wd hw 3 rfl)) (mvT hZ (wd hw 4 rfl)) (by decide) (backOf (W := 0) (rmW4 l Z a0 hw [] (FP.l2d w0) (FP.l2d w1) (FP.l2d w2) (FP.l2d w3) h0 n0 Z0) hZ (wd hw 4 rfl) (wd hw 3 rfl) (by decide) (by decide)) (g := (mkF m 61 #[vi p0, vi p1, vi p2, vi p3, vi p4, vi p5, vi (4 : Int32), vl w0, us, vl w1, us, vl w2, us, vl w3, us, vl vt, us, uu, uu, uu, uu, uu, uu, uu, uu] [(.double (FP.l2d w3)), (.double (FP.l2d w2)), (.double (FP.l2d w1)), (.double (FP.l2d w0)), (.int (4 : Int32))])) rfl (by rw [hml]; rfl) (argsL := [(.int (4 : Int32)), (.double (FP.l2d w0)), (.double (FP.l2d w1)), (.double (FP.l2d w2)), (.double (FP.l2d w3))]) (rest := []) (lenOf pd_3 rfl) rfl (by show 2 * 0 + _ ≤ _; exact Nat.le_of_eq rfl) (hb hby at_61) (fun _ _ => ⟨rfl, e0, (by decide : 0 + 1 ≤ _), (by decide : 0 + 4 ≤ _)⟩)
    dsimp only [Pt.U, Pt.locs, Pt.cells, Pt.slots] at X26 l26 y26 z26 st26 hQ26
    subst l26 y26 z26
    obtain ⟨nb_26, kn_26, rfl, Nq26, Kq26, f26_0, f26_1, f26_2⟩ := hQ26
    have N26 := Fr.app N0 Nq26
    have g_nb_26 : n0 ≤ nb_26 := Nat.le_trans Z0 f26_0
    have sz_nb_26 : h0.size ≤ nb_26 := Nat.le_trans (Keep.refl h0 []).1 f26_0
    have K26 : Keep h0 T26.heap [] := (Keep.refl h0 []).trans Kq26 all0
    have Z26 : n0 ≤ T26.heap.size := Nat.le_trans Z0 Kq26.1
    obtain ⟨T27, h27, X27, e27, E27, A27, D27, Un27, st27⟩ := newO X26 hx hZ hown (wd hw 6 rfl) (wd hw 7 rfl) (wd hw 8 rfl) rfl (g := (mkF m 66 #[vi p0, vi p1, vi p2, vi p3, vi p4, vi p5, vi (4 : Int32), vl w0, us, vl w1, us, vl w2, us, vl w3, us, vl vt, us, vr nb_26, uu, uu, uu, uu, uu, uu, uu] [])) rfl (hb hby at_66) (by decide) (by decide)
    obtain ⟨b27, g27⟩ : ∃ z, z = T26.heap.size := ⟨_, rfl⟩
    rw [← g27] at A27 D27 Un27 st27
    have ne_nb_26_b27 : nb_26 ≠ b27 := Nat.ne_of_lt (Nat.lt_of_lt_of_le f26_1.lt (Nat.le_of_eq g27.symm))
    have F27_weights : Fld Z h27 b27 "org/quarrel/model/Distribution" "weights" "[D" .null := D27 (Or.inr (wd hw 25 rfl)) (ty := (.array .double)) (by decide)
    have F27_total : Fld Z h27 b27 "org/quarrel/model/Distribution" "total" "D" (.double 0) := D27 (Or.inr (wd hw 27 rfl)) (ty := .double) (by decide)
    have g_b27 : n0 ≤ b27 := Nat.le_trans Z26 (Nat.le_of_eq g27.symm)
    have sz_b27 : h0.size ≤ b27 := Nat.le_trans K26.1 (Nat.le_of_eq g27.symm)
    have K27 : Keep h0 h27 [] := K26.ext E27
    have Z27 : n0 ≤ h27.size := Nat.le_trans Z26 E27.1
    have c29 := (f26_1.ext E27)
    have c30 := (f26_2.ext E27)
    obtain ⟨_, _, ⟨T28, L28, k28, n28⟩, -, X28, ⟨Lc28, hQ28, l28, y28, z28⟩, st28⟩ := X27.specialBack hx (y := (⟨"org/quarrel/model/Distribution", "<init>", "([DD)V"⟩ : MethodName)) rfl hown (mvT hZ (wd hw 9 rfl)) (mvT hZ (wd hw 10 rfl)) (mvT hZ (wd hw 11 rfl)) (by decide) (backOf (W := 1) (rmI4 l Z a0 hw [] b27 nb_26 (FP.l2d vt) kn_26 w0 w1 w2 w3 h27 n0 Z27 A27 F27_weights F27_total g_b27 c29 c30 uz_w0 ut_w0 uz_w1 ut_w1 uz_w2 ut_w2 uz_w3 ut_w3) hZ (wd hw 11 rfl) (wd hw 8 rfl) (by decide) (by decide)) (g := (mkF m 75 #[vi p0, vi p1, vi p2, vi p3, vi p4, vi p5, vi (4 : Int32), vl w0, us, vl w1, us, vl w2, us, vl w3, us, vl vt, us, vr nb_26, uu, uu, uu, uu, uu, uu, uu] [(.double (FP.l2d vt)), (.ref nb_26), (.ref b27), (.ref b27)])) rfl (by rw [hml]; rfl) (Steps.refl _) (a := b27) (argsL := [(.ref nb_26), (.double (FP.l2d vt))]) (rest := [(.ref b27)]) (lenOf pd_4 rfl) rfl (by show 2 * 0 + _ ≤ _; exact Nat.le_of_eq rfl) (hb hby at_75) (fun _ _ => ⟨rfl, e27, (by decide : 2 + 1 ≤ _), (by decide : 6 + 4 ≤ _)⟩)
    dsimp only [Pt.U, Pt.locs, Pt.cells, Pt.slots] at X28 l28 y28 z28 st28 hQ28
    subst l28 y28 z28
    obtain ⟨nb_28, rfl, Nq28, Kq28, f28_0, f28_1, f28_2, f28_3, f28_4⟩ := hQ28
    have N28 := Fr.app N26 Nq28
    have ne_nb_26_nb_28 : nb_26 ≠ nb_28 := Nat.ne_of_lt (Nat.lt_of_lt_of_le c29.lt f28_3)
    have ne_b27_nb_28 : b27 ≠ nb_28 := Nat.ne_of_lt (Nat.lt_of_lt_of_le A27.lt f28_3)
    have g_nb_28 : n0 ≤ nb_28 := Nat.le_trans Z27 f28_3
    have sz_nb_28 : h0.size ≤ nb_28 := Nat.le_trans K27.1 f28_3
    have K28 : Keep h0 T28.heap [] := K27.trans Kq28 (allS (Or.inr sz_b27) all0)
    have Z28 : n0 ≤ T28.heap.size := Nat.le_trans Z27 Kq28.1
    obtain ⟨cq31, kq31, q31a, q31b, q31c⟩ := isOf hZ rfl f28_0
    obtain ⟨_, _, ⟨T31, L31, k31, n31⟩, -, X31, ⟨Lc31, hQ31, l31, y31, z31⟩, st31⟩ := X28.virtualBack hx (y := (⟨"org/quarrel/model/Distribution", "mean", "()D"⟩ : MethodName)) (z := (⟨"org/quarrel/model/Distribution", "mean", "()D"⟩ : MethodName)) hown (mvT hZ (wd hw 28 rfl)) (mvT hZ (wd hw 29 rfl)) (notFace_of_selects (args := #[]) (mvT hZ (wd hw 31 rfl))) (mvT hZ (wd hw 31 rfl)) (mvT hZ (wd hw 30 rfl)) (by decide) (backOf (W := 0) (rmM4 l Z a0 hw [] b27 nb_28 kn_26 vt w0 w1 w2 w3 T28.heap n0 Z28 f28_1 f28_2 f28_4 unz uz_w0 ut_w0 uz_w1 ut_w1 uz_w2 ut_w2 uz_w3 ut_w3) hZ (wd hw 32 rfl) (wd hw 8 rfl) (by decide) (by decide)) q31a q31c (g := (mkF m 82 #[vi p0, vi p1, vi p2, vi p3, vi p4, vi p5, vi (4 : Int32), vl w0, us, vl w1, us, vl w2, us, vl w3, us, vl vt, us, vr nb_26, vr b27, uu, uu, uu, uu, uu, uu] [(.ref b27)])) rfl (by rw [hml]; rfl) (Steps.refl _) (argsL := []) (rest := []) (lenOf pd_5 rfl) rfl (by show 2 * 0 + _ ≤ _; exact Nat.le_of_eq rfl) (hb hby at_82) (fun _ _ => ⟨rfl, rfl, (by decide : 3 + 0 ≤ _), (by decide : 10 + 0 ≤ _)⟩)
    dsimp only [Pt.U, Pt.locs, Pt.cells, Pt.slots] at X31 l31 y31 z31 st31 hQ31
    subst l31 y31 z31
    obtain ⟨rfl, Nq31, eh31⟩ := hQ31
    have N31 := Fr.app N28 Nq31
    obtain ⟨fs, hr, hrun, hended, hW, hsame⟩ := X31.leave (v := some (.int (nar .boolean (1 : Int32)))) (fun h => by rw [Bd.returns] at h; cases h)
    refine ⟨_, _, pre0 _ ?_, hrun, hended, _, _, rfl, ?_, ⟨_, rfl⟩, hW, hsame.mono (by decide) (by decide)⟩
    · refine sg1 _ ?_
      show SS p e below s₁ (mkF m 61 #[vi p0, vi p1, vi p2, vi p3, vi p4, vi p5, vi (4 : Int32), vl w0, us, vl w1, us, vl w2, us, vl w3, us, vl vt, us, uu, uu, uu, uu, uu, uu, uu, uu] [(.double (FP.l2d w3)), (.double (FP.l2d w2)), (.double (FP.l2d w1)), (.double (FP.l2d w0)), (.int (4 : Int32))]) _
      refine st26 _ ?_
      show SS p e below T26 (mkF m 64 #[vi p0, vi p1, vi p2, vi p3, vi p4, vi p5, vi (4 : Int32), vl w0, us, vl w1, us, vl w2, us, vl w3, us, vl vt, us, uu, uu, uu, uu, uu, uu, uu, uu] [(.ref nb_26)]) _
      refine XS.astore X26.here hx rfl (hb hby at_64) rfl rfl (l' := #[vi p0, vi p1, vi p2, vi p3, vi p4, vi p5, vi (4 : Int32), vl w0, us, vl w1, us, vl w2, us, vl w3, us, vl vt, us, vr nb_26, uu, uu, uu, uu, uu, uu, uu]) rfl ?_
      show SS p e below T26 (mkF m 66 #[vi p0, vi p1, vi p2, vi p3, vi p4, vi p5, vi (4 : Int32), vl w0, us, vl w1, us, vl w2, us, vl w3, us, vl vt, us, vr nb_26, uu, uu, uu, uu, uu, uu, uu] []) _
      refine st27 _ ?_
      show SS p e below T27 (mkF m 69 #[vi p0, vi p1, vi p2, vi p3, vi p4, vi p5, vi (4 : Int32), vl w0, us, vl w1, us, vl w2, us, vl w3, us, vl vt, us, vr nb_26, uu, uu, uu, uu, uu, uu, uu] [(.ref b27)]) _
      refine XS.dup X27.here hx rfl (hb hby at_69) rfl rfl ?_
      show SS p e below T27 (mkF m 70 #[vi p0, vi p1, vi p2, vi p3, vi p4, vi p5, vi (4 : Int32), vl w0, us, vl w1, us, vl w2, us, vl w3, us, vl vt, us, vr nb_26, uu, uu, uu, uu, uu, uu, uu] [(.ref b27), (.ref b27)]) _
      refine XS.aload X27.here hx rfl (hb hby at_70) rfl rfl ?_
      show SS p e below T27 (mkF m 72 #[vi p0, vi p1, vi p2, vi p3, vi p4, vi p5, vi (4 : Int32), vl w0, us, vl w1, us, vl w2, us, vl w3, us, vl vt, us, vr nb_26, uu, uu, uu, uu, uu, uu, uu] [(.ref nb_26), (.ref b27), (.ref b27)]) _
      refine XS.lload X27.here hx rfl (hb hby at_72) rfl ?_
      show SS p e below T27 (mkF m 74 #[vi p0, vi p1, vi p2, vi p3, vi p4, vi p5, vi (4 : Int32), vl w0, us, vl w1, us, vl w2, us, vl w3, us, vl vt, us, vr nb_26, uu, uu, uu, uu, uu, uu, uu] [(.long vt), (.ref nb_26), (.ref b27), (.ref b27)]) _
      refine XS.l2dS X27.here hx rfl (hb hby at_74) rfl (v := (FP.l2d vt)) rfl ?_
      show SS p e below T27 (mkF m 75 #[vi p0, vi p1, vi p2, vi p3, vi p4, vi p5, vi (4 : Int32), vl w0, us, vl w1, us, vl w2, us, vl w3, us, vl vt, us, vr nb_26, uu, uu, uu, uu, uu, uu, uu] [(.double (FP.l2d vt)), (.ref nb_26), (.ref b27), (.ref b27)]) _
      refine st28.trans ?_
      show SS p e below T28 (mkF m 78 #[vi p0, vi p1, vi p2, vi p3, vi p4, vi p5, vi (4 : Int32), vl w0, us, vl w1, us, vl w2, us, vl w3, us, vl vt, us, vr nb_26, uu, uu, uu, uu, uu, uu, uu] [(.ref b27)]) _
      refine XS.astore X28.here hx rfl (hb hby at_78) rfl rfl (l' := #[vi p0, vi p1, vi p2, vi p3, vi p4, vi p5, vi (4 : Int32), vl w0, us, vl w1, us, vl w2, us, vl w3, us, vl vt, us, vr nb_26, vr b27, uu, uu, uu, uu, uu, uu]) rfl ?_
      show SS p e below T28 (mkF m 80 #[vi p0, vi p1, vi p2, vi p3, vi p4, vi p5, vi (4 : Int32), vl w0, us, vl w1, us, vl w2, us, vl w3, us, vl vt, us, vr nb_26, vr b27, uu, uu, uu, uu, uu, uu] []) _
      refine XS.aload X28.here hx rfl (hb hby at_80) rfl rfl ?_
      show SS p e below T28 (mkF m 82 #[vi p0, vi p1, vi p2, vi p3, vi p4, vi p5, vi (4 : Int32), vl w0, us, vl w1, us, vl w2, us, vl w3, us, vl vt, us, vr nb_26, vr b27, uu, uu, uu, uu, uu, uu] [(.ref b27)]) _
      refine st31.trans ?_
      show SS p e below T31 (mkF m 85 #[vi p0, vi p1, vi p2, vi p3, vi p4, vi p5, vi (4 : Int32), vl w0, us, vl w1, us, vl w2, us, vl w3, us, vl vt, us, vr nb_26, vr b27, uu, uu, uu, uu, uu, uu] [(.double (FP.ddiv (FP.l2d ((((0 : Int64) + w1) + ((2 : Int64) * w2)) + ((3 : Int64) * w3))) (FP.l2d vt)))]) _
      refine XS.dstore X31.here hx rfl (hb hby at_85) rfl (l' := #[vi p0, vi p1, vi p2, vi p3, vi p4, vi p5, vi (4 : Int32), vl w0, us, vl w1, us, vl w2, us, vl w3, us, vl vt, us, vr nb_26, vr b27, vd (FP.ddiv (FP.l2d ((((0 : Int64) + w1) + ((2 : Int64) * w2)) + ((3 : Int64) * w3))) (FP.l2d vt)), us, uu, uu, uu, uu]) rfl ?_
      show SS p e below T31 (mkF m 87 #[vi p0, vi p1, vi p2, vi p3, vi p4, vi p5, vi (4 : Int32), vl w0, us, vl w1, us, vl w2, us, vl w3, us, vl vt, us, vr nb_26, vr b27, vd (FP.ddiv (FP.l2d ((((0 : Int64) + w1) + ((2 : Int64) * w2)) + ((3 : Int64) * w3))) (FP.l2d vt)), us, uu, uu, uu, uu] []) _
      refine XS.lconst X31.here hx rfl (hb hby at_87) ?_
      show SS p e below T31 (mkF m 88 #[vi p0, vi p1, vi p2, vi p3, vi p4, vi p5, vi (4 : Int32), vl w0, us, vl w1, us, vl w2, us, vl w3, us, vl vt, us, vr nb_26, vr b27, vd (FP.ddiv (FP.l2d ((((0 : Int64) + w1) + ((2 : Int64) * w2)) + ((3 : Int64) * w3))) (FP.l2d vt)), us, uu, uu, uu, uu] [(.long (0 : Int64))]) _
      refine XS.lstore X31.here hx rfl (hb hby at_88) rfl (l' := #[vi p0, vi p1, vi p2, vi p3, vi p4, vi p5, vi (4 : Int32), vl w0, us, vl w1, us, vl w2, us, vl w3, us, vl vt, us, vr nb_26, vr b27, vd (FP.ddiv (FP.l2d ((((0 : Int64) + w1) + ((2 : Int64) * w2)) + ((3 : Int64) * w3))) (FP.l2d vt)), us, vl (0 : Int64), us, uu, uu]) rfl ?_
      show SS p e below T31 (mkF m 90 #[vi p0, vi p1, vi p2, vi p3, vi p4, vi p5, vi (4 : Int32), vl w0, us, vl w1, us, vl w2, us, vl w3, us, vl vt, us, vr nb_26, vr b27, vd (FP.ddiv (FP.l2d ((((0 : Int64) + w1) + ((2 : Int64) * w2)) + ((3 : Int64) * w3))) (FP.l2d vt)), us, vl (0 : Int64), us, uu, uu] []) _
      refine XS.iload X31.here hx rfl (hb hby at_90) rfl ?_
      show SS p e below T31 (mkF m 92 #[vi p0, vi p1, vi p2, vi p3, vi p4, vi p5, vi (4 : Int32), vl w0, us, vl w1, us, vl w2, us, vl w3, us, vl vt, us, vr nb_26, vr b27, vd (FP.ddiv (FP.l2d ((((0 : Int64) + w1) + ((2 : Int64) * w2)) + ((3 : Int64) * w3))) (FP.l2d vt)), us, vl (0 : Int64), us, uu, uu] [(.int (4 : Int32))]) _
      refine XS.iconst X31.here hx rfl (hb hby at_92) ?_
      show SS p e below T31 (mkF m 93 #[vi p0, vi p1, vi p2, vi p3, vi p4, vi p5, vi (4 : Int32), vl w0, us, vl w1, us, vl w2, us, vl w3, us, vl vt, us, vr nb_26, vr b27, vd (FP.ddiv (FP.l2d ((((0 : Int64) + w1) + ((2 : Int64) * w2)) + ((3 : Int64) * w3))) (FP.l2d vt)), us, vl (0 : Int64), us, uu, uu] [(.int (1 : Int32)), (.int (4 : Int32))]) _
      refine XS.icmpNo X31.here hx rfl (hb hby at_93) rfl (tlt (by decide : (1 : Int32) < (4 : Int32))).2.2.2 ?_
      show SS p e below T31 (mkF m 96 #[vi p0, vi p1, vi p2, vi p3, vi p4, vi p5, vi (4 : Int32), vl w0, us, vl w1, us, vl w2, us, vl w3, us, vl vt, us, vr nb_26, vr b27, vd (FP.ddiv (FP.l2d ((((0 : Int64) + w1) + ((2 : Int64) * w2)) + ((3 : Int64) * w3))) (FP.l2d vt)), us, vl (0 : Int64), us, uu, uu] []) _
      refine XS.lload X31.here hx rfl (hb hby at_96) rfl ?_
      show SS p e below T31 (mkF m 98 #[vi p0, vi p1, vi p2, vi p3, vi p4, vi p5, vi (4 : Int32), vl w0, us, vl w1, us, vl w2, us, vl w3, us, vl vt, us, vr nb_26, vr b27, vd (FP.ddiv (FP.l2d ((((0 : Int64) + w1) + ((2 : Int64) * w2)) + ((3 : Int64) * w3))) (FP.l2d vt)), us, vl (0 : Int64), us, uu, uu] [(.long (0 : Int64))]) _
      refine XS.lload X31.here hx rfl (hb hby at_98) rfl ?_
      show SS p e below T31 (mkF m 100 #[vi p0, vi p1, vi p2, vi p3, vi p4, vi p5, vi (4 : Int32), vl w0, us, vl w1, us, vl w2, us, vl w3, us, vl vt, us, vr nb_26, vr b27, vd (FP.ddiv (FP.l2d ((((0 : Int64) + w1) + ((2 : Int64) * w2)) + ((3 : Int64) * w3))) (FP.l2d vt)), us, vl (0 : Int64), us, uu, uu] [(.long w1), (.long (0 : Int64))]) _
      refine XS.ladd X31.here hx rfl (hb hby at_100) rfl ?_
      show SS p e below T31 (mkF m 101 #[vi p0, vi p1, vi p2, vi p3, vi p4, vi p5, vi (4 : Int32), vl w0, us, vl w1, us, vl w2, us, vl w3, us, vl vt, us, vr nb_26, vr b27, vd (FP.ddiv (FP.l2d ((((0 : Int64) + w1) + ((2 : Int64) * w2)) + ((3 : Int64) * w3))) (FP.l2d vt)), us, vl (0 : Int64), us, uu, uu] [(.long ((0 : Int64) + w1))]) _
      refine XS.lstore X31.here hx rfl (hb hby at_101) rfl (l' := #[vi p0, vi p1, vi p2, vi p3, vi p4, vi p5, vi (4 : Int32), vl w0, us, vl w1, us, vl w2, us, vl w3, us, vl vt, us, vr nb_26, vr b27, vd (FP.ddiv (FP.l2d ((((0 : Int64) + w1) + ((2 : Int64) * w2)) + ((3 : Int64) * w3))) (FP.l2d vt)), us, vl ((0 : Int64) + w1), us, uu, uu]) rfl ?_
      show SS p e below T31 (mkF m 103 #[vi p0, vi p1, vi p2, vi p3, vi p4, vi p5, vi (4 : Int32), vl w0, us, vl w1, us, vl w2, us, vl w3, us, vl vt, us, vr nb_26, vr b27, vd (FP.ddiv (FP.l2d ((((0 : Int64) + w1) + ((2 : Int64) * w2)) + ((3 : Int64) * w3))) (FP.l2d vt)), us, vl ((0 : Int64) + w1), us, uu, uu] []) _
      refine XS.iload X31.here hx rfl (hb hby at_103) rfl ?_
      show SS p e below T31 (mkF m 105 #[vi p0, vi p1, vi p2, vi p3, vi p4, vi p5, vi (4 : Int32), vl w0, us, vl w1, us, vl w2, us, vl w3, us, vl vt, us, vr nb_26, vr b27, vd (FP.ddiv (FP.l2d ((((0 : Int64) + w1) + ((2 : Int64) * w2)) + ((3 : Int64) * w3))) (FP.l2d vt)), us, vl ((0 : Int64) + w1), us, uu, uu] [(.int (4 : Int32))]) _
      refine XS.iconst X31.here hx rfl (hb hby at_105) ?_
      show SS p e below T31 (mkF m 106 #[vi p0, vi p1, vi p2, vi p3, vi p4, vi p5, vi (4 : Int32), vl w0, us, vl w1, us, vl w2, us, vl w3, us, vl vt, us, vr nb_26, vr b27, vd (FP.ddiv (FP.l2d ((((0 : Int64) + w1) + ((2 : Int64) * w2)) + ((3 : Int64) * w3))) (FP.l2d vt)), us, vl ((0 : Int64) + w1), us, uu, uu] [(.int (2 : Int32)), (.int (4 : Int32))]) _
      refine XS.icmpNo X31.here hx rfl (hb hby at_106) rfl (tlt (by decide : (2 : Int32) < (4 : Int32))).2.2.2 ?_
      show SS p e below T31 (mkF m 109 #[vi p0, vi p1, vi p2, vi p3, vi p4, vi p5, vi (4 : Int32), vl w0, us, vl w1, us, vl w2, us, vl w3, us, vl vt, us, vr nb_26, vr b27, vd (FP.ddiv (FP.l2d ((((0 : Int64) + w1) + ((2 : Int64) * w2)) + ((3 : Int64) * w3))) (FP.l2d vt)), us, vl ((0 : Int64) + w1), us, uu, uu] []) _
      refine XS.lload X31.here hx rfl (hb hby at_109) rfl ?_
      show SS p e below T31 (mkF m 111 #[vi p0, vi p1, vi p2, vi p3, vi p4, vi p5, vi (4 : Int32), vl w0, us, vl w1, us, vl w2, us, vl w3, us, vl vt, us, vr nb_26, vr b27, vd (FP.ddiv (FP.l2d ((((0 : Int64) + w1) + ((2 : Int64) * w2)) + ((3 : Int64) * w3))) (FP.l2d vt)), us, vl ((0 : Int64) + w1), us, uu, uu] [(.long ((0 : Int64) + w1))]) _
      refine X31.ldc2Long hx hown (mvT hZ (wd hw 45 rfl)) (g := (mkF m 111 #[vi p0, vi p1, vi p2, vi p3, vi p4, vi p5, vi (4 : Int32), vl w0, us, vl w1, us, vl w2, us, vl w3, us, vl vt, us, vr nb_26, vr b27, vd (FP.ddiv (FP.l2d ((((0 : Int64) + w1) + ((2 : Int64) * w2)) + ((3 : Int64) * w3))) (FP.l2d vt)), us, vl ((0 : Int64) + w1), us, uu, uu] [(.long ((0 : Int64) + w1))])) rfl (hb hby at_111) _ ?_
      show SS p e below T31 (mkF m 114 #[vi p0, vi p1, vi p2, vi p3, vi p4, vi p5, vi (4 : Int32), vl w0, us, vl w1, us, vl w2, us, vl w3, us, vl vt, us, vr nb_26, vr b27, vd (FP.ddiv (FP.l2d ((((0 : Int64) + w1) + ((2 : Int64) * w2)) + ((3 : Int64) * w3))) (FP.l2d vt)), us, vl ((0 : Int64) + w1), us, uu, uu] [(.long (2 : Int64)), (.long ((0 : Int64) + w1))]) _
      refine XS.lload X31.here hx rfl (hb hby at_114) rfl ?_
      show SS p e below T31 (mkF m 116 #[vi p0, vi p1, vi p2, vi p3, vi p4, vi p5, vi (4 : Int32), vl w0, us, vl w1, us, vl w2, us, vl w3, us, vl vt, us, vr nb_26, vr b27, vd (FP.ddiv (FP.l2d ((((0 : Int64) + w1) + ((2 : Int64) * w2)) + ((3 : Int64) * w3))) (FP.l2d vt)), us, vl ((0 : Int64) + w1), us, uu, uu] [(.long w2), (.long (2 : Int64)), (.long ((0 : Int64) + w1))]) _
      refine XS.lmul X31.here hx rfl (hb hby at_116) rfl ?_
      show SS p e below T31 (mkF m 117 #[vi p0, vi p1, vi p2, vi p3, vi p4, vi p5, vi (4 : Int32), vl w0, us, vl w1, us, vl w2, us, vl w3, us, vl vt, us, vr nb_26, vr b27, vd (FP.ddiv (FP.l2d ((((0 : Int64) + w1) + ((2 : Int64) * w2)) + ((3 : Int64) * w3))) (FP.l2d vt)), us, vl ((0 : Int64) + w1), us, uu, uu] [(.long ((2 : Int64) * w2)), (.long ((0 : Int64) + w1))]) _
      refine XS.ladd X31.here hx rfl (hb hby at_117) rfl ?_
      show SS p e below T31 (mkF m 118 #[vi p0, vi p1, vi p2, vi p3, vi p4, vi p5, vi (4 : Int32), vl w0, us, vl w1, us, vl w2, us, vl w3, us, vl vt, us, vr nb_26, vr b27, vd (FP.ddiv (FP.l2d ((((0 : Int64) + w1) + ((2 : Int64) * w2)) + ((3 : Int64) * w3))) (FP.l2d vt)), us, vl ((0 : Int64) + w1), us, uu, uu] [(.long (((0 : Int64) + w1) + ((2 : Int64) * w2)))]) _
      refine XS.lstore X31.here hx rfl (hb hby at_118) rfl (l' := #[vi p0, vi p1, vi p2, vi p3, vi p4, vi p5, vi (4 : Int32), vl w0, us, vl w1, us, vl w2, us, vl w3, us, vl vt, us, vr nb_26, vr b27, vd (FP.ddiv (FP.l2d ((((0 : Int64) + w1) + ((2 : Int64) * w2)) + ((3 : Int64) * w3))) (FP.l2d vt)), us, vl (((0 : Int64) + w1) + ((2 : Int64) * w2)), us, uu, uu]) rfl ?_
      show SS p e below T31 (mkF m 120 #[vi p0, vi p1, vi p2, vi p3, vi p4, vi p5, vi (4 : Int32), vl w0, us, vl w1, us, vl w2, us, vl w3, us, vl vt, us, vr nb_26, vr b27, vd (FP.ddiv (FP.l2d ((((0 : Int64) + w1) + ((2 : Int64) * w2)) + ((3 : Int64) * w3))) (FP.l2d vt)), us, vl (((0 : Int64) + w1) + ((2 : Int64) * w2)), us, uu, uu] []) _
      refine XS.iload X31.here hx rfl (hb hby at_120) rfl ?_
      show SS p e below T31 (mkF m 122 #[vi p0, vi p1, vi p2, vi p3, vi p4, vi p5, vi (4 : Int32), vl w0, us, vl w1, us, vl w2, us, vl w3, us, vl vt, us, vr nb_26, vr b27, vd (FP.ddiv (FP.l2d ((((0 : Int64) + w1) + ((2 : Int64) * w2)) + ((3 : Int64) * w3))) (FP.l2d vt)), us, vl (((0 : Int64) + w1) + ((2 : Int64) * w2)), us, uu, uu] [(.int (4 : Int32))]) _
      refine XS.iconst X31.here hx rfl (hb hby at_122) ?_
      show SS p e below T31 (mkF m 123 #[vi p0, vi p1, vi p2, vi p3, vi p4, vi p5, vi (4 : Int32), vl w0, us, vl w1, us, vl w2, us, vl w3, us, vl vt, us, vr nb_26, vr b27, vd (FP.ddiv (FP.l2d ((((0 : Int64) + w1) + ((2 : Int64) * w2)) + ((3 : Int64) * w3))) (FP.l2d vt)), us, vl (((0 : Int64) + w1) + ((2 : Int64) * w2)), us, uu, uu] [(.int (3 : Int32)), (.int (4 : Int32))]) _
      refine XS.icmpNo X31.here hx rfl (hb hby at_123) rfl (tlt (by decide : (3 : Int32) < (4 : Int32))).2.2.2 ?_
      show SS p e below T31 (mkF m 126 #[vi p0, vi p1, vi p2, vi p3, vi p4, vi p5, vi (4 : Int32), vl w0, us, vl w1, us, vl w2, us, vl w3, us, vl vt, us, vr nb_26, vr b27, vd (FP.ddiv (FP.l2d ((((0 : Int64) + w1) + ((2 : Int64) * w2)) + ((3 : Int64) * w3))) (FP.l2d vt)), us, vl (((0 : Int64) + w1) + ((2 : Int64) * w2)), us, uu, uu] []) _
      refine XS.lload X31.here hx rfl (hb hby at_126) rfl ?_
      show SS p e below T31 (mkF m 128 #[vi p0, vi p1, vi p2, vi p3, vi p4, vi p5, vi (4 : Int32), vl w0, us, vl w1, us, vl w2, us, vl w3, us, vl vt, us, vr nb_26, vr b27, vd (FP.ddiv (FP.l2d ((((0 : Int64) + w1) + ((2 : Int64) * w2)) + ((3 : Int64) * w3))) (FP.l2d vt)), us, vl (((0 : Int64) + w1) + ((2 : Int64) * w2)), us, uu, uu] [(.long (((0 : Int64) + w1) + ((2 : Int64) * w2)))]) _
      refine X31.ldc2Long hx hown (mvT hZ (wd hw 46 rfl)) (g := (mkF m 128 #[vi p0, vi p1, vi p2, vi p3, vi p4, vi p5, vi (4 : Int32), vl w0, us, vl w1, us, vl w2, us, vl w3, us, vl vt, us, vr nb_26, vr b27, vd (FP.ddiv (FP.l2d ((((0 : Int64) + w1) + ((2 : Int64) * w2)) + ((3 : Int64) * w3))) (FP.l2d vt)), us, vl (((0 : Int64) + w1) + ((2 : Int64) * w2)), us, uu, uu] [(.long (((0 : Int64) + w1) + ((2 : Int64) * w2)))])) rfl (hb hby at_128) _ ?_
      show SS p e below T31 (mkF m 131 #[vi p0, vi p1, vi p2, vi p3, vi p4, vi p5, vi (4 : Int32), vl w0, us, vl w1, us, vl w2, us, vl w3, us, vl vt, us, vr nb_26, vr b27, vd (FP.ddiv (FP.l2d ((((0 : Int64) + w1) + ((2 : Int64) * w2)) + ((3 : Int64) * w3))) (FP.l2d vt)), us, vl (((0 : Int64) + w1) + ((2 : Int64) * w2)), us, uu, uu] [(.long (3 : Int64)), (.long (((0 : Int64) + w1) + ((2 : Int64) * w2)))]) _
      refine XS.lload X31.here hx rfl (hb hby at_131) rfl ?_
      show SS p e below T31 (mkF m 133 #[vi p0, vi p1, vi p2, vi p3, vi p4, vi p5, vi (4 : Int32), vl w0, us, vl w1, us, vl w2, us, vl w3, us, vl vt, us, vr nb_26, vr b27, vd (FP.ddiv (FP.l2d ((((0 : Int64) + w1) + ((2 : Int64) * w2)) + ((3 : Int64) * w3))) (FP.l2d vt)), us, vl (((0 : Int64) + w1) + ((2 : Int64) * w2)), us, uu, uu] [(.long w3), (.long (3 : Int64)), (.long (((0 : Int64) + w1) + ((2 : Int64) * w2)))]) _
      refine XS.lmul X31.here hx rfl (hb hby at_133) rfl ?_
      show SS p e below T31 (mkF m 134 #[vi p0, vi p1, vi p2, vi p3, vi p4, vi p5, vi (4 : Int32), vl w0, us, vl w1, us, vl w2, us, vl w3, us, vl vt, us, vr nb_26, vr b27, vd (FP.ddiv (FP.l2d ((((0 : Int64) + w1) + ((2 : Int64) * w2)) + ((3 : Int64) * w3))) (FP.l2d vt)), us, vl (((0 : Int64) + w1) + ((2 : Int64) * w2)), us, uu, uu] [(.long ((3 : Int64) * w3)), (.long (((0 : Int64) + w1) + ((2 : Int64) * w2)))]) _
      refine XS.ladd X31.here hx rfl (hb hby at_134) rfl ?_
      show SS p e below T31 (mkF m 135 #[vi p0, vi p1, vi p2, vi p3, vi p4, vi p5, vi (4 : Int32), vl w0, us, vl w1, us, vl w2, us, vl w3, us, vl vt, us, vr nb_26, vr b27, vd (FP.ddiv (FP.l2d ((((0 : Int64) + w1) + ((2 : Int64) * w2)) + ((3 : Int64) * w3))) (FP.l2d vt)), us, vl (((0 : Int64) + w1) + ((2 : Int64) * w2)), us, uu, uu] [(.long ((((0 : Int64) + w1) + ((2 : Int64) * w2)) + ((3 : Int64) * w3)))]) _
      refine XS.lstore X31.here hx rfl (hb hby at_135) rfl (l' := #[vi p0, vi p1, vi p2, vi p3, vi p4, vi p5, vi (4 : Int32), vl w0, us, vl w1, us, vl w2, us, vl w3, us, vl vt, us, vr nb_26, vr b27, vd (FP.ddiv (FP.l2d ((((0 : Int64) + w1) + ((2 : Int64) * w2)) + ((3 : Int64) * w3))) (FP.l2d vt)), us, vl ((((0 : Int64) + w1) + ((2 : Int64) * w2)) + ((3 : Int64) * w3)), us, uu, uu]) rfl ?_
      show SS p e below T31 (mkF m 137 #[vi p0, vi p1, vi p2, vi p3, vi p4, vi p5, vi (4 : Int32), vl w0, us, vl w1, us, vl w2, us, vl w3, us, vl vt, us, vr nb_26, vr b27, vd (FP.ddiv (FP.l2d ((((0 : Int64) + w1) + ((2 : Int64) * w2)) + ((3 : Int64) * w3))) (FP.l2d vt)), us, vl ((((0 : Int64) + w1) + ((2 : Int64) * w2)) + ((3 : Int64) * w3)), us, uu, uu] []) _
      refine XS.lload X31.here hx rfl (hb hby at_137) rfl ?_
      show SS p e below T31 (mkF m 139 #[vi p0, vi p1, vi p2, vi p3, vi p4, vi p5, vi (4 : Int32), vl w0, us, vl w1, us, vl w2, us, vl w3, us, vl vt, us, vr nb_26, vr b27, vd (FP.ddiv (FP.l2d ((((0 : Int64) + w1) + ((2 : Int64) * w2)) + ((3 : Int64) * w3))) (FP.l2d vt)), us, vl ((((0 : Int64) + w1) + ((2 : Int64) * w2)) + ((3 : Int64) * w3)), us, uu, uu] [(.long ((((0 : Int64) + w1) + ((2 : Int64) * w2)) + ((3 : Int64) * w3)))]) _
      refine XS.l2dS X31.here hx rfl (hb hby at_139) rfl (v := (FP.l2d ((((0 : Int64) + w1) + ((2 : Int64) * w2)) + ((3 : Int64) * w3)))) rfl ?_
      show SS p e below T31 (mkF m 140 #[vi p0, vi p1, vi p2, vi p3, vi p4, vi p5, vi (4 : Int32), vl w0, us, vl w1, us, vl w2, us, vl w3, us, vl vt, us, vr nb_26, vr b27, vd (FP.ddiv (FP.l2d ((((0 : Int64) + w1) + ((2 : Int64) * w2)) + ((3 : Int64) * w3))) (FP.l2d vt)), us, vl ((((0 : Int64) + w1) + ((2 : Int64) * w2)) + ((3 : Int64) * w3)), us, uu, uu] [(.double (FP.l2d ((((0 : Int64) + w1) + ((2 : Int64) * w2)) + ((3 : Int64) * w3))))]) _
      refine XS.lload X31.here hx rfl (hb hby at_140) rfl ?_
      show SS p e below T31 (mkF m 142 #[vi p0, vi p1, vi p2, vi p3, vi p4, vi p5, vi (4 : Int32), vl w0, us, vl w1, us, vl w2, us, vl w3, us, vl vt, us, vr nb_26, vr b27, vd (FP.ddiv (FP.l2d ((((0 : Int64) + w1) + ((2 : Int64) * w2)) + ((3 : Int64) * w3))) (FP.l2d vt)), us, vl ((((0 : Int64) + w1) + ((2 : Int64) * w2)) + ((3 : Int64) * w3)), us, uu, uu] [(.long vt), (.double (FP.l2d ((((0 : Int64) + w1) + ((2 : Int64) * w2)) + ((3 : Int64) * w3))))]) _
      refine XS.l2dS X31.here hx rfl (hb hby at_142) rfl (v := (FP.l2d vt)) rfl ?_
      show SS p e below T31 (mkF m 143 #[vi p0, vi p1, vi p2, vi p3, vi p4, vi p5, vi (4 : Int32), vl w0, us, vl w1, us, vl w2, us, vl w3, us, vl vt, us, vr nb_26, vr b27, vd (FP.ddiv (FP.l2d ((((0 : Int64) + w1) + ((2 : Int64) * w2)) + ((3 : Int64) * w3))) (FP.l2d vt)), us, vl ((((0 : Int64) + w1) + ((2 : Int64) * w2)) + ((3 : Int64) * w3)), us, uu, uu] [(.double (FP.l2d vt)), (.double (FP.l2d ((((0 : Int64) + w1) + ((2 : Int64) * w2)) + ((3 : Int64) * w3))))]) _
      refine XS.ddivS X31.here hx rfl (hb hby at_143) rfl (v := (FP.ddiv (FP.l2d ((((0 : Int64) + w1) + ((2 : Int64) * w2)) + ((3 : Int64) * w3))) (FP.l2d vt))) (own_dnn _ unz) rfl ?_
      show SS p e below T31 (mkF m 144 #[vi p0, vi p1, vi p2, vi p3, vi p4, vi p5, vi (4 : Int32), vl w0, us, vl w1, us, vl w2, us, vl w3, us, vl vt, us, vr nb_26, vr b27, vd (FP.ddiv (FP.l2d ((((0 : Int64) + w1) + ((2 : Int64) * w2)) + ((3 : Int64) * w3))) (FP.l2d vt)), us, vl ((((0 : Int64) + w1) + ((2 : Int64) * w2)) + ((3 : Int64) * w3)), us, uu, uu] [(.double (FP.ddiv (FP.l2d ((((0 : Int64) + w1) + ((2 : Int64) * w2)) + ((3 : Int64) * w3))) (FP.l2d vt)))]) _
      refine XS.dstore X31.here hx rfl (hb hby at_144) rfl (l' := #[vi p0, vi p1, vi p2, vi p3, vi p4, vi p5, vi (4 : Int32), vl w0, us, vl w1, us, vl w2, us, vl w3, us, vl vt, us, vr nb_26, vr b27, vd (FP.ddiv (FP.l2d ((((0 : Int64) + w1) + ((2 : Int64) * w2)) + ((3 : Int64) * w3))) (FP.l2d vt)), us, vl ((((0 : Int64) + w1) + ((2 : Int64) * w2)) + ((3 : Int64) * w3)), us, vd (FP.ddiv (FP.l2d ((((0 : Int64) + w1) + ((2 : Int64) * w2)) + ((3 : Int64) * w3))) (FP.l2d vt)), us]) rfl ?_
      show SS p e below T31 (mkF m 146 #[vi p0, vi p1, vi p2, vi p3, vi p4, vi p5, vi (4 : Int32), vl w0, us, vl w1, us, vl w2, us, vl w3, us, vl vt, us, vr nb_26, vr b27, vd (FP.ddiv (FP.l2d ((((0 : Int64) + w1) + ((2 : Int64) * w2)) + ((3 : Int64) * w3))) (FP.l2d vt)), us, vl ((((0 : Int64) + w1) + ((2 : Int64) * w2)) + ((3 : Int64) * w3)), us, vd (FP.ddiv (FP.l2d ((((0 : Int64) + w1) + ((2 : Int64) * w2)) + ((3 : Int64) * w3))) (FP.l2d vt)), us] []) _
      refine XS.dload X31.here hx rfl (hb hby at_146) rfl ?_
      show SS p e below T31 (mkF m 148 #[vi p0, vi p1, vi p2, vi p3, vi p4, vi p5, vi (4 : Int32), vl w0, us, vl w1, us, vl w2, us, vl w3, us, vl vt, us, vr nb_26, vr b27, vd (FP.ddiv (FP.l2d ((((0 : Int64) + w1) + ((2 : Int64) * w2)) + ((3 : Int64) * w3))) (FP.l2d vt)), us, vl ((((0 : Int64) + w1) + ((2 : Int64) * w2)) + ((3 : Int64) * w3)), us, vd (FP.ddiv (FP.l2d ((((0 : Int64) + w1) + ((2 : Int64) * w2)) + ((3 : Int64) * w3))) (FP.l2d vt)), us] [(.double (FP.ddiv (FP.l2d ((((0 : Int64) + w1) + ((2 : Int64) * w2)) + ((3 : Int64) * w3))) (FP.l2d vt)))]) _
      refine XS.dload X31.here hx rfl (hb hby at_148) rfl ?_
      show SS p e below T31 (mkF m 150 #[vi p0, vi p1, vi p2, vi p3, vi p4, vi p5, vi (4 : Int32), vl w0, us, vl w1, us, vl w2, us, vl w3, us, vl vt, us, vr nb_26, vr b27, vd (FP.ddiv (FP.l2d ((((0 : Int64) + w1) + ((2 : Int64) * w2)) + ((3 : Int64) * w3))) (FP.l2d vt)), us, vl ((((0 : Int64) + w1) + ((2 : Int64) * w2)) + ((3 : Int64) * w3)), us, vd (FP.ddiv (FP.l2d ((((0 : Int64) + w1) + ((2 : Int64) * w2)) + ((3 : Int64) * w3))) (FP.l2d vt)), us] [(.double (FP.ddiv (FP.l2d ((((0 : Int64) + w1) + ((2 : Int64) * w2)) + ((3 : Int64) * w3))) (FP.l2d vt))), (.double (FP.ddiv (FP.l2d ((((0 : Int64) + w1) + ((2 : Int64) * w2)) + ((3 : Int64) * w3))) (FP.l2d vt)))]) _
      refine XS.dcmpS X31.here hx rfl (hb hby at_150) rfl (v := (0 : Int32)) (dcmpV_self (own_dnn _ unz) _) ?_
      show SS p e below T31 (mkF m 151 #[vi p0, vi p1, vi p2, vi p3, vi p4, vi p5, vi (4 : Int32), vl w0, us, vl w1, us, vl w2, us, vl w3, us, vl vt, us, vr nb_26, vr b27, vd (FP.ddiv (FP.l2d ((((0 : Int64) + w1) + ((2 : Int64) * w2)) + ((3 : Int64) * w3))) (FP.l2d vt)), us, vl ((((0 : Int64) + w1) + ((2 : Int64) * w2)) + ((3 : Int64) * w3)), us, vd (FP.ddiv (FP.l2d ((((0 : Int64) + w1) + ((2 : Int64) * w2)) + ((3 : Int64) * w3))) (FP.l2d vt)), us] [(.int (0 : Int32))]) _
      refine XS.ifNo X31.here hx rfl (hb hby at_151) rfl ((if0 _ _).trans (teq (rfl : (0 : Int32) = (0 : Int32))).2) ?_
      show SS p e below T31 (mkF m 154 #[vi p0, vi p1, vi p2, vi p3, vi p4, vi p5, vi (4 : Int32), vl w0, us, vl w1, us, vl w2, us, vl w3, us, vl vt, us, vr nb_26, vr b27, vd (FP.ddiv (FP.l2d ((((0 : Int64) + w1) + ((2 : Int64) * w2)) + ((3 : Int64) * w3))) (FP.l2d vt)), us, vl ((((0 : Int64) + w1) + ((2 : Int64) * w2)) + ((3 : Int64) * w3)), us, vd (FP.ddiv (FP.l2d ((((0 : Int64) + w1) + ((2 : Int64) * w2)) + ((3 : Int64) * w3))) (FP.l2d vt)), us] []) _
      refine XS.iconst X31.here hx rfl (hb hby at_154) ?_
      show SS p e below T31 (mkF m 155 #[vi p0, vi p1, vi p2, vi p3, vi p4, vi p5, vi (4 : Int32), vl w0, us, vl w1, us, vl w2, us, vl w3, us, vl vt, us, vr nb_26, vr b27, vd (FP.ddiv (FP.l2d ((((0 : Int64) + w1) + ((2 : Int64) * w2)) + ((3 : Int64) * w3))) (FP.l2d vt)), us, vl ((((0 : Int64) + w1) + ((2 : Int64) * w2)) + ((3 : Int64) * w3)), us, vd (FP.ddiv (FP.l2d ((((0 : Int64) + w1) + ((2 : Int64) * w2)) + ((3 : Int64) * w3))) (FP.l2d vt)), us] [(.int (1 : Int32))]) _
      refine XS.goto X31.here hx rfl (pc0 := 155) (pc' := 159) rfl (hb hby at_155) (by decide) (by decide) ?_
      show SS p e below T31 (mkF m 159 #[vi p0, vi p1, vi p2, vi p3, vi p4, vi p5, vi (4 : Int32), vl w0, us, vl w1, us, vl w2, us, vl w3, us, vl vt, us, vr nb_26, vr b27, vd (FP.ddiv (FP.l2d ((((0 : Int64) + w1) + ((2 : Int64) * w2)) + ((3 : Int64) * w3))) (FP.l2d vt)), us, vl ((((0 : Int64) + w1) + ((2 : Int64) * w2)) + ((3 : Int64) * w3)), us, vd (FP.ddiv (FP.l2d ((((0 : Int64) + w1) + ((2 : Int64) * w2)) + ((3 : Int64) * w3))) (FP.l2d vt)), us] [(.int (1 : Int32))]) _
      exact retN X31 hx (t := .boolean) Bd.returns (by simp) (hb hby at_159) hr
    · show Q_rm0 Z p0 p1 p2 p3 p4 p5 w0 w1 w2 w3 vt (4 : Int32) h0 n0 _ T31.heap _
      rw [eh31]
      exact ⟨rfl, N31⟩
theorem own_m (x : Int32) : 0 ≤ ((x &&& (2147483647 : Int32)).toInt64).toInt ∧ ((x &&& (2147483647 : Int32)).toInt64).toInt < 2147483648 := by
  rw [c_i2l]
  have h := (c_andS x (2147483647 : Int32)).2.2 (by decide)
  have r := rng32 (x &&& (2147483647 : Int32))
  omega
theorem own_t (x : Int32) : ((x &&& (2147483647 : Int32)).toInt64 + (1 : Int64)) ≠ 0 := fun e => by
  have h := own_m x
  have a := c_ladd ((x &&& (2147483647 : Int32)).toInt64) (1 : Int64)
  have e1 : ((1 : Int64)).toInt = 1 := by decide
  have e0 : ((0 : Int64)).toInt = 0 := by decide
  rw [e] at a
  omega
theorem own_5 (x : Int32) : ((x &&& (2147483647 : Int32)) % (5 : Int32)) = 0 ∨ ((x &&& (2147483647 : Int32)) % (5 : Int32)) = 1 ∨ ((x &&& (2147483647 : Int32)) % (5 : Int32)) = 2 ∨ ((x &&& (2147483647 : Int32)) % (5 : Int32)) = 3 ∨ ((x &&& (2147483647 : Int32)) % (5 : Int32)) = 4 := by
  have h2 := (c_andS x (2147483647 : Int32)).2.2 (by decide)
  have q := (c_irem (x &&& (2147483647 : Int32)) (5 : Int32) 5 (by decide)).1 h2
  have e0 : ((0 : Int32)).toInt = 0 := by decide
  have e1 : ((1 : Int32)).toInt = 1 := by decide
  have e2 : ((2 : Int32)).toInt = 2 := by decide
  have e3 : ((3 : Int32)).toInt = 3 := by decide
  have e4 : ((4 : Int32)).toInt = 4 := by decide
  generalize ((x &&& (2147483647 : Int32)) % (5 : Int32)) = z at *
  simp only [← Int32.toInt_inj]
  omega

set_option maxRecDepth 65536 in
set_option maxHeartbeats 40000000 in
theorem comes_1 {Post : Tables → Env → Array Value → State → Outcome → State → Prop} (hpost : ∀ tb e args s v u, (limb_1_1.after args s (.returned v) u = true ∧ limb_1_2.after args s (.returned v) u = true ∧ True) → FrameEnd s (.returned v) u (Jvm.fieldLocs frame_1_writes args s ++ Jvm.arrayLocs frame_1_arrays args s ++ Jvm.staticLocs frame_1_statics s) 16 128 → Post tb e args s (.returned v) u) :
    ArmFor flags0 classFile x code maxLocals ret World_1 tables_1 room_1 Calls_1 rest_1 Pre_1 Post := by
  intro l hfl _ _ p e ha hc hk s m args below hf hA hF happ hP
  obtain ⟨hcalls, hrest, hpre⟩ := hP
  obtain ⟨-, -, -, hnamed, -, -, -, hat⟩ := (Spec.applies_iff hf).mp happ
  obtain ⟨hg, hn⟩ := and_e (Cond.before_iff.mp (show (Jvm.Cond.and given_1 narrow_1).before args s = true from hpre))
  obtain ⟨g1, g2⟩ := and_e hg
  obtain ⟨g3, g4⟩ := and_e g2
  obtain ⟨g5, g6⟩ := and_e g4
  obtain ⟨g7, g8⟩ := and_e g6
  obtain ⟨g9, g10⟩ := and_e g8
  obtain ⟨g11, g12⟩ := and_e g10
  obtain ⟨w0, w1, w2, w3, w4, w5, rfl⟩ : ∃ w0 w1 w2 w3 w4 w5 : Value, args = #[w0, w1, w2, w3, w4, w5] := by
    have hs : args.size = 6 := by simpa [Cond.value, given_1] using g1
    obtain ⟨L⟩ := args
    match L, hs with
    | [w0, w1, w2, w3, w4, w5], _ => exact ⟨w0, w1, w2, w3, w4, w5, rfl⟩
  have hw := fun d (hd : d ∈ tables_1) => atoms_spec (ws := Jvm.Cond.code x code maxLocals ret :: tables_1) hat d (List.mem_cons_of_mem _ hd)
  have hfit : Fit s := fun {y c} hc i hi => by
    obtain ⟨ha, rfl⟩ := Array.getElem?_eq_some_iff.mp hc
    have q := List.all_eq_true.mp ((Array.all_eq_true_iff_forall_mem.mp hF) _ (Array.getElem_mem ha)) i (List.mem_range.mpr hi)
    simpa [Array.getElem?_eq_getElem hi] using q
  obtain ⟨i0, ei0⟩ := is_v g3
  obtain rfl : w0 = (.int i0) := Option.some.inj ei0
  obtain ⟨i1, ei1⟩ := is_v g5
  obtain rfl : w1 = (.int i1) := Option.some.inj ei1
  obtain ⟨i2, ei2⟩ := is_v g7
  obtain rfl : w2 = (.int i2) := Option.some.inj ei2
  obtain ⟨i3, ei3⟩ := is_v g9
  obtain rfl : w3 = (.int i3) := Option.some.inj ei3
  obtain ⟨i4, ei4⟩ := is_v g11
  obtain rfl : w4 = (.int i4) := Option.some.inj ei4
  obtain ⟨i5, ei5⟩ := is_v g12
  obtain rfl : w5 = (.int i5) := Option.some.inj ei5
  obtain ⟨n, o, h1, h2, h3, _, L, rfl, ⟨rfl, N⟩, hq⟩ := rm0 l s _ hw tables_1 i0 i1 i2 i3 i4 i5 _ _ _ _ _ _ s.heap s.heap.size (Nat.le_refl _) rfl rfl rfl rfl rfl rfl (own_t i5) (own_5 i0) (own_m i1).1 (own_m i1).2 (own_m i2).1 (own_m i2).2 (own_m i3).1 (own_m i3).2 (own_m i4).1 (own_m i4).2 p e ha hc hk s m _ below hf ((Spec.applies_iff_loose hf).mp happ).1 ⟨rfl, State.Warmed39.refl s, rfl⟩ trivial
  refine ⟨n, _, h1, h2, h3, hpost _ _ _ _ _ _ ⟨Cond.after_iff.mpr rfl, Cond.after_iff.mpr (eq_i res_at (Term.int_eval (1)) rfl), trivial⟩ ⟨hq.1, hq.2.1, (hq.2.2.sift fun y hy => Or.inr (N y hy)).mono (by decide) (by decide)⟩⟩
theorem main_1_1 : Claimed_1_1 := comes_1 fun _ _ _ _ _ _ h hF => ⟨h.1, hF⟩
theorem main_1_2 : Claimed_1_2 := comes_1 fun _ _ _ _ _ _ h hF => ⟨h.2.1, hF⟩
end Jvm.Pilot.@@N@@
namespace Jvm.Pilot.@@N@@
open Jvm Jvm.ClassFile Sem Op Lib Jvm.Free Jvm.Stand Jvm.Pilot.@@N@@.Jvm.D
/-! MADE BY PROGRAM (witnessworld.py) out of the Statement's table words and the real class files: 17 classes; the members and pool entries that the words name. The judged class is class 1, her method 2. -/
namespace start1
open Jvm.ClassFile
def u (s : String) : CpInfo := .utf8 (stringToUtf16 s)
/-- a pool by its gaps: so many unusable entries, then the entry; so many at the end -/
def gap : Nat → List CpInfo → List CpInfo
  | 0, r => r
  | n + 1, r => .unusable :: gap n r
def poolList (es : List (Nat × CpInfo)) (last : Nat) : List CpInfo := es.foldr (fun e r => gap e.1 (e.2 :: r)) (gap last [])
def pool (es : List (Nat × CpInfo)) (last : Nat) : Array CpInfo := ⟨poolList es last⟩
def fileOf (pool : Array CpInfo) (this : Nat) (attrs : Array Attribute := #[]) (ms : Array MethodInfo := #[]) (fl : Nat := 33) (sup : Nat := 0) (ifs : Array Nat := #[]) (fds : Array FieldInfo := #[]) : ClassFile where
  minorVersion := 0
  majorVersion := 65
  constantPool := pool
  accessFlags := fl
  thisClass := this
  superClass := sup
  interfaces := ifs
  fields := fds
  methods := ms
  attributes := attrs
def plain (name : String) (sup : Option ClassId) : Class where
  name := name
  kind := .ordinary
  loader := none
  accessFlags := 33
  super := sup
  interfaces := #[]
  cf := none
  fields := #[]
  methods := #[]
  instanceTypes := #[]
  staticTypes := #[]
  resolved := #[]
  callSites := []
  init := .initialized
  statics := none
  mirror := none

def pool0 : Array CpInfo := pool [(5, u "<init>"), (0, u "()V"), (1, .class_ 10), (1, u "java/lang/Object"), (85, u "clone"), (0, u "()Ljava/lang/Object;")] 26

def k0c0 : Code := { maxStack := 0, maxLocals := 1, code := object_method_1_code, exceptionTable := #[], attributes := #[] }
def k0m0 : Method := { name := "<init>", desc := "()V", sig := { parameters := [], returnType := none }, accessFlags := 1, code := some k0c0 }
def k0m1 : Method := { name := "clone", desc := "()Ljava/lang/Object;", sig := { parameters := [], returnType := some (.object "java/lang/Object") }, accessFlags := 260, code := none }
/-- java/lang/Object -/
def k0 : Class := { plain "java/lang/Object" none with
  accessFlags := 33
  interfaces := #[]
  cf := some (fileOf pool0 8 #[] #[{ accessFlags := 1, nameIndex := 5, descriptorIndex := 6, attributes := #[] }, { accessFlags := 260, nameIndex := 96, descriptorIndex := 97, attributes := #[] }] 33 0 #[] #[])
  fields := #[]
  methods := #[k0m0, k0m1]
  instanceTypes := #[]
  staticTypes := #[]
  resolved := Array.replicate 124 none
  statics := none }

def pool1 : Array CpInfo := pool [(2, .class_ 4), (1, u "java/lang/Object"), (0, u "<init>"), (0, u "()V"), (0, .integer 2147483647), (0, .methodref 9 10), (0, .class_ 11), (0, .nameAndType 12 13), (0, u "org/quarrel/model/DistributionMeanPinLaw"), (0, u "weights"), (0, u "(IDDDD)[D"), (0, .class_ 15), (0, u "org/quarrel/model/Distribution"), (0, .methodref 14 17), (0, .nameAndType 5 18), (0, u "([DD)V"), (0, .methodref 14 20), (0, .nameAndType 21 22), (0, u "mean"), (0, u "()D"), (0, .long 2), (1, .long 3), (4, u "law"), (0, u "(IIIIII)Z")] 4

def k1m0 : Method := { name := "<init>", desc := "()V", sig := { parameters := [], returnType := none }, accessFlags := 1, code := none }
def k1c1 : Code := { maxStack := 5, maxLocals := 9, code := method_2_code, exceptionTable := #[], attributes := #[] }
def k1m1 : Method := { name := "weights", desc := "(IDDDD)[D", sig := { parameters := [.int, .double, .double, .double, .double], returnType := some (.array .double) }, accessFlags := 10, code := some k1c1 }
def k1c2 : Code := { maxStack := 9, maxLocals := 25, code := code, exceptionTable := #[], attributes := #[] }
def k1m2 : Method := { name := "law", desc := "(IIIIII)Z", sig := { parameters := [.int, .int, .int, .int, .int, .int], returnType := some .boolean }, accessFlags := 9, code := some k1c2 }
/-- org/quarrel/model/DistributionMeanPinLaw -/
def k1 : Class := { plain "org/quarrel/model/DistributionMeanPinLaw" (some 0) with
  accessFlags := 49
  interfaces := #[]
  cf := some (fileOf pool1 9 #[] #[{ accessFlags := 1, nameIndex := 5, descriptorIndex := 6, attributes := #[] }, { accessFlags := 10, nameIndex := 12, descriptorIndex := 13, attributes := #[] }, { accessFlags := 9, nameIndex := 30, descriptorIndex := 31, attributes := #[] }] 49 2 #[] #[])
  fields := #[]
  methods := #[k1m0, k1m1, k1m2]
  instanceTypes := #[]
  staticTypes := #[]
  resolved := Array.replicate 36 none
  statics := none }

def pool2 : Array CpInfo := pool [(2, .class_ 4), (1, u "org/quarrel/model/Distribution"), (0, u "<init>"), (0, u "([DD)V"), (0, .methodref 8 9), (0, .class_ 10), (0, .nameAndType 5 11), (0, u "java/lang/Object"), (0, u "()V"), (0, .methodref 2 13), (0, .nameAndType 14 15), (0, u "requireProbability"), (0, u "(D)V"), (0, .methodref 17 18), (0, .class_ 19), (0, .nameAndType 20 21), (0, u "[D"), (0, u "clone"), (0, u "()Ljava/lang/Object;"), (0, .fieldref 2 23), (0, .nameAndType 24 19), (0, u "weights"), (0, .fieldref 2 26), (0, .nameAndType 27 28), (0, u "total"), (0, u "D"), (22, .methodref 52 53), (0, .class_ 54), (0, .nameAndType 55 56), (0, u "java/lang/Double"), (0, u "isFinite"), (0, u "(D)Z"), (60, u "MOST_TRIALS"), (0, u "J"), (17, u "mean"), (0, u "()D")] 32

def k2c0 : Code := { maxStack := 3, maxLocals := 9, code := prog_15_method_2_code, exceptionTable := #[], attributes := #[] }
def k2m0 : Method := { name := "<init>", desc := "([DD)V", sig := { parameters := [(.array .double), .double], returnType := none }, accessFlags := 0, code := some k2c0 }
def k2c1 : Code := { maxStack := 4, maxLocals := 2, code := prog_15_method_6_code, exceptionTable := #[], attributes := #[] }
def k2m1 : Method := { name := "requireProbability", desc := "(D)V", sig := { parameters := [.double], returnType := none }, accessFlags := 8, code := some k2c1 }
def k2c2 : Code := { maxStack := 6, maxLocals := 4, code := prog_15_method_11_code, exceptionTable := #[], attributes := #[] }
def k2m2 : Method := { name := "mean", desc := "()D", sig := { parameters := [], returnType := some .double }, accessFlags := 1, code := some k2c2 }
/-- org/quarrel/model/Distribution -/
def k2 : Class := { plain "org/quarrel/model/Distribution" (some 0) with
  accessFlags := 49
  interfaces := #[]
  cf := some (fileOf pool2 2 #[] #[{ accessFlags := 0, nameIndex := 5, descriptorIndex := 6, attributes := #[] }, { accessFlags := 8, nameIndex := 14, descriptorIndex := 15, attributes := #[] }, { accessFlags := 1, nameIndex := 136, descriptorIndex := 137, attributes := #[] }] 49 8 #[] #[{ accessFlags := 26, nameIndex := 117, descriptorIndex := 118, attributes := #[] }, { accessFlags := 18, nameIndex := 24, descriptorIndex := 19, attributes := #[] }, { accessFlags := 18, nameIndex := 27, descriptorIndex := 28, attributes := #[] }])
  fields := #[{ name := "MOST_TRIALS", type := .long, accessFlags := 26, slot := 0, constantValue := 0 }, { name := "weights", type := (.array .double), accessFlags := 18, slot := 0, constantValue := 0 }, { name := "total", type := .double, accessFlags := 18, slot := 1, constantValue := 0 }]
  methods := #[k2m0, k2m1, k2m2]
  instanceTypes := #[(.array .double), .double]
  staticTypes := #[.long]
  resolved := Array.replicate 170 none
  statics := none }

def pool3 : Array CpInfo := pool [(1, .class_ 2), (0, u "java/lang/Cloneable"), (0, .class_ 4), (0, u "java/lang/Object")] 2

/-- java/lang/Cloneable -/
def k3 : Class := { plain "java/lang/Cloneable" (some 0) with
  accessFlags := 1537
  interfaces := #[]
  cf := some (fileOf pool3 1 #[] #[] 1537 3 #[] #[])
  fields := #[]
  methods := #[]
  instanceTypes := #[]
  staticTypes := #[]
  resolved := Array.replicate 7 none
  statics := none }

def pool4 : Array CpInfo := pool [(1, .class_ 2), (0, u "java/io/Serializable"), (0, .class_ 4), (0, u "java/lang/Object")] 2

/-- java/io/Serializable -/
def k4 : Class := { plain "java/io/Serializable" (some 0) with
  accessFlags := 1537
  interfaces := #[]
  cf := some (fileOf pool4 1 #[] #[] 1537 3 #[] #[])
  fields := #[]
  methods := #[]
  instanceTypes := #[]
  staticTypes := #[]
  resolved := Array.replicate 7 none
  statics := none }

def pool5 : Array CpInfo := pool [(2, .class_ 4), (1, u "java/lang/Object"), (0, u "<init>"), (0, u "()V"), (1, .class_ 10), (1, u "java/lang/Number"), (2, .class_ 14), (0, u "java/io/Serializable"), (0, u "serialVersionUID"), (0, u "J")] 20

def k5m0 : Method := { name := "<init>", desc := "()V", sig := { parameters := [], returnType := none }, accessFlags := 1, code := none }
/-- java/lang/Number -/
def k5 : Class := { plain "java/lang/Number" (some 0) with
  accessFlags := 1057
  interfaces := #[4]
  cf := some (fileOf pool5 8 #[] #[{ accessFlags := 1, nameIndex := 5, descriptorIndex := 6, attributes := #[] }] 1057 2 #[13] #[{ accessFlags := 26, nameIndex := 15, descriptorIndex := 16, attributes := #[] }])
  fields := #[{ name := "serialVersionUID", type := .long, accessFlags := 26, slot := 0, constantValue := 0 }]
  methods := #[k5m0]
  instanceTypes := #[]
  staticTypes := #[.long]
  resolved := Array.replicate 37 none
  statics := none }

def pool6 : Array CpInfo := pool [(1, .class_ 2), (0, u "java/lang/Comparable"), (0, .class_ 4), (0, u "java/lang/Object")] 7

/-- java/lang/Comparable -/
def k6 : Class := { plain "java/lang/Comparable" (some 0) with
  accessFlags := 1537
  interfaces := #[]
  cf := some (fileOf pool6 1 #[] #[] 1537 3 #[] #[])
  fields := #[]
  methods := #[]
  instanceTypes := #[]
  staticTypes := #[]
  resolved := Array.replicate 12 none
  statics := none }

def pool7 : Array CpInfo := pool [(1, .class_ 2), (0, u "java/lang/constant/Constable"), (0, .class_ 4), (0, u "java/lang/Object")] 6

/-- java/lang/constant/Constable -/
def k7 : Class := { plain "java/lang/constant/Constable" (some 0) with
  accessFlags := 1537
  interfaces := #[]
  cf := some (fileOf pool7 1 #[] #[] 1537 3 #[] #[])
  fields := #[]
  methods := #[]
  instanceTypes := #[]
  staticTypes := #[]
  resolved := Array.replicate 11 none
  statics := none }

def pool8 : Array CpInfo := pool [(1, .class_ 2), (0, u "java/lang/constant/ConstantDesc"), (0, .class_ 4), (0, u "java/lang/Object")] 32

/-- java/lang/constant/ConstantDesc -/
def k8 : Class := { plain "java/lang/constant/ConstantDesc" (some 0) with
  accessFlags := 1537
  interfaces := #[]
  cf := some (fileOf pool8 1 #[] #[] 1537 3 #[] #[])
  fields := #[]
  methods := #[]
  instanceTypes := #[]
  staticTypes := #[]
  resolved := Array.replicate 37 none
  statics := none }

def pool9 : Array CpInfo := pool [(1, .class_ 2), (0, u "java/lang/Double"), (10, u "isFinite"), (0, u "(D)Z"), (8, .class_ 25), (1, u "java/lang/Math"), (12, .methodref 23 39), (0, .nameAndType 40 41), (0, u "abs"), (0, u "(D)D"), (69, .double 9218868437227405311), (2, .class_ 116), (1, u "java/lang/Number"), (3, u "value"), (0, u "D"), (51, u "TYPE"), (0, u "Ljava/lang/Class;"), (0, .class_ 176), (0, u "java/lang/Comparable"), (0, .class_ 178), (0, u "java/lang/constant/Constable"), (0, .class_ 180), (0, u "java/lang/constant/ConstantDesc"), (0, u "POSITIVE_INFINITY"), (3, u "NEGATIVE_INFINITY"), (2, u "NaN"), (2, u "MAX_VALUE"), (0, u "MIN_NORMAL"), (0, u "MIN_VALUE"), (2, u "SIZE"), (0, u "I"), (1, u "PRECISION"), (1, u "MAX_EXPONENT"), (1, u "MIN_EXPONENT"), (1, u "BYTES"), (3, u "serialVersionUID"), (0, u "J")] 79

def k9c0 : Code := { maxStack := 4, maxLocals := 2, code := jdk_117_method_8_code, exceptionTable := #[], attributes := #[] }
def k9m0 : Method := { name := "isFinite", desc := "(D)Z", sig := { parameters := [.double], returnType := some .boolean }, accessFlags := 9, code := some k9c0 }
/-- java/lang/Double -/
def k9 : Class := { plain "java/lang/Double" (some 5) with
  accessFlags := 49
  interfaces := #[6, 7, 8]
  cf := some (fileOf pool9 1 #[] #[{ accessFlags := 9, nameIndex := 13, descriptorIndex := 14, attributes := #[] }] 49 114 #[175, 177, 179] #[{ accessFlags := 25, nameIndex := 181, descriptorIndex := 121, attributes := #[] }, { accessFlags := 25, nameIndex := 185, descriptorIndex := 121, attributes := #[] }, { accessFlags := 25, nameIndex := 188, descriptorIndex := 121, attributes := #[] }, { accessFlags := 25, nameIndex := 191, descriptorIndex := 121, attributes := #[] }, { accessFlags := 25, nameIndex := 192, descriptorIndex := 121, attributes := #[] }, { accessFlags := 25, nameIndex := 193, descriptorIndex := 121, attributes := #[] }, { accessFlags := 25, nameIndex := 196, descriptorIndex := 197, attributes := #[] }, { accessFlags := 25, nameIndex := 199, descriptorIndex := 197, attributes := #[] }, { accessFlags := 25, nameIndex := 201, descriptorIndex := 197, attributes := #[] }, { accessFlags := 25, nameIndex := 203, descriptorIndex := 197, attributes := #[] }, { accessFlags := 25, nameIndex := 205, descriptorIndex := 197, attributes := #[] }, { accessFlags := 25, nameIndex := 173, descriptorIndex := 174, attributes := #[] }, { accessFlags := 18, nameIndex := 120, descriptorIndex := 121, attributes := #[] }, { accessFlags := 26, nameIndex := 209, descriptorIndex := 210, attributes := #[] }])
  fields := #[{ name := "POSITIVE_INFINITY", type := .double, accessFlags := 25, slot := 0, constantValue := 0 }, { name := "NEGATIVE_INFINITY", type := .double, accessFlags := 25, slot := 1, constantValue := 0 }, { name := "NaN", type := .double, accessFlags := 25, slot := 2, constantValue := 0 }, { name := "MAX_VALUE", type := .double, accessFlags := 25, slot := 3, constantValue := 0 }, { name := "MIN_NORMAL", type := .double, accessFlags := 25, slot := 4, constantValue := 0 }, { name := "MIN_VALUE", type := .double, accessFlags := 25, slot := 5, constantValue := 0 }, { name := "SIZE", type := .int, accessFlags := 25, slot := 6, constantValue := 0 }, { name := "PRECISION", type := .int, accessFlags := 25, slot := 7, constantValue := 0 }, { name := "MAX_EXPONENT", type := .int, accessFlags := 25, slot := 8, constantValue := 0 }, { name := "MIN_EXPONENT", type := .int, accessFlags := 25, slot := 9, constantValue := 0 }, { name := "BYTES", type := .int, accessFlags := 25, slot := 10, constantValue := 0 }, { name := "TYPE", type := (.object "java/lang/Class"), accessFlags := 25, slot := 11, constantValue := 0 }, { name := "value", type := .double, accessFlags := 18, slot := 0, constantValue := 0 }, { name := "serialVersionUID", type := .long, accessFlags := 26, slot := 12, constantValue := 0 }]
  methods := #[k9m0]
  instanceTypes := #[.double]
  staticTypes := #[.double, .double, .double, .double, .double, .double, .int, .int, .int, .int, .int, (.object "java/lang/Class"), .long]
  resolved := Array.replicate 290 none
  statics := none }

def pool10 : Array CpInfo := pool [(1, .class_ 2), (0, u "java/lang/Math"), (1, .class_ 6), (1, u "java/lang/Object"), (0, u "<init>"), (0, u "()V"), (5, u "(D)D"), (83, .class_ 100), (1, u "java/lang/Math$RandomNumberGeneratorHolder"), (23, u "abs"), (47, u "negativeZeroFloatBits"), (0, u "J"), (2, u "negativeZeroDoubleBits"), (68, u "$assertionsDisabled"), (0, u "Z"), (91, u "twoToTheDoubleScaleDown"), (0, u "D"), (4, u "twoToTheDoubleScaleUp"), (9, u "E"), (3, u "PI"), (2, u "TAU"), (2, u "DEGREES_TO_RADIANS"), (0, u "RADIANS_TO_DEGREES")] 94

def k10m0 : Method := { name := "<init>", desc := "()V", sig := { parameters := [], returnType := none }, accessFlags := 2, code := none }
def k10c1 : Code := { maxStack := 4, maxLocals := 2, code := jdk_29_method_64_code, exceptionTable := #[], attributes := #[] }
def k10m1 : Method := { name := "abs", desc := "(D)D", sig := { parameters := [.double], returnType := some .double }, accessFlags := 9, code := some k10c1 }
/-- java/lang/Math -/
def k10 : Class := { plain "java/lang/Math" (some 0) with
  accessFlags := 49
  interfaces := #[]
  cf := some (fileOf pool10 1 #[.nestMembers #[98]] #[{ accessFlags := 2, nameIndex := 7, descriptorIndex := 8, attributes := #[] }, { accessFlags := 9, nameIndex := 124, descriptorIndex := 14, attributes := #[] }] 49 4 #[] #[{ accessFlags := 25, nameIndex := 354, descriptorIndex := 339, attributes := #[] }, { accessFlags := 25, nameIndex := 358, descriptorIndex := 339, attributes := #[] }, { accessFlags := 25, nameIndex := 361, descriptorIndex := 339, attributes := #[] }, { accessFlags := 26, nameIndex := 364, descriptorIndex := 339, attributes := #[] }, { accessFlags := 26, nameIndex := 365, descriptorIndex := 339, attributes := #[] }, { accessFlags := 26, nameIndex := 172, descriptorIndex := 173, attributes := #[] }, { accessFlags := 26, nameIndex := 176, descriptorIndex := 173, attributes := #[] }, { accessFlags := 8, nameIndex := 344, descriptorIndex := 339, attributes := #[] }, { accessFlags := 8, nameIndex := 338, descriptorIndex := 339, attributes := #[] }, { accessFlags := 4120, nameIndex := 245, descriptorIndex := 246, attributes := #[] }])
  fields := #[{ name := "E", type := .double, accessFlags := 25, slot := 0, constantValue := 0 }, { name := "PI", type := .double, accessFlags := 25, slot := 1, constantValue := 0 }, { name := "TAU", type := .double, accessFlags := 25, slot := 2, constantValue := 0 }, { name := "DEGREES_TO_RADIANS", type := .double, accessFlags := 26, slot := 3, constantValue := 0 }, { name := "RADIANS_TO_DEGREES", type := .double, accessFlags := 26, slot := 4, constantValue := 0 }, { name := "negativeZeroFloatBits", type := .long, accessFlags := 26, slot := 5, constantValue := 0 }, { name := "negativeZeroDoubleBits", type := .long, accessFlags := 26, slot := 6, constantValue := 0 }, { name := "twoToTheDoubleScaleUp", type := .double, accessFlags := 8, slot := 7, constantValue := 0 }, { name := "twoToTheDoubleScaleDown", type := .double, accessFlags := 8, slot := 8, constantValue := 0 }, { name := "$assertionsDisabled", type := .boolean, accessFlags := 4120, slot := 9, constantValue := 0 }]
  methods := #[k10m0, k10m1]
  instanceTypes := #[]
  staticTypes := #[.double, .double, .double, .double, .double, .long, .long, .double, .double, .boolean]
  resolved := Array.replicate 460 none
  statics := none }

/-- the primitive byte -/
def k11 : Class := { plain "byte" none with kind := .primitive 'B', accessFlags := 0x411 }
/-- [B -/
def k12 : Class := { plain "[B" (some 0) with kind := .array 11 .byte, interfaces := #[3, 4], accessFlags := 1041 }

/-- the primitive double -/
def k13 : Class := { plain "double" none with kind := .primitive 'D', accessFlags := 0x411 }
/-- [D -/
def k14 : Class := { plain "[D" (some 0) with kind := .array 13 .double, interfaces := #[3, 4], accessFlags := 1041 }

/-- the primitive int -/
def k15 : Class := { plain "int" none with kind := .primitive 'I', accessFlags := 0x411 }
/-- [I -/
def k16 : Class := { plain "[I" (some 0) with kind := .array 15 .int, interfaces := #[3, 4], accessFlags := 1041 }

def heap : Heap := #[]
def classes : Array Class := #[k0, k1, k2, k3, k4, k5, k6, k7, k8, k9, k10, k11, k12, k13, k14, k15, k16]
def interned : List (Array UInt16 × Addr) := []
def slotsUsed : Nat := 0
def theMethod : MethodId := ⟨1, 2⟩
def args0 : Array Value := #[.int 5, .int 6, .int 6, .int 6, .int 6, .int 6]
def aboutOver (below : List Frame) : State where
  vm := { classes := classes, interned := interned.toArray }
  heap := heap
  slotsUsed := slotsUsed
  threads := #[{ frames := .invoking theMethod args0 :: below }]
def below0 : List Frame := [.native { method := ⟨0, 0⟩, args := #[] }]
def about1 : State := aboutOver below0
def p0 : Program := .bare "" "" ""
def e0 : Env := launch0.env 0 0 0
theorem w_frames : about1.frames = Frame.invoking theMethod args0 :: below0 := rfl
set_option maxRecDepth 65536 in
theorem w_args : argsFit about1.vm theMethod args0 = true := by decide +kernel
set_option maxRecDepth 65536 in
theorem w_heap : heapFits about1 = true := by decide +kernel
set_option maxRecDepth 65536 in
theorem w_runnable : about1.curStatus? = some .runnable := by decide +kernel
set_option maxRecDepth 65536 in
theorem w_alone : about1.alone = true := by decide +kernel
set_option maxRecDepth 65536 in
theorem w_named : about1.methodNamed? x = some theMethod := by decide +kernel
set_option maxRecDepth 65536 in
theorem w_hears : about1.hears theMethod below0 = true := by decide +kernel
set_option maxRecDepth 65536 in
theorem w_ripe : about1.ripe theMethod args0 below0 = true := by decide +kernel
theorem w_running : about1.status = .running := rfl
set_option maxRecDepth 65536 in
theorem w_room : about1.hasRoom e0.platform room_1 = true :=
  launch0.hasRoom_least _ room_1 (by decide +kernel) (by decide +kernel) (by decide +kernel) (by decide +kernel) (by decide +kernel) (by decide +kernel)
theorem allAtoms_all (ts : List Jvm.Cond) (a : Array Jvm.Value) (st : Jvm.State) : (allAtoms ts).before a st = ts.all (fun c => c.before a st) := by
  induction ts with
  | nil => rfl
  | cons c t ih =>
    show (Jvm.Cond.and c (allAtoms t)).before a st = _
    rw [Jvm.Cond.before_and, ih, List.all_cons]
def words1 : List Jvm.Cond := Jvm.Cond.code x code maxLocals ret :: tables_1
/-- a 'code' word, met by the world's own term for the bytes: nothing is compared byte by byte -/
theorem code_word {y : MethodName} {bytes : ByteArray} {mx : Nat} {rt : Option FieldType} {a : Array Value} {s : State} {m : MethodId} {meth : Method} {c : Code} (h1 : s.methodNamed? y = some m) (h2 : s.vm.method? m = some meth) (h3 : meth.code = some c) (h4 : c.code = bytes)
    (h5 : (c.maxLocals == mx && c.exceptionTable.isEmpty && decide (c.maxStack ≤ mostOperands) && decide (meth.sig.returnType = rt) && !meth.locks && decide (parseMethodDescriptor y.desc = some meth.sig)) = true) : (Jvm.Cond.code y bytes mx rt).before a s = true := by
  simp only [Bool.and_eq_true, beq_iff_eq, Bool.not_eq_true', decide_eq_true_eq] at h5
  obtain ⟨⟨⟨⟨⟨g1, g2⟩, g3⟩, g4⟩, g5⟩, g6⟩ := h5
  simp [Cond.before, Cond.holds, Cond.value, h1, h2, h3, h4, g1, g2, g3, g4, g5, g6]
def isCode : Jvm.Cond → Bool
  | .code _ _ _ _ => true
  | _ => false
theorem all_split {L : List Jvm.Cond} {P : Jvm.Cond → Bool} (h1 : L.all (fun c => isCode c || P c) = true) (h2 : ∀ c ∈ L.filter isCode, P c = true) : L.all P = true := by
  refine List.all_eq_true.mpr fun c hc => ?_
  have h := List.all_eq_true.mp h1 c hc
  rcases Bool.eq_false_or_eq_true (isCode c) with hi | hi
  · exact h2 c (List.mem_filter.mpr ⟨hc, hi⟩)
  · simpa [hi] using h
set_option maxRecDepth 65536 in
theorem w_c0 : (Jvm.Cond.code x code maxLocals ret).before args0 about1 = true := code_word (m := ⟨1, 2⟩) (meth := k1m2) (c := k1c2) (by decide +kernel) rfl rfl rfl (by decide +kernel)
set_option maxRecDepth 65536 in
theorem w_c1 : (Jvm.Cond.code ({ cls := "org/quarrel/model/DistributionMeanPinLaw", name := "weights", desc := "(IDDDD)[D" } : Jvm.MethodName) method_2_code (9 : Nat) (Option.some (Jvm.ClassFile.FieldType.array Jvm.ClassFile.FieldType.double))).before args0 about1 = true := code_word (m := ⟨1, 1⟩) (meth := k1m1) (c := k1c1) (by decide +kernel) rfl rfl rfl (by decide +kernel)
set_option maxRecDepth 65536 in
theorem w_c2 : (Jvm.Cond.code ({ cls := "org/quarrel/model/Distribution", name := "<init>", desc := "([DD)V" } : Jvm.MethodName) prog_15_method_2_code (9 : Nat) (Option.none : Option Jvm.ClassFile.FieldType)).before args0 about1 = true := code_word (m := ⟨2, 0⟩) (meth := k2m0) (c := k2c0) (by decide +kernel) rfl rfl rfl (by decide +kernel)
set_option maxRecDepth 65536 in
theorem w_c3 : (Jvm.Cond.code ({ cls := "java/lang/Object", name := "<init>", desc := "()V" } : Jvm.MethodName) object_method_1_code (1 : Nat) (Option.none : Option Jvm.ClassFile.FieldType)).before args0 about1 = true := code_word (m := ⟨0, 0⟩) (meth := k0m0) (c := k0c0) (by decide +kernel) rfl rfl rfl (by decide +kernel)
set_option maxRecDepth 65536 in
theorem w_c4 : (Jvm.Cond.code ({ cls := "org/quarrel/model/Distribution", name := "mean", desc := "()D" } : Jvm.MethodName) prog_15_method_11_code (4 : Nat) (Option.some Jvm.ClassFile.FieldType.double)).before args0 about1 = true := code_word (m := ⟨2, 2⟩) (meth := k2m2) (c := k2c2) (by decide +kernel) rfl rfl rfl (by decide +kernel)
set_option maxRecDepth 65536 in
theorem w_c5 : (Jvm.Cond.code ({ cls := "org/quarrel/model/Distribution", name := "requireProbability", desc := "(D)V" } : Jvm.MethodName) prog_15_method_6_code (2 : Nat) (Option.none : Option Jvm.ClassFile.FieldType)).before args0 about1 = true := code_word (m := ⟨2, 1⟩) (meth := k2m1) (c := k2c1) (by decide +kernel) rfl rfl rfl (by decide +kernel)
set_option maxRecDepth 65536 in
theorem w_c6 : (Jvm.Cond.code ({ cls := "java/lang/Double", name := "isFinite", desc := "(D)Z" } : Jvm.MethodName) jdk_117_method_8_code (2 : Nat) (Option.some Jvm.ClassFile.FieldType.boolean)).before args0 about1 = true := code_word (m := ⟨9, 0⟩) (meth := k9m0) (c := k9c0) (by decide +kernel) rfl rfl rfl (by decide +kernel)
set_option maxRecDepth 65536 in
theorem w_c7 : (Jvm.Cond.code ({ cls := "java/lang/Math", name := "abs", desc := "(D)D" } : Jvm.MethodName) jdk_29_method_64_code (2 : Nat) (Option.some Jvm.ClassFile.FieldType.double)).before args0 about1 = true := code_word (m := ⟨10, 1⟩) (meth := k10m1) (c := k10c1) (by decide +kernel) rfl rfl rfl (by decide +kernel)
def codes1 : List Jvm.Cond := [Jvm.Cond.code x code maxLocals ret, Jvm.Cond.code ({ cls := "org/quarrel/model/DistributionMeanPinLaw", name := "weights", desc := "(IDDDD)[D" } : Jvm.MethodName) method_2_code (9 : Nat) (Option.some (Jvm.ClassFile.FieldType.array Jvm.ClassFile.FieldType.double)), Jvm.Cond.code ({ cls := "org/quarrel/model/Distribution", name := "<init>", desc := "([DD)V" } : Jvm.MethodName) prog_15_method_2_code (9 : Nat) (Option.none : Option Jvm.ClassFile.FieldType), Jvm.Cond.code ({ cls := "java/lang/Object", name := "<init>", desc := "()V" } : Jvm.MethodName) object_method_1_code (1 : Nat) (Option.none : Option Jvm.ClassFile.FieldType), Jvm.Cond.code ({ cls := "org/quarrel/model/Distribution", name := "mean", desc := "()D" } : Jvm.MethodName) prog_15_method_11_code (4 : Nat) (Option.some Jvm.ClassFile.FieldType.double), Jvm.Cond.code ({ cls := "org/quarrel/model/Distribution", name := "requireProbability", desc := "(D)V" } : Jvm.MethodName) prog_15_method_6_code (2 : Nat) (Option.none : Option Jvm.ClassFile.FieldType), Jvm.Cond.code ({ cls := "java/lang/Double", name := "isFinite", desc := "(D)Z" } : Jvm.MethodName) jdk_117_method_8_code (2 : Nat) (Option.some Jvm.ClassFile.FieldType.boolean), Jvm.Cond.code ({ cls := "java/lang/Math", name := "abs", desc := "(D)D" } : Jvm.MethodName) jdk_29_method_64_code (2 : Nat) (Option.some Jvm.ClassFile.FieldType.double)]
set_option maxRecDepth 65536 in
theorem codes_eq : words1.filter isCode = codes1 := rfl
theorem w_codes : ∀ c ∈ words1.filter isCode, c.before args0 about1 = true := by
  rw [codes_eq]
  intro c hc
  simp only [codes1, List.mem_cons, List.not_mem_nil, or_false] at hc
  rcases hc with rfl | rfl | rfl | rfl | rfl | rfl | rfl | rfl
  · exact w_c0
  · exact w_c1
  · exact w_c2
  · exact w_c3
  · exact w_c4
  · exact w_c5
  · exact w_c6
  · exact w_c7
set_option maxRecDepth 65536 in
theorem w_t1 : (words1.take 24).all (fun c => isCode c || c.before args0 about1) = true := by decide +kernel
set_option maxRecDepth 65536 in
theorem w_t2 : (words1.drop 24).all (fun c => isCode c || c.before args0 about1) = true := by decide +kernel
theorem w_tables : (allAtoms (Jvm.Cond.code x code maxLocals ret :: tables_1)).before args0 about1 = true := by
  rw [allAtoms_all]
  show words1.all (fun c => c.before args0 about1) = true
  refine all_split ?_ w_codes
  rw [← List.take_append_drop 24 words1, List.all_append, w_t1, w_t2]
  rfl
set_option maxRecDepth 65536 in
theorem w_case : (Jvm.Cond.and given_1 narrow_1).before args0 about1 = true := by decide +kernel
theorem w_applies : (headSpec (Jvm.Cond.code x code maxLocals ret :: tables_1) room_1).applies x e0.platform about1 = true :=
  (Spec.applies_iff w_frames).mpr ⟨w_running, w_runnable, w_alone, w_named, w_hears, w_ripe, w_room, w_tables⟩
theorem atStart : AtStart classFile x code maxLocals ret World_1 tables_1 room_1 Calls_1 rest_1 Pre_1 launch0 p0 e0 about1 theMethod args0 below0 :=
  ⟨lists_1, trivial, launch0.admits_env _ _ _, launch0.least_env, fairChoices_fair.cas, fairChoices_fair.clock, w_frames, w_args, w_heap, w_applies, trivial, trivial, w_case⟩
end start1
theorem witness_1 : WitnessClaimed_1 := ⟨start1.p0, start1.e0, start1.about1, start1.theMethod, start1.args0, start1.below0, start1.atStart⟩
end Jvm.Pilot.@@N@@
