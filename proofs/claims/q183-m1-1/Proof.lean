import JvmDerived
import JvmDerived.Pilot.@@N@@Statement
import JvmDerived.Pilot.@@N@@Code
set_option linter.unusedVariables false
set_option linter.unusedSimpArgs false
namespace Jvm.RoadKit
open Sem ClassFile Op Lib Jvm.Stand Jvm.Free Jvm.LawKit
section New
variable {p : Program} {l : Launch} {e : Env} {R : Room} {s : State} {m : MethodId} {args : Array Value} {below : List Frame} {meth : Method} {c : Code} {T : State} {locs : List Loc} {cells slots : Nat}
theorem retI (X : Stand p l e R s m args below meth c T locs cells slots) (hx : p.tables.exec = Jvm.exec) {pc : Nat} {Ls : Array Slot} {z : Int32} {rest : List Value} (hret : meth.sig.returnType = some .int) (hd : decode c.code pc = .ok (.ireturn, 1)) {fs : List Frame}
    (hl : ∀ (f : JFrame) (acts : List Action), f.method = m → f.locked = none → f.entered = [] → (doReturn e (T.setTop f) acts (some (.int z))).1 = T.setFrames fs) : Steps p.tables e below (T.setTop (mkF m pc Ls (.int z :: rest))) (T.setFrames fs) := by
  have hm' : T.vm.method? m = some meth := X.method'
  have hn : narrow .int (.int z) = .int z := rfl
  show Steps p.tables e below (T.setTop { method := m, pc := pc, locals := Ls, stack := _ :: rest, locked := none }) _
  jvm_step X.here [X.here.top, hx, hd, hm', hret, hn]
  first | (intro acts; rw [hl _ acts rfl rfl rfl]) | rw [hl _ _ rfl rfl rfl]
  exact Steps.refl _
end New
end Jvm.RoadKit
namespace Jvm.Pilot.@@N@@
open Jvm Jvm.ClassFile Sem Op Lib Jvm.Free Jvm.Stand Jvm.LawKit Jvm.RoadKit Bundle Jvm.Pilot.@@N@@.Jvm.D
abbrev SS (p : Program) (e : Env) (below : List Frame) (T : State) (g : JFrame) (t : State) : Prop := Steps p.tables e below (T.setTop g) t
abbrev vi (x : Int32) : Slot := .val (.int x)
abbrev vl (x : Int64) : Slot := .val (.long x)
abbrev vr (x : Addr) : Slot := .val (.ref x)
abbrev vd (x : UInt64) : Slot := .val (.double x)
abbrev uu : Slot := .unset
abbrev us : Slot := .second
theorem wd {a0 : Array Value} {Z : State} (hw : ∀ d ∈ tables_1, d.before a0 Z = true) (i : Nat) {d : Jvm.Cond} (h : tables_1[i]? = some d) : d.before a0 Z = true := hw _ (List.mem_of_getElem? h)
theorem own_hk {T : State} {h : Heap} {k : Nat} (e : T.heap = h) (q : k ≤ h.size) : k ≤ T.heap.size := e ▸ q
theorem own_szW {h h' : Heap} {a : Addr} {sl : Nat} {v : Value} {k : Nat} (W : Wr h h' a sl v) (q : k ≤ h.size) : k ≤ h'.size := by rw [W.size]; exact q
theorem own_at {T : State} {h : Heap} {a : Addr} {c : Cell} (e : T.heap = h) (q : h[a]? = some c) : T.heap[a]? = some c := e ▸ q
theorem own_len {a b z : Int32} (u0 : 0 ≤ a.toInt) (u1 : a.toInt ≤ b.toInt) (u2 : b.toInt ≤ z.toInt) (u3 : z.toInt ≤ 8) : ¬ a < 0 ∧ ¬ (b - a) < 0 ∧ (b - a).toNatClampNeg ≤ 8 ∧ a.toNatClampNeg + (b - a).toNatClampNeg ≤ z.toNatClampNeg ∧ (if (b - a) < (z - a) then (b - a) else (z - a)) = b - a ∧ ¬ b < a := by
  have e0 : ((0 : Int32)).toInt = 0 := by decide
  have h1 := c_isub b a
  have h1r := rng32 (b - a)
  have h2 := c_isub z a
  have h2r := rng32 (z - a)
  have ra := rng32 a
  have rz := rng32 z
  have d1 : (b - a).toInt = b.toInt - a.toInt := by omega
  have d2 : (z - a).toInt = z.toInt - a.toInt := by omega
  have na : ¬ a < 0 := by rw [Int32.lt_iff_toInt_lt]; omega
  have nz : ¬ z < 0 := by rw [Int32.lt_iff_toInt_lt]; omega
  have nd : ¬ (b - a) < 0 := by rw [Int32.lt_iff_toInt_lt]; omega
  have ta := nat_of na
  have tz := nat_of nz
  have td := nat_of nd
  refine ⟨na, nd, by omega, by omega, ?_, by rw [Int32.lt_iff_toInt_lt]; omega⟩
  by_cases h : (b - a) < (z - a)
  · rw [if_pos h]
  · rw [if_neg h]
    rw [Int32.lt_iff_toInt_lt] at h
    apply Int32.toInt_inj.mp
    omega
theorem own_cap {a b z : Int32} (u0 : 0 ≤ a.toInt) (u1 : a.toInt ≤ b.toInt) (u2 : b.toInt ≤ z.toInt) (u3 : z.toInt ≤ 8) : z.toNatClampNeg ≤ 8 := by
  have e0 : ((0 : Int32)).toInt = 0 := by decide
  have nz : ¬ z < 0 := by rw [Int32.lt_iff_toInt_lt]; omega
  have tz := nat_of nz
  omega
theorem own_rb {ps p1 zb : Int32} (u0 : 0 ≤ ps.toInt) (u1 : 0 ≤ p1.toInt) (u2 : ps.toInt + p1.toInt ≤ zb.toInt) (u3 : zb.toInt ≤ 8) : ¬ ((0 : Int32) < (lcmpW p1.toInt64 ((zb - ps).toInt64))) ∧ ps.toInt ≤ (ps + p1).toInt ∧ (ps + p1).toInt ≤ zb.toInt := by
  have h1 := c_isub zb ps
  have h1r := rng32 (zb - ps)
  have h2 := c_iadd ps p1
  have h2r := rng32 (ps + p1)
  have d1 : (zb - ps).toInt = zb.toInt - ps.toInt := by omega
  refine ⟨?_, by omega, by omega⟩
  rw [lw_gt, Int64.lt_iff_toInt_lt, c_i2l, c_i2l]
  omega
theorem own_n {n : Int32} (h0 : 0 ≤ n.toInt) (h7 : n.toInt ≤ 7) : ¬ n < 0 ∧ n.toNatClampNeg ≤ 8 := by
  have e0 : ((0 : Int32)).toInt = 0 := by decide
  have nz : ¬ n < 0 := by rw [Int32.lt_iff_toInt_lt]; omega
  have tz := nat_of nz
  exact ⟨nz, by omega⟩
theorem own_cmp0 (n : Int32) : (if (0 : Int32) = n then (1 : Int32) else (0 : Int32)) = (if n = (0 : Int32) then (1 : Int32) else (0 : Int32)) := by
  by_cases h : n = (0 : Int32)
  · rw [if_pos h, if_pos h.symm]
  · rw [if_neg h, if_neg (fun q => h q.symm)]
theorem own_k {k n : Int32} (h : k.toInt ≤ n.toInt) : ((0 : Int32)).toInt + k.toInt ≤ n.toInt := by
  have e0 : ((0 : Int32)).toInt = 0 := by decide
  omega
theorem own_8 {n : Int32} (h : n.toInt ≤ 7) : n.toInt ≤ 8 := by omega
theorem own_if (k n : Int32) (h : k < n) : (if (0 : Int32) + k = n then (1 : Int32) else (0 : Int32)) = (0 : Int32) := by
  rw [Int32.zero_add, if_neg]
  intro q
  rw [q] at h
  exact Int32.lt_irrefl h
theorem own_in (k n : Int32) (h0 : 0 ≤ k.toInt) (h : k < n) : ¬ ((0 : Int32) + k) < 0 ∧ ((0 : Int32) + k) < n := by
  rw [Int32.zero_add]
  have e0 : ((0 : Int32)).toInt = 0 := by decide
  exact ⟨by rw [Int32.lt_iff_toInt_lt]; omega, h⟩
theorem own_nil (i : Nat) (d : Value) : ([] : List Value).getD i d = d := rfl
theorem own_and7 (x : Int32) : 0 ≤ (x &&& (7 : Int32)).toInt ∧ (x &&& (7 : Int32)).toInt ≤ 7 := by
  have h := c_mask x (7 : Int32) 3 (by decide) (by decide)
  omega
theorem own_start {n : Int32} (x : Int32) (h0 : 0 ≤ n.toInt) (h7 : n.toInt ≤ 7) : (n + (1 : Int32)) ≠ 0 ∧ 0 ≤ ((x &&& (2147483647 : Int32)) % (n + (1 : Int32))).toInt ∧ ((x &&& (2147483647 : Int32)) % (n + (1 : Int32))).toInt ≤ n.toInt := by
  have e1 : ((1 : Int32)).toInt = 1 := by decide
  have h1 := c_iadd n (1 : Int32)
  have h1r := rng32 (n + (1 : Int32))
  have h2 := (c_andS x (2147483647 : Int32)).2.2 (by decide)
  have q := (c_iremV (x &&& (2147483647 : Int32)) (n + (1 : Int32))).1 h2 (by omega)
  refine ⟨fun e => ?_, by omega, by omega⟩
  have e0 : ((0 : Int32)).toInt = 0 := by decide
  rw [e] at h1
  omega
theorem own_max (x : Int32) : ¬ ((if (1 : Int32) < x then x else (1 : Int32)) < (1 : Int32)) := by
  have e1 : ((1 : Int32)).toInt = 1 := by decide
  by_cases h : (1 : Int32) < x
  · rw [if_pos h]; rw [Int32.lt_iff_toInt_lt] at h ⊢; omega
  · rw [if_neg h]; exact Int32.lt_irrefl
theorem ef_0 (m : MethodId) (x0 : Int32) (x1 : Int32) : entryFrame m #[(.int x0), (.int x1)] 2 = mkF m 0 #[vi x0, vi x1] [] := by first | (simp [entryFrame, mkF, argsToLocals, Value.category]; done) | rfl
theorem d1_0 : decode jdk_29_method_65_code 0 = .ok (.iload_n 0, 1) := by decide +kernel
theorem d1_1 : decode jdk_29_method_65_code 1 = .ok (.iload_n 1, 1) := by decide +kernel
theorem d1_2 : decode jdk_29_method_65_code 2 = .ok (.if_icmp .lt 7, 3) := by decide +kernel
theorem d1_9 : decode jdk_29_method_65_code 9 = .ok (.iload_n 1, 1) := by decide +kernel
theorem d1_10 : decode jdk_29_method_65_code 10 = .ok (.ireturn, 1) := by decide +kernel
theorem d1_5 : decode jdk_29_method_65_code 5 = .ok (.iload_n 0, 1) := by decide +kernel
theorem d1_6 : decode jdk_29_method_65_code 6 = .ok (.goto 4, 3) := by decide +kernel
def Q_rmMax (Z : State) (p0 : Int32) (p1 : Int32) (h0 : Heap) (n0 : Nat) (v : Option Value) (h : Heap) (L : List Loc) : Prop := (v = some (.int (if p0 < p1 then p1 else p0)) ∧ Fr n0 L ∧ h = h0)
set_option maxRecDepth 65536 in
set_option maxHeartbeats 40000000 in
theorem rmMax (l : Launch) (Z : State) (a0 : Array Value) (hw : ∀ d ∈ tables_1, d.before a0 Z = true) (ws : List Jvm.Cond) (p0 : Int32) (p1 : Int32) (h0 : Heap) (n0 : Nat) (Z0 : n0 ≤ h0.size) :
    MetFree l (⟨"java/lang/Math", "max", "(II)I"⟩ : MethodName) (head1 (Jvm.Cond.code (⟨"java/lang/Math", "max", "(II)I"⟩ : MethodName) jdk_29_method_65_code 2 (some .int) :: ws) ({ frames := 0, cells := 0, slots := 0, locals := 0 } : Room)) (fun a U => a = #[(.int p0), (.int p1)] ∧ Z.Warmed39 U.vm ∧ U.heap = h0) (fun _ _ _ _ _ => True) (fun _ U o U' => ∃ v L, o = .returned v ∧ Q_rmMax Z p0 p1 h0 n0 v U'.heap L ∧ FrameEnd U o U' L ({ frames := 0, cells := 0, slots := 0, locals := 0 } : Room).cells ({ frames := 0, cells := 0, slots := 0, locals := 0 } : Room).slots) := by
  refine MetFree.of_bodySF (Jvm.Free.JP.mathPlain rfl (by decide +kernel)) hisR ?_
  intro p e s m args below meth c s₁ Bd hml0 hP hK
  obtain ⟨rfl, hZ, hh⟩ := hP
  have hx := Bd.exec
  have hby := Bd.bytes
  have hml : c.maxLocals = 2 := hml0
  have hown : s.vm.findClass "java/lang/Math" = some m.cls := findClass_of_methodNamed Bd.named
  have hnm := (name_of_methodNamed Bd.named Bd.method).1
  have X0 : Stand p l e ({ frames := 0, cells := 0, slots := 0, locals := 0 } : Room) s m #[(.int p0), (.int p1)] below meth c s₁ [] 0 0 := Stand.of_body Bd
  have e0 : s₁.heap = h0 := by rw [← hh, Bd.state]; rfl
  have N0 := Fr.nil n0
  have pre0 : ∀ t, Steps p.tables e below (s₁.setTop (mkF m 0 #[vi p0, vi p1] [])) t → Steps p.tables e below (s₁.setTop (entryFrame m #[(.int p0), (.int p1)] 2)) t := fun t k => castTop (ef_0 m p0 p1) k
  by_cases hc2 : p0 < p1
  · obtain ⟨fs, hr, hrun, hended, hW, hsame⟩ := X0.leave (v := some (.int p1)) (fun h => by rw [Bd.returns] at h; cases h)
    refine ⟨_, _, pre0 _ ?_, hrun, hended, _, _, rfl, ?_, ⟨_, rfl⟩, hW, hsame.mono (by decide) (by decide)⟩
    · show SS p e below s₁ (mkF m 0 #[vi p0, vi p1] []) _
      refine XS.iloadN X0.here hx rfl (hb hby d1_0) rfl ?_
      show SS p e below s₁ (mkF m 1 #[vi p0, vi p1] [(.int p0)]) _
      refine XS.iloadN X0.here hx rfl (hb hby d1_1) rfl ?_
      show SS p e below s₁ (mkF m 2 #[vi p0, vi p1] [(.int p1), (.int p0)]) _
      refine XS.icmpYes X0.here hx rfl (pc0 := 2) (pc' := 9) rfl (hb hby d1_2) rfl (tlt (hc2 : p0 < p1)).1 (by decide) (by decide) ?_
      show SS p e below s₁ (mkF m 9 #[vi p0, vi p1] []) _
      refine XS.iloadN X0.here hx rfl (hb hby d1_9) rfl ?_
      show SS p e below s₁ (mkF m 10 #[vi p0, vi p1] [(.int p1)]) _
      exact retI X0 hx Bd.returns (hb hby d1_10) hr
    · show Q_rmMax Z p0 p1 h0 n0 _ s₁.heap _
      rw [e0]
      exact ⟨(by rw [if_pos hc2]), N0, rfl⟩
  · obtain ⟨fs, hr, hrun, hended, hW, hsame⟩ := X0.leave (v := some (.int p0)) (fun h => by rw [Bd.returns] at h; cases h)
    refine ⟨_, _, pre0 _ ?_, hrun, hended, _, _, rfl, ?_, ⟨_, rfl⟩, hW, hsame.mono (by decide) (by decide)⟩
    · show SS p e below s₁ (mkF m 0 #[vi p0, vi p1] []) _
      refine XS.iloadN X0.here hx rfl (hb hby d1_0) rfl ?_
      show SS p e below s₁ (mkF m 1 #[vi p0, vi p1] [(.int p0)]) _
      refine XS.iloadN X0.here hx rfl (hb hby d1_1) rfl ?_
      show SS p e below s₁ (mkF m 2 #[vi p0, vi p1] [(.int p1), (.int p0)]) _
      refine XS.icmpNo X0.here hx rfl (hb hby d1_2) rfl (flt (hc2 : ¬ (p0 < p1))).1 ?_
      show SS p e below s₁ (mkF m 5 #[vi p0, vi p1] []) _
      refine XS.iloadN X0.here hx rfl (hb hby d1_5) rfl ?_
      show SS p e below s₁ (mkF m 6 #[vi p0, vi p1] [(.int p0)]) _
      refine XS.goto X0.here hx rfl (pc0 := 6) (pc' := 10) rfl (hb hby d1_6) (by decide) (by decide) ?_
      show SS p e below s₁ (mkF m 10 #[vi p0, vi p1] [(.int p0)]) _
      exact retI X0 hx Bd.returns (hb hby d1_10) hr
    · show Q_rmMax Z p0 p1 h0 n0 _ s₁.heap _
      rw [e0]
      exact ⟨(by rw [if_neg hc2]), N0, rfl⟩
theorem ef_1 (m : MethodId) (x0 : Int32) (x1 : Int32) : entryFrame m #[(.int x0), (.int x1)] 2 = mkF m 0 #[vi x0, vi x1] [] := by first | (simp [entryFrame, mkF, argsToLocals, Value.category]; done) | rfl
theorem d12_0 : decode jdk_29_method_69_code 0 = .ok (.iload_n 0, 1) := by decide +kernel
theorem d12_1 : decode jdk_29_method_69_code 1 = .ok (.iload_n 1, 1) := by decide +kernel
theorem d12_2 : decode jdk_29_method_69_code 2 = .ok (.if_icmp .gt 7, 3) := by decide +kernel
theorem d12_9 : decode jdk_29_method_69_code 9 = .ok (.iload_n 1, 1) := by decide +kernel
theorem d12_10 : decode jdk_29_method_69_code 10 = .ok (.ireturn, 1) := by decide +kernel
theorem d12_5 : decode jdk_29_method_69_code 5 = .ok (.iload_n 0, 1) := by decide +kernel
theorem d12_6 : decode jdk_29_method_69_code 6 = .ok (.goto 4, 3) := by decide +kernel
def Q_rmMin (Z : State) (p0 : Int32) (p1 : Int32) (h0 : Heap) (n0 : Nat) (v : Option Value) (h : Heap) (L : List Loc) : Prop := (v = some (.int (if p1 < p0 then p1 else p0)) ∧ Fr n0 L ∧ h = h0)
set_option maxRecDepth 65536 in
set_option maxHeartbeats 40000000 in
theorem rmMin (l : Launch) (Z : State) (a0 : Array Value) (hw : ∀ d ∈ tables_1, d.before a0 Z = true) (ws : List Jvm.Cond) (p0 : Int32) (p1 : Int32) (h0 : Heap) (n0 : Nat) (Z0 : n0 ≤ h0.size) :
    MetFree l (⟨"java/lang/Math", "min", "(II)I"⟩ : MethodName) (head1 (Jvm.Cond.code (⟨"java/lang/Math", "min", "(II)I"⟩ : MethodName) jdk_29_method_69_code 2 (some .int) :: ws) ({ frames := 0, cells := 0, slots := 0, locals := 0 } : Room)) (fun a U => a = #[(.int p0), (.int p1)] ∧ Z.Warmed39 U.vm ∧ U.heap = h0) (fun _ _ _ _ _ => True) (fun _ U o U' => ∃ v L, o = .returned v ∧ Q_rmMin Z p0 p1 h0 n0 v U'.heap L ∧ FrameEnd U o U' L ({ frames := 0, cells := 0, slots := 0, locals := 0 } : Room).cells ({ frames := 0, cells := 0, slots := 0, locals := 0 } : Room).slots) := by
  refine MetFree.of_bodySF (Jvm.Free.JP.mathPlain rfl (by decide +kernel)) hisR ?_
  intro p e s m args below meth c s₁ Bd hml0 hP hK
  obtain ⟨rfl, hZ, hh⟩ := hP
  have hx := Bd.exec
  have hby := Bd.bytes
  have hml : c.maxLocals = 2 := hml0
  have hown : s.vm.findClass "java/lang/Math" = some m.cls := findClass_of_methodNamed Bd.named
  have hnm := (name_of_methodNamed Bd.named Bd.method).1
  have X0 : Stand p l e ({ frames := 0, cells := 0, slots := 0, locals := 0 } : Room) s m #[(.int p0), (.int p1)] below meth c s₁ [] 0 0 := Stand.of_body Bd
  have e0 : s₁.heap = h0 := by rw [← hh, Bd.state]; rfl
  have N0 := Fr.nil n0
  have pre0 : ∀ t, Steps p.tables e below (s₁.setTop (mkF m 0 #[vi p0, vi p1] [])) t → Steps p.tables e below (s₁.setTop (entryFrame m #[(.int p0), (.int p1)] 2)) t := fun t k => castTop (ef_1 m p0 p1) k
  by_cases hc2 : p1 < p0
  · obtain ⟨fs, hr, hrun, hended, hW, hsame⟩ := X0.leave (v := some (.int p1)) (fun h => by rw [Bd.returns] at h; cases h)
    refine ⟨_, _, pre0 _ ?_, hrun, hended, _, _, rfl, ?_, ⟨_, rfl⟩, hW, hsame.mono (by decide) (by decide)⟩
    · show SS p e below s₁ (mkF m 0 #[vi p0, vi p1] []) _
      refine XS.iloadN X0.here hx rfl (hb hby d12_0) rfl ?_
      show SS p e below s₁ (mkF m 1 #[vi p0, vi p1] [(.int p0)]) _
      refine XS.iloadN X0.here hx rfl (hb hby d12_1) rfl ?_
      show SS p e below s₁ (mkF m 2 #[vi p0, vi p1] [(.int p1), (.int p0)]) _
      refine XS.icmpYes X0.here hx rfl (pc0 := 2) (pc' := 9) rfl (hb hby d12_2) rfl (tlt (hc2 : p1 < p0)).2.2.1 (by decide) (by decide) ?_
      show SS p e below s₁ (mkF m 9 #[vi p0, vi p1] []) _
      refine XS.iloadN X0.here hx rfl (hb hby d12_9) rfl ?_
      show SS p e below s₁ (mkF m 10 #[vi p0, vi p1] [(.int p1)]) _
      exact retI X0 hx Bd.returns (hb hby d12_10) hr
    · show Q_rmMin Z p0 p1 h0 n0 _ s₁.heap _
      rw [e0]
      exact ⟨(by rw [if_pos hc2]), N0, rfl⟩
  · obtain ⟨fs, hr, hrun, hended, hW, hsame⟩ := X0.leave (v := some (.int p0)) (fun h => by rw [Bd.returns] at h; cases h)
    refine ⟨_, _, pre0 _ ?_, hrun, hended, _, _, rfl, ?_, ⟨_, rfl⟩, hW, hsame.mono (by decide) (by decide)⟩
    · show SS p e below s₁ (mkF m 0 #[vi p0, vi p1] []) _
      refine XS.iloadN X0.here hx rfl (hb hby d12_0) rfl ?_
      show SS p e below s₁ (mkF m 1 #[vi p0, vi p1] [(.int p0)]) _
      refine XS.iloadN X0.here hx rfl (hb hby d12_1) rfl ?_
      show SS p e below s₁ (mkF m 2 #[vi p0, vi p1] [(.int p1), (.int p0)]) _
      refine XS.icmpNo X0.here hx rfl (hb hby d12_2) rfl (flt (hc2 : ¬ (p1 < p0))).2.2.1 ?_
      show SS p e below s₁ (mkF m 5 #[vi p0, vi p1] []) _
      refine XS.iloadN X0.here hx rfl (hb hby d12_5) rfl ?_
      show SS p e below s₁ (mkF m 6 #[vi p0, vi p1] [(.int p0)]) _
      refine XS.goto X0.here hx rfl (pc0 := 6) (pc' := 10) rfl (hb hby d12_6) (by decide) (by decide) ?_
      show SS p e below s₁ (mkF m 10 #[vi p0, vi p1] [(.int p0)]) _
      exact retI X0 hx Bd.returns (hb hby d12_10) hr
    · show Q_rmMin Z p0 p1 h0 n0 _ s₁.heap _
      rw [e0]
      exact ⟨(by rw [if_neg hc2]), N0, rfl⟩
theorem ef_2 (m : MethodId) (x0 : Addr) (x1 : Addr) : entryFrame m #[(.ref x0), (.ref x1)] 2 = mkF m 0 #[vr x0, vr x1] [] := by first | (simp [entryFrame, mkF, argsToLocals, Value.category]; done) | rfl
theorem pn_0 : plainName "java/util/Objects" = true := by first | (simp [plainName, overriddenIn]; done) | decide +kernel
theorem d4_0 : decode jdk_31_method_11_code 0 = .ok (.aload_n 0, 1) := by decide +kernel
theorem d4_1 : decode jdk_31_method_11_code 1 = .ok (.ifnonnull 12, 3) := by decide +kernel
theorem d4_13 : decode jdk_31_method_11_code 13 = .ok (.aload_n 0, 1) := by decide +kernel
theorem d4_14 : decode jdk_31_method_11_code 14 = .ok (.areturn, 1) := by decide +kernel
def Q_rmR (Z : State) (r0 : Addr) (r1 : Addr) (h0 : Heap) (n0 : Nat) (v : Option Value) (h : Heap) (L : List Loc) : Prop := (v = some (.ref r0) ∧ Fr n0 L ∧ h = h0)
set_option maxRecDepth 65536 in
set_option maxHeartbeats 40000000 in
theorem rmR (l : Launch) (Z : State) (a0 : Array Value) (hw : ∀ d ∈ tables_1, d.before a0 Z = true) (ws : List Jvm.Cond) (r0 : Addr) (r1 : Addr) (h0 : Heap) (n0 : Nat) (Z0 : n0 ≤ h0.size) :
    MetFree l (⟨"java/util/Objects", "requireNonNull", "(Ljava/lang/Object;Ljava/lang/String;)Ljava/lang/Object;"⟩ : MethodName) (head1 (Jvm.Cond.code (⟨"java/util/Objects", "requireNonNull", "(Ljava/lang/Object;Ljava/lang/String;)Ljava/lang/Object;"⟩ : MethodName) jdk_31_method_11_code 2 (some (.object "java/lang/Object")) :: ws) ({ frames := 0, cells := 0, slots := 0, locals := 0 } : Room)) (fun a U => a = #[(.ref r0), (.ref r1)] ∧ Z.Warmed39 U.vm ∧ U.heap = h0) (fun _ _ _ _ _ => True) (fun _ U o U' => ∃ v L, o = .returned v ∧ Q_rmR Z r0 r1 h0 n0 v U'.heap L ∧ FrameEnd U o U' L ({ frames := 0, cells := 0, slots := 0, locals := 0 } : Room).cells ({ frames := 0, cells := 0, slots := 0, locals := 0 } : Room).slots) := by
  refine MetFree.of_bodySF (plainFor_of_name pn_0) hisR ?_
  intro p e s m args below meth c s₁ Bd hml0 hP hK
  obtain ⟨rfl, hZ, hh⟩ := hP
  have hx := Bd.exec
  have hby := Bd.bytes
  have hml : c.maxLocals = 2 := hml0
  have hown : s.vm.findClass "java/util/Objects" = some m.cls := findClass_of_methodNamed Bd.named
  have hnm := (name_of_methodNamed Bd.named Bd.method).1
  have X0 : Stand p l e ({ frames := 0, cells := 0, slots := 0, locals := 0 } : Room) s m #[(.ref r0), (.ref r1)] below meth c s₁ [] 0 0 := Stand.of_body Bd
  have e0 : s₁.heap = h0 := by rw [← hh, Bd.state]; rfl
  have N0 := Fr.nil n0
  have pre0 : ∀ t, Steps p.tables e below (s₁.setTop (mkF m 0 #[vr r0, vr r1] [])) t → Steps p.tables e below (s₁.setTop (entryFrame m #[(.ref r0), (.ref r1)] 2)) t := fun t k => castTop (ef_2 m r0 r1) k
  obtain ⟨fs, hr, hrun, hended, hW, hsame⟩ := X0.leave (v := some (.ref r0)) (fun h => by rw [Bd.returns] at h; cases h)
  refine ⟨_, _, pre0 _ ?_, hrun, hended, _, _, rfl, ?_, ⟨_, rfl⟩, hW, hsame.mono (by decide) (by decide)⟩
  · show SS p e below s₁ (mkF m 0 #[vr r0, vr r1] []) _
    refine XS.aloadN X0.here hx rfl (hb hby d4_0) rfl rfl ?_
    show SS p e below s₁ (mkF m 1 #[vr r0, vr r1] [(.ref r0)]) _
    refine XS.ifnonnullYes X0.here hx rfl (pc0 := 1) (pc' := 13) rfl (hb hby d4_1) rfl (by decide) (by decide) ?_
    show SS p e below s₁ (mkF m 13 #[vr r0, vr r1] []) _
    refine XS.aloadN X0.here hx rfl (hb hby d4_13) rfl rfl ?_
    show SS p e below s₁ (mkF m 14 #[vr r0, vr r1] [(.ref r0)]) _
    exact retOut X0 hx Bd.returns rfl (Or.inr (Or.inr (Or.inr (Or.inr ⟨rfl, rfl, rfl⟩)))) (hb hby d4_14) hr
  · show Q_rmR Z r0 r1 h0 n0 _ s₁.heap _
    rw [e0]
    exact ⟨rfl, N0, rfl⟩
theorem ef_3 (m : MethodId) (x0 : Int32) : entryFrame m #[(.int x0)] 1 = mkF m 0 #[vi x0] [] := by first | (simp [entryFrame, mkF, argsToLocals, Value.category]; done) | rfl
theorem pn_1 : plainName "com/example/wireform/wireform/mapping/Conversions" = true := by first | (simp [plainName, overriddenIn]; done) | decide +kernel
theorem d5_0 : decode prog_36_method_5_code 0 = .ok (.iload_n 0, 1) := by decide +kernel
theorem d5_1 : decode prog_36_method_5_code 1 = .ok (.iconst 1, 1) := by decide +kernel
theorem d5_2 : decode prog_36_method_5_code 2 = .ok (.if_icmp .ge 17, 3) := by decide +kernel
theorem d5_19 : decode prog_36_method_5_code 19 = .ok (.iload_n 0, 1) := by decide +kernel
theorem d5_20 : decode prog_36_method_5_code 20 = .ok (.ireturn, 1) := by decide +kernel
def Q_rmD (Z : State) (p0 : Int32) (h0 : Heap) (n0 : Nat) (v : Option Value) (h : Heap) (L : List Loc) : Prop := (v = some (.int p0) ∧ Fr n0 L ∧ h = h0)
set_option maxRecDepth 65536 in
set_option maxHeartbeats 40000000 in
theorem rmD (l : Launch) (Z : State) (a0 : Array Value) (hw : ∀ d ∈ tables_1, d.before a0 Z = true) (ws : List Jvm.Cond) (p0 : Int32) (h0 : Heap) (n0 : Nat) (Z0 : n0 ≤ h0.size) (u1 : ¬ (p0 < (1 : Int32))) :
    MetFree l (⟨"com/example/wireform/wireform/mapping/Conversions", "requireDepthLimit", "(I)I"⟩ : MethodName) (head1 (Jvm.Cond.code (⟨"com/example/wireform/wireform/mapping/Conversions", "requireDepthLimit", "(I)I"⟩ : MethodName) prog_36_method_5_code 1 (some .int) :: ws) ({ frames := 0, cells := 0, slots := 0, locals := 0 } : Room)) (fun a U => a = #[(.int p0)] ∧ Z.Warmed39 U.vm ∧ U.heap = h0) (fun _ _ _ _ _ => True) (fun _ U o U' => ∃ v L, o = .returned v ∧ Q_rmD Z p0 h0 n0 v U'.heap L ∧ FrameEnd U o U' L ({ frames := 0, cells := 0, slots := 0, locals := 0 } : Room).cells ({ frames := 0, cells := 0, slots := 0, locals := 0 } : Room).slots) := by
  refine MetFree.of_bodySF (plainFor_of_name pn_1) hisR ?_
  intro p e s m args below meth c s₁ Bd hml0 hP hK
  obtain ⟨rfl, hZ, hh⟩ := hP
  have hx := Bd.exec
  have hby := Bd.bytes
  have hml : c.maxLocals = 1 := hml0
  have hown : s.vm.findClass "com/example/wireform/wireform/mapping/Conversions" = some m.cls := findClass_of_methodNamed Bd.named
  have hnm := (name_of_methodNamed Bd.named Bd.method).1
  have X0 : Stand p l e ({ frames := 0, cells := 0, slots := 0, locals := 0 } : Room) s m #[(.int p0)] below meth c s₁ [] 0 0 := Stand.of_body Bd
  have e0 : s₁.heap = h0 := by rw [← hh, Bd.state]; rfl
  have N0 := Fr.nil n0
  have pre0 : ∀ t, Steps p.tables e below (s₁.setTop (mkF m 0 #[vi p0] [])) t → Steps p.tables e below (s₁.setTop (entryFrame m #[(.int p0)] 1)) t := fun t k => castTop (ef_3 m p0) k
  obtain ⟨fs, hr, hrun, hended, hW, hsame⟩ := X0.leave (v := some (.int p0)) (fun h => by rw [Bd.returns] at h; cases h)
  refine ⟨_, _, pre0 _ ?_, hrun, hended, _, _, rfl, ?_, ⟨_, rfl⟩, hW, hsame.mono (by decide) (by decide)⟩
  · show SS p e below s₁ (mkF m 0 #[vi p0] []) _
    refine XS.iloadN X0.here hx rfl (hb hby d5_0) rfl ?_
    show SS p e below s₁ (mkF m 1 #[vi p0] [(.int p0)]) _
    refine XS.iconst X0.here hx rfl (hb hby d5_1) ?_
    show SS p e below s₁ (mkF m 2 #[vi p0] [(.int (1 : Int32)), (.int p0)]) _
    refine XS.icmpYes X0.here hx rfl (pc0 := 2) (pc' := 19) rfl (hb hby d5_2) rfl (flt (u1 : ¬ (p0 < (1 : Int32)))).2.1 (by decide) (by decide) ?_
    show SS p e below s₁ (mkF m 19 #[vi p0] []) _
    refine XS.iloadN X0.here hx rfl (hb hby d5_19) rfl ?_
    show SS p e below s₁ (mkF m 20 #[vi p0] [(.int p0)]) _
    exact retI X0 hx Bd.returns (hb hby d5_20) hr
  · show Q_rmD Z p0 h0 n0 _ s₁.heap _
    rw [e0]
    exact ⟨rfl, N0, rfl⟩
theorem ef_4 (m : MethodId) (x0 : Addr) (x1 : Addr) (x2 : Int32) : entryFrame m #[(.ref x0), (.ref x1), (.int x2)] 3 = mkF m 0 #[vr x0, vr x1, vi x2] [] := by first | (simp [entryFrame, mkF, argsToLocals, Value.category]; done) | rfl
theorem pn_2 : plainName "com/example/wireform/wireform/amf3/AmfInput" = true := by first | (simp [plainName, overriddenIn]; done) | decide +kernel
theorem d2_0 : decode prog_14_method_2_code 0 = .ok (.aload_n 0, 1) := by decide +kernel
theorem d2_1 : decode prog_14_method_2_code 1 = .ok (.invokespecial 9, 3) := by decide +kernel
theorem d2_4 : decode prog_14_method_2_code 4 = .ok (.aload_n 0, 1) := by decide +kernel
theorem d2_5 : decode prog_14_method_2_code 5 = .ok (.aload_n 1, 1) := by decide +kernel
theorem d2_6 : decode prog_14_method_2_code 6 = .ok (.ldc 14, 2) := by decide +kernel
theorem own_strAtoms : ∀ d ∈ Bundle.stringAtoms, d ∈ tables_1 := by decide +kernel
theorem d2_8 : decode prog_14_method_2_code 8 = .ok (.invokestatic 16, 3) := by decide +kernel
theorem pd_0 : parseMethodDescriptor "(Ljava/lang/Object;Ljava/lang/String;)Ljava/lang/Object;" = some ⟨[(.object "java/lang/Object"), (.object "java/lang/String")], some (.object "java/lang/Object")⟩ := by decide +kernel
theorem d2_11 : decode prog_14_method_2_code 11 = .ok (.checkcast 22, 3) := by decide +kernel
theorem d2_14 : decode prog_14_method_2_code 14 = .ok (.putfield 24, 3) := by decide +kernel
theorem d2_17 : decode prog_14_method_2_code 17 = .ok (.aload_n 0, 1) := by decide +kernel
theorem d2_18 : decode prog_14_method_2_code 18 = .ok (.iload_n 2, 1) := by decide +kernel
theorem d2_19 : decode prog_14_method_2_code 19 = .ok (.invokestatic 26, 3) := by decide +kernel
theorem pd_1 : parseMethodDescriptor "(I)I" = some ⟨[.int], some .int⟩ := by decide +kernel
theorem d2_22 : decode prog_14_method_2_code 22 = .ok (.putfield 30, 3) := by decide +kernel
theorem d2_25 : decode prog_14_method_2_code 25 = .ok (.return_, 1) := by decide +kernel
def Q_rmI (Z : State) (r0 : Addr) (r1 : Addr) (p2 : Int32) (h0 : Heap) (n0 : Nat) (v : Option Value) (h : Heap) (L : List Loc) : Prop := (v = none ∧ Fr n0 L ∧ Keep h0 h [r0] ∧ Exa Z h r0 "com/example/wireform/wireform/amf3/AmfInput" ∧ Fld Z h r0 "com/example/wireform/wireform/amf3/AmfInput" "bytes" "[B" (.ref r1) ∧ Fld Z h r0 "com/example/wireform/wireform/amf3/AmfInput" "position" "I" (.int (0 : Int32)))
set_option maxRecDepth 65536 in
set_option maxHeartbeats 40000000 in
theorem rmI (l : Launch) (Z : State) (a0 : Array Value) (hw : ∀ d ∈ tables_1, d.before a0 Z = true) (ws : List Jvm.Cond) (r0 : Addr) (r1 : Addr) (p2 : Int32) (h0 : Heap) (n0 : Nat) (Z0 : n0 ≤ h0.size) (uE : Exa Z h0 r0 "com/example/wireform/wireform/amf3/AmfInput") (ub : Fld Z h0 r0 "com/example/wireform/wireform/amf3/AmfInput" "bytes" "[B" .null) (um : Fld Z h0 r0 "com/example/wireform/wireform/amf3/AmfInput" "maxDepth" "I" (.int (0 : Int32))) (up : Fld Z h0 r0 "com/example/wireform/wireform/amf3/AmfInput" "position" "I" (.int (0 : Int32))) (ug : n0 ≤ r0) (uB : Exa Z h0 r1 "[B") (u1 : ¬ (p2 < (1 : Int32))) :
    MetFree l (⟨"com/example/wireform/wireform/amf3/AmfInput", "<init>", "([BI)V"⟩ : MethodName) (head1 (Jvm.Cond.code (⟨"com/example/wireform/wireform/amf3/AmfInput", "<init>", "([BI)V"⟩ : MethodName) prog_14_method_2_code 3 none :: ws) ({ frames := 1, cells := 2, slots := 24, locals := 14 } : Room)) (fun a U => a = #[(.ref r0), (.ref r1), (.int p2)] ∧ Z.Warmed39 U.vm ∧ U.heap = h0) (fun _ _ _ _ _ => True) (fun _ U o U' => ∃ v L, o = .returned v ∧ Q_rmI Z r0 r1 p2 h0 n0 v U'.heap L ∧ ReturnedEndW U o U' L ({ frames := 1, cells := 2, slots := 24, locals := 14 } : Room).cells ({ frames := 1, cells := 2, slots := 24, locals := 14 } : Room).slots) := by
  refine MetFree.of_bodySF (plainFor_of_name pn_2) hisR ?_
  intro p e s m args below meth c s₁ Bd hml0 hP hK
  obtain ⟨rfl, hZ, hh⟩ := hP
  have hx := Bd.exec
  have hby := Bd.bytes
  have hml : c.maxLocals = 3 := hml0
  have hown : s.vm.findClass "com/example/wireform/wireform/amf3/AmfInput" = some m.cls := findClass_of_methodNamed Bd.named
  have hnm := (name_of_methodNamed Bd.named Bd.method).1
  have X0 : Stand p l e ({ frames := 1, cells := 2, slots := 24, locals := 14 } : Room) (s.setVm s.vm) m #[(.ref r0), (.ref r1), (.int p2)] below meth c s₁ [] 0 0 := Stand.of_body Bd
  have e0 : s₁.heap = h0 := by rw [← hh, Bd.state]; rfl
  have N0 := Fr.nil n0
  have pre0 : ∀ t, Steps p.tables e below (s₁.setTop (mkF m 0 #[vr r0, vr r1, vi p2] [])) t → Steps p.tables e below (s₁.setTop (entryFrame m #[(.ref r0), (.ref r1), (.int p2)] 3)) t := fun t k => castTop (ef_4 m r0 r1 p2) k
  have hS0 : s.Since s.vm 0 := (State.WarmedH.refl s).since _
  have hk0 : 0 ≤ h0.size := Nat.zero_le _
  obtain ⟨T1, X1, e1, st1⟩ := initO X0 hx hZ hown (wd hw 12 rfl) (wd hw 13 rfl) (wd hw 14 rfl) e0 (g := (mkF m 1 #[vr r0, vr r1, vi p2] [(.ref r0)])) rfl (by rw [hml]; rfl) rfl (hb hby d2_1) (by decide) (W := 0) (by show 2 * 0 + _ ≤ _; exact Nat.le_of_eq rfl) (by decide)
  obtain ⟨b2, T2, h2, kk2, X2, e2, E2, hS2, hk2, hZ2, hown2, st2⟩ := ldcS X1 hx hZ hown (wd hw 15 rfl) (fun d hd => hw d (own_strAtoms d hd)) e1 hS0 hk0 (g := (mkF m 6 #[vr r0, vr r1, vi p2] [(.ref r1), (.ref r0)])) rfl (hb hby d2_6) (n := 20) (by decide) (by decide) (by decide) (by decide)
  have K2 : Keep h0 h2 [r0] := (Keep.refl h0 [r0]).ext E2
  have Z2 : n0 ≤ h2.size := Nat.le_trans Z0 E2.1
  obtain ⟨_, _, ⟨T3, L3, k3, n3⟩, -, X3, ⟨Lc3, hQ3, l3, y3, z3⟩, st3⟩ := Jvm.LawKit.callS X2 hx (y := (⟨"java/util/Objects", "requireNonNull", "(Ljava/lang/Object;Ljava/lang/String;)Ljava/lang/Object;"⟩ : MethodName)) hown2 (mvT hZ2 (wd hw 22 rfl)) (mvT hZ2 (wd hw 23 rfl)) (mvT hZ2 (wd hw 24 rfl)) (mvT hZ2 (wd hw 25 rfl)) (by decide) (backOf (W := 1) (rmR l Z a0 hw [] r1 b2 h2 n0 Z2) hZ2 (wd hw 25 rfl) (wd hw 24 rfl) (by decide) (by decide)) (g := (mkF m 8 #[vr r0, vr r1, vi p2] [(.ref b2), (.ref r1), (.ref r0)])) rfl (by rw [hml]; rfl) (argsL := [(.ref r1), (.ref b2)]) (rest := [(.ref r0)]) (lenOf pd_0 rfl) rfl (by show 2 * 0 + _ ≤ _; exact Nat.le_of_eq rfl) (hb hby d2_8) (fun _ _ => ⟨rfl, e2, (by decide : 2 + 0 ≤ _), (by decide : 24 + 0 ≤ _)⟩)
  dsimp only [Pt.U, Pt.locs, Pt.cells, Pt.slots] at X3 l3 y3 z3 st3 hQ3
  subst l3 y3 z3
  obtain ⟨rfl, Nq3, eh3⟩ := hQ3
  have N3 := Fr.app N0 Nq3
  have c5 := (uB.ext E2)
  obtain ⟨T4, X4, e4, st4⟩ := castY X3 hx hZ2 hown2 (wd hw 26 rfl) eh3 (Ins.self c5) (g := (mkF m 11 #[vr r0, vr r1, vi p2] [(.ref r1), (.ref r0)])) rfl rfl (hb hby d2_11)
  have c7 := (uE.ext E2)
  have c8 := (ub.ext E2)
  obtain ⟨T6, h6, X6, e6, W6, st6⟩ := putF X4 hx hZ2 hown2 (host := "") (Or.inl (wd hw 28 rfl)) Via.refl e4 c8 c7 (Or.inr ⟨(wd hw 29 rfl), rfl, hnm⟩) (wd hw 3 rfl) (ty := (.array .byte)) (by decide) rfl rfl (g := (mkF m 14 #[vr r0, vr r1, vi p2] [(.ref r1), (.ref r0)])) rfl rfl (hb hby d2_14)
  have Fw6 := c8.same W6
  have N6 := Fr.snoc X6 N3 ug
  have K6 : Keep h0 h6 [r0] := K2.wr W6 (Or.inl (List.mem_of_getElem? (i := 0) rfl))
  have Z6 : n0 ≤ h6.size := by rw [W6.size]; exact Z2
  have hk6 := own_szW W6 hk2
  obtain ⟨_, _, ⟨T9, L9, k9, n9⟩, -, X9, ⟨Lc9, hQ9, l9, y9, z9⟩, st9⟩ := Jvm.LawKit.callS X6 hx (y := (⟨"com/example/wireform/wireform/mapping/Conversions", "requireDepthLimit", "(I)I"⟩ : MethodName)) hown2 (mvT hZ2 (wd hw 30 rfl)) (mvT hZ2 (wd hw 31 rfl)) (mvT hZ2 (wd hw 32 rfl)) (mvT hZ2 (wd hw 33 rfl)) (by decide) (backOf (W := 1) (rmD l Z a0 hw [] p2 h6 n0 Z6 u1) hZ2 (wd hw 33 rfl) (wd hw 32 rfl) (by decide) (by decide)) (g := (mkF m 19 #[vr r0, vr r1, vi p2] [(.int p2), (.ref r0)])) rfl (by rw [hml]; rfl) (argsL := [(.int p2)]) (rest := [(.ref r0)]) (lenOf pd_1 rfl) rfl (by show 2 * 0 + _ ≤ _; exact Nat.le_of_eq rfl) (hb hby d2_19) (fun _ _ => ⟨rfl, e6, (by decide : 2 + 0 ≤ _), (by decide : 24 + 0 ≤ _)⟩)
  dsimp only [Pt.U, Pt.locs, Pt.cells, Pt.slots] at X9 l9 y9 z9 st9 hQ9
  subst l9 y9 z9
  obtain ⟨rfl, Nq9, eh9⟩ := hQ9
  have N9 := Fr.app N6 Nq9
  have c11 := (c7.wr W6)
  have c12 := ((um.ext E2).other W6 (Or.inr (slot_ne (Or.inr (wd hw 35 rfl)) (Or.inr (wd hw 29 rfl)) (by decide) (t := .int) (t' := (.array .byte)) (by decide) (by decide))))
  obtain ⟨T10, h10, X10, e10, W10, st10⟩ := putF X9 hx hZ2 hown2 (host := "") (Or.inl (wd hw 34 rfl)) Via.refl eh9 c12 c11 (Or.inr ⟨(wd hw 35 rfl), rfl, hnm⟩) (wd hw 3 rfl) (ty := .int) (by decide) rfl rfl (g := (mkF m 22 #[vr r0, vr r1, vi p2] [(.int p2), (.ref r0)])) rfl rfl (hb hby d2_22)
  have Fw10 := c12.same W10
  have N10 := Fr.snoc X10 N9 ug
  have K10 : Keep h0 h10 [r0] := K6.wr W10 (Or.inl (List.mem_of_getElem? (i := 0) rfl))
  have Z10 : n0 ≤ h10.size := by rw [W10.size]; exact Z6
  have hk10 := own_szW W10 hk6
  have c13 := (c11.wr W10)
  have c14 := (Fw6.other W10 (Or.inr (slot_ne (Or.inr (wd hw 29 rfl)) (Or.inr (wd hw 35 rfl)) (by decide) (t := (.array .byte)) (t' := .int) (by decide) (by decide))))
  have c15 := (((up.ext E2).other W6 (Or.inr (slot_ne (Or.inl (wd hw 42 rfl)) (Or.inr (wd hw 29 rfl)) (by decide) (t := .int) (t' := (.array .byte)) (by decide) (by decide)))).other W10 (Or.inr (slot_ne (Or.inl (wd hw 42 rfl)) (Or.inr (wd hw 35 rfl)) (by decide) (t := .int) (t' := .int) (by decide) (by decide))))
  obtain ⟨fs, hr, hrun, hended, en1, en2, en3, en4⟩ := X10.leaveW hS2 (own_hk e10 hk10) (v := none) (fun _ => rfl)
  refine ⟨_, _, pre0 _ ?_, hrun, hended, _, _, rfl, ?_, en1, en2, en3, en4.mono (by decide) (by decide)⟩
  · show SS p e below s₁ (mkF m 0 #[vr r0, vr r1, vi p2] []) _
    refine XS.aloadN X0.here hx rfl (hb hby d2_0) rfl rfl ?_
    show SS p e below s₁ (mkF m 1 #[vr r0, vr r1, vi p2] [(.ref r0)]) _
    refine st1 _ ?_
    show SS p e below T1 (mkF m 4 #[vr r0, vr r1, vi p2] []) _
    refine XS.aloadN X1.here hx rfl (hb hby d2_4) rfl rfl ?_
    show SS p e below T1 (mkF m 5 #[vr r0, vr r1, vi p2] [(.ref r0)]) _
    refine XS.aloadN X1.here hx rfl (hb hby d2_5) rfl rfl ?_
    show SS p e below T1 (mkF m 6 #[vr r0, vr r1, vi p2] [(.ref r1), (.ref r0)]) _
    refine st2 _ ?_
    show SS p e below T2 (mkF m 8 #[vr r0, vr r1, vi p2] [(.ref b2), (.ref r1), (.ref r0)]) _
    refine st3 _ ?_
    show SS p e below T3 (mkF m 11 #[vr r0, vr r1, vi p2] [(.ref r1), (.ref r0)]) _
    refine st4 _ ?_
    show SS p e below T4 (mkF m 14 #[vr r0, vr r1, vi p2] [(.ref r1), (.ref r0)]) _
    refine st6 _ ?_
    show SS p e below T6 (mkF m 17 #[vr r0, vr r1, vi p2] []) _
    refine XS.aloadN X6.here hx rfl (hb hby d2_17) rfl rfl ?_
    show SS p e below T6 (mkF m 18 #[vr r0, vr r1, vi p2] [(.ref r0)]) _
    refine XS.iloadN X6.here hx rfl (hb hby d2_18) rfl ?_
    show SS p e below T6 (mkF m 19 #[vr r0, vr r1, vi p2] [(.int p2), (.ref r0)]) _
    refine st9 _ ?_
    show SS p e below T9 (mkF m 22 #[vr r0, vr r1, vi p2] [(.int p2), (.ref r0)]) _
    refine st10 _ ?_
    show SS p e below T10 (mkF m 25 #[vr r0, vr r1, vi p2] []) _
    exact X10.returnOut hx Bd.returns (hb hby d2_25) hr
  · show Q_rmI Z r0 r1 p2 h0 n0 _ T10.heap _
    rw [e10]
    exact ⟨rfl, N10, K10, c13, c14, c15⟩
theorem ef_5 (m : MethodId) (x0 : Addr) : entryFrame m #[(.ref x0)] 1 = mkF m 0 #[vr x0] [] := by first | (simp [entryFrame, mkF, argsToLocals, Value.category]; done) | rfl
theorem d6_0 : decode prog_14_method_4_code 0 = .ok (.aload_n 0, 1) := by decide +kernel
theorem d6_1 : decode prog_14_method_4_code 1 = .ok (.getfield 34, 3) := by decide +kernel
theorem d6_4 : decode prog_14_method_4_code 4 = .ok (.aload_n 0, 1) := by decide +kernel
theorem d6_5 : decode prog_14_method_4_code 5 = .ok (.getfield 24, 3) := by decide +kernel
theorem d6_8 : decode prog_14_method_4_code 8 = .ok (.arraylength, 1) := by decide +kernel
theorem d6_9 : decode prog_14_method_4_code 9 = .ok (.if_icmp .ne 7, 3) := by decide +kernel
theorem d6_12 : decode prog_14_method_4_code 12 = .ok (.iconst 1, 1) := by decide +kernel
theorem d6_13 : decode prog_14_method_4_code 13 = .ok (.goto 4, 3) := by decide +kernel
theorem d6_17 : decode prog_14_method_4_code 17 = .ok (.ireturn, 1) := by decide +kernel
theorem d6_16 : decode prog_14_method_4_code 16 = .ok (.iconst 0, 1) := by decide +kernel
def Q_rmE (Z : State) (r0 : Addr) (rb : Addr) (ps : Int32) (kb : ClassId) (zb : Int32) (vs : List Value) (dv : Value) (h0 : Heap) (n0 : Nat) (v : Option Value) (h : Heap) (L : List Loc) : Prop := (v = some (.int (if ps = zb then (1 : Int32) else (0 : Int32))) ∧ Fr n0 L ∧ h = h0)
set_option maxRecDepth 65536 in
set_option maxHeartbeats 40000000 in
theorem rmE (l : Launch) (Z : State) (a0 : Array Value) (hw : ∀ d ∈ tables_1, d.before a0 Z = true) (ws : List Jvm.Cond) (r0 : Addr) (rb : Addr) (ps : Int32) (kb : ClassId) (zb : Int32) (vs : List Value) (dv : Value) (h0 : Heap) (n0 : Nat) (Z0 : n0 ≤ h0.size) (ub : Fld Z h0 r0 "com/example/wireform/wireform/amf3/AmfInput" "bytes" "[B" (.ref rb)) (up : Fld Z h0 r0 "com/example/wireform/wireform/amf3/AmfInput" "position" "I" (.int ps)) (uV : Arv Z h0 rb kb .byte zb vs dv) :
    MetFree l (⟨"com/example/wireform/wireform/amf3/AmfInput", "isAtEnd", "()Z"⟩ : MethodName) (head1 (Jvm.Cond.code (⟨"com/example/wireform/wireform/amf3/AmfInput", "isAtEnd", "()Z"⟩ : MethodName) prog_14_method_4_code 1 (some .boolean) :: ws) ({ frames := 0, cells := 0, slots := 0, locals := 0 } : Room)) (fun a U => a = #[(.ref r0)] ∧ Z.Warmed39 U.vm ∧ U.heap = h0) (fun _ _ _ _ _ => True) (fun _ U o U' => ∃ v L, o = .returned v ∧ Q_rmE Z r0 rb ps kb zb vs dv h0 n0 v U'.heap L ∧ FrameEnd U o U' L ({ frames := 0, cells := 0, slots := 0, locals := 0 } : Room).cells ({ frames := 0, cells := 0, slots := 0, locals := 0 } : Room).slots) := by
  refine MetFree.of_bodySF (plainFor_of_name pn_2) hisR ?_
  intro p e s m args below meth c s₁ Bd hml0 hP hK
  obtain ⟨rfl, hZ, hh⟩ := hP
  have hx := Bd.exec
  have hby := Bd.bytes
  have hml : c.maxLocals = 1 := hml0
  have hown : s.vm.findClass "com/example/wireform/wireform/amf3/AmfInput" = some m.cls := findClass_of_methodNamed Bd.named
  have hnm := (name_of_methodNamed Bd.named Bd.method).1
  have X0 : Stand p l e ({ frames := 0, cells := 0, slots := 0, locals := 0 } : Room) s m #[(.ref r0)] below meth c s₁ [] 0 0 := Stand.of_body Bd
  have e0 : s₁.heap = h0 := by rw [← hh, Bd.state]; rfl
  have N0 := Fr.nil n0
  have pre0 : ∀ t, Steps p.tables e below (s₁.setTop (mkF m 0 #[vr r0] [])) t → Steps p.tables e below (s₁.setTop (entryFrame m #[(.ref r0)] 1)) t := fun t k => castTop (ef_5 m r0) k
  obtain ⟨T1, X1, e1, st1⟩ := getF X0 hx hZ hown (host := "") (Or.inl (wd hw 41 rfl)) Via.refl e0 up (g := (mkF m 1 #[vr r0] [(.ref r0)])) rfl rfl (hb hby d6_1)
  obtain ⟨T2, X2, e2, st2⟩ := getF X1 hx hZ hown (host := "") (Or.inl (wd hw 28 rfl)) Via.refl e1 ub (g := (mkF m 5 #[vr r0] [(.ref r0), (.int ps)])) rfl rfl (hb hby d6_5)
  obtain ⟨cl3, Ar3, q3, S3, Nn3, H3, G3⟩ := (id uV)
  have sg4 : ∀ target, SS p e below T2 (mkF m 9 #[vr r0] [(.int zb), (.int ps)]) target → SS p e below s₁ (mkF m 0 #[vr r0] []) target := by
    intro target kt
    show SS p e below s₁ (mkF m 0 #[vr r0] []) _
    refine XS.aloadN X0.here hx rfl (hb hby d6_0) rfl rfl ?_
    show SS p e below s₁ (mkF m 1 #[vr r0] [(.ref r0)]) _
    refine st1 _ ?_
    show SS p e below T1 (mkF m 4 #[vr r0] [(.int ps)]) _
    refine XS.aloadN X1.here hx rfl (hb hby d6_4) rfl rfl ?_
    show SS p e below T1 (mkF m 5 #[vr r0] [(.ref r0), (.int ps)]) _
    refine st2 _ ?_
    show SS p e below T2 (mkF m 8 #[vr r0] [(.ref rb), (.int ps)]) _
    refine X2.arraylength hx (own_at e2 Ar3.1) (State.isArrayOf_alike hZ.alike Ar3.2.1) (g := (mkF m 8 #[vr r0] [(.ref rb), (.int ps)])) rfl rfl (hb hby d6_8) _ ?_
    rw [len_of S3 Nn3]
    exact kt
  by_cases hc9 : ps = zb
  · obtain ⟨fs, hr, hrun, hended, hW, hsame⟩ := X2.leave (v := some (.int (nar .boolean (1 : Int32)))) (fun h => by rw [Bd.returns] at h; cases h)
    refine ⟨_, _, pre0 _ ?_, hrun, hended, _, _, rfl, ?_, ⟨_, rfl⟩, hW, hsame.mono (by decide) (by decide)⟩
    · refine sg4 _ ?_
      show SS p e below T2 (mkF m 9 #[vr r0] [(.int zb), (.int ps)]) _
      refine XS.icmpNo X2.here hx rfl (hb hby d6_9) rfl (teq (hc9 : ps = zb)).2 ?_
      show SS p e below T2 (mkF m 12 #[vr r0] []) _
      refine XS.iconst X2.here hx rfl (hb hby d6_12) ?_
      show SS p e below T2 (mkF m 13 #[vr r0] [(.int (1 : Int32))]) _
      refine XS.goto X2.here hx rfl (pc0 := 13) (pc' := 17) rfl (hb hby d6_13) (by decide) (by decide) ?_
      show SS p e below T2 (mkF m 17 #[vr r0] [(.int (1 : Int32))]) _
      exact retN X2 hx (t := .boolean) Bd.returns (by simp) (hb hby d6_17) hr
    · show Q_rmE Z r0 rb ps kb zb vs dv h0 n0 _ T2.heap _
      rw [e2]
      exact ⟨(by rw [if_pos hc9]; rfl), N0, rfl⟩
  · obtain ⟨fs, hr, hrun, hended, hW, hsame⟩ := X2.leave (v := some (.int (nar .boolean (0 : Int32)))) (fun h => by rw [Bd.returns] at h; cases h)
    refine ⟨_, _, pre0 _ ?_, hrun, hended, _, _, rfl, ?_, ⟨_, rfl⟩, hW, hsame.mono (by decide) (by decide)⟩
    · refine sg4 _ ?_
      show SS p e below T2 (mkF m 9 #[vr r0] [(.int zb), (.int ps)]) _
      refine XS.icmpYes X2.here hx rfl (pc0 := 9) (pc' := 16) rfl (hb hby d6_9) rfl (feq (hc9 : ¬ (ps = zb))).2 (by decide) (by decide) ?_
      show SS p e below T2 (mkF m 16 #[vr r0] []) _
      refine XS.iconst X2.here hx rfl (hb hby d6_16) ?_
      show SS p e below T2 (mkF m 17 #[vr r0] [(.int (0 : Int32))]) _
      exact retN X2 hx (t := .boolean) Bd.returns (by simp) (hb hby d6_17) hr
    · show Q_rmE Z r0 rb ps kb zb vs dv h0 n0 _ T2.heap _
      rw [e2]
      exact ⟨(by rw [if_neg hc9]; rfl), N0, rfl⟩
theorem ef_6 (m : MethodId) (x0 : Addr) (x1 : Int64) (x2 : Addr) : entryFrame m #[(.ref x0), (.long x1), (.ref x2)] 5 = mkF m 0 #[vr x0, vl x1, us, vr x2, uu] [] := by first | (simp [entryFrame, mkF, argsToLocals, Value.category]; done) | rfl
theorem d8_0 : decode prog_14_method_19_code 0 = .ok (.aload_n 0, 1) := by decide +kernel
theorem d8_1 : decode prog_14_method_19_code 1 = .ok (.getfield 24, 3) := by decide +kernel
theorem d8_4 : decode prog_14_method_19_code 4 = .ok (.arraylength, 1) := by decide +kernel
theorem d8_5 : decode prog_14_method_19_code 5 = .ok (.aload_n 0, 1) := by decide +kernel
theorem d8_6 : decode prog_14_method_19_code 6 = .ok (.getfield 34, 3) := by decide +kernel
theorem d8_9 : decode prog_14_method_19_code 9 = .ok (.isub, 1) := by decide +kernel
theorem d8_10 : decode prog_14_method_19_code 10 = .ok (.istore 4, 2) := by decide +kernel
theorem d8_12 : decode prog_14_method_19_code 12 = .ok (.lload_n 1, 1) := by decide +kernel
theorem d8_13 : decode prog_14_method_19_code 13 = .ok (.iload 4, 2) := by decide +kernel
theorem d8_15 : decode prog_14_method_19_code 15 = .ok (.i2l, 1) := by decide +kernel
theorem d8_16 : decode prog_14_method_19_code 16 = .ok (.lcmp, 1) := by decide +kernel
theorem d8_17 : decode prog_14_method_19_code 17 = .ok (.ifCond .le 17, 3) := by decide +kernel
theorem d8_34 : decode prog_14_method_19_code 34 = .ok (.return_, 1) := by decide +kernel
def Q_rmQ (Z : State) (r0 : Addr) (q1 : Int64) (r2 : Addr) (rb : Addr) (ps : Int32) (kb : ClassId) (zb : Int32) (vs : List Value) (dv : Value) (h0 : Heap) (n0 : Nat) (v : Option Value) (h : Heap) (L : List Loc) : Prop := (v = none ∧ Fr n0 L ∧ h = h0)
set_option maxRecDepth 65536 in
set_option maxHeartbeats 40000000 in
theorem rmQ (l : Launch) (Z : State) (a0 : Array Value) (hw : ∀ d ∈ tables_1, d.before a0 Z = true) (ws : List Jvm.Cond) (r0 : Addr) (q1 : Int64) (r2 : Addr) (rb : Addr) (ps : Int32) (kb : ClassId) (zb : Int32) (vs : List Value) (dv : Value) (h0 : Heap) (n0 : Nat) (Z0 : n0 ≤ h0.size) (ub : Fld Z h0 r0 "com/example/wireform/wireform/amf3/AmfInput" "bytes" "[B" (.ref rb)) (up : Fld Z h0 r0 "com/example/wireform/wireform/amf3/AmfInput" "position" "I" (.int ps)) (uV : Arv Z h0 rb kb .byte zb vs dv) (u1 : ¬ ((0 : Int32) < (lcmpW q1 ((zb - ps).toInt64)))) :
    MetFree l (⟨"com/example/wireform/wireform/amf3/AmfInput", "require", "(JLjava/lang/String;)V"⟩ : MethodName) (head1 (Jvm.Cond.code (⟨"com/example/wireform/wireform/amf3/AmfInput", "require", "(JLjava/lang/String;)V"⟩ : MethodName) prog_14_method_19_code 5 none :: ws) ({ frames := 0, cells := 0, slots := 0, locals := 0 } : Room)) (fun a U => a = #[(.ref r0), (.long q1), (.ref r2)] ∧ Z.Warmed39 U.vm ∧ U.heap = h0) (fun _ _ _ _ _ => True) (fun _ U o U' => ∃ v L, o = .returned v ∧ Q_rmQ Z r0 q1 r2 rb ps kb zb vs dv h0 n0 v U'.heap L ∧ FrameEnd U o U' L ({ frames := 0, cells := 0, slots := 0, locals := 0 } : Room).cells ({ frames := 0, cells := 0, slots := 0, locals := 0 } : Room).slots) := by
  refine MetFree.of_bodySF (plainFor_of_name pn_2) hisR ?_
  intro p e s m args below meth c s₁ Bd hml0 hP hK
  obtain ⟨rfl, hZ, hh⟩ := hP
  have hx := Bd.exec
  have hby := Bd.bytes
  have hml : c.maxLocals = 5 := hml0
  have hown : s.vm.findClass "com/example/wireform/wireform/amf3/AmfInput" = some m.cls := findClass_of_methodNamed Bd.named
  have hnm := (name_of_methodNamed Bd.named Bd.method).1
  have X0 : Stand p l e ({ frames := 0, cells := 0, slots := 0, locals := 0 } : Room) s m #[(.ref r0), (.long q1), (.ref r2)] below meth c s₁ [] 0 0 := Stand.of_body Bd
  have e0 : s₁.heap = h0 := by rw [← hh, Bd.state]; rfl
  have N0 := Fr.nil n0
  have pre0 : ∀ t, Steps p.tables e below (s₁.setTop (mkF m 0 #[vr r0, vl q1, us, vr r2, uu] [])) t → Steps p.tables e below (s₁.setTop (entryFrame m #[(.ref r0), (.long q1), (.ref r2)] 5)) t := fun t k => castTop (ef_6 m r0 q1 r2) k
  obtain ⟨T1, X1, e1, st1⟩ := getF X0 hx hZ hown (host := "") (Or.inl (wd hw 28 rfl)) Via.refl e0 ub (g := (mkF m 1 #[vr r0, vl q1, us, vr r2, uu] [(.ref r0)])) rfl rfl (hb hby d8_1)
  obtain ⟨cl2, Ar2, q2, S2, Nn2, H2, G2⟩ := (id uV)
  obtain ⟨T3, X3, e3, st3⟩ := getF X1 hx hZ hown (host := "") (Or.inl (wd hw 41 rfl)) Via.refl e1 up (g := (mkF m 6 #[vr r0, vl q1, us, vr r2, uu] [(.ref r0), (.int zb)])) rfl rfl (hb hby d8_6)
  obtain ⟨fs, hr, hrun, hended, hW, hsame⟩ := X3.leave (v := none) (fun _ => rfl)
  refine ⟨_, _, pre0 _ ?_, hrun, hended, _, _, rfl, ?_, ⟨_, rfl⟩, hW, hsame.mono (by decide) (by decide)⟩
  · show SS p e below s₁ (mkF m 0 #[vr r0, vl q1, us, vr r2, uu] []) _
    refine XS.aloadN X0.here hx rfl (hb hby d8_0) rfl rfl ?_
    show SS p e below s₁ (mkF m 1 #[vr r0, vl q1, us, vr r2, uu] [(.ref r0)]) _
    refine st1 _ ?_
    show SS p e below T1 (mkF m 4 #[vr r0, vl q1, us, vr r2, uu] [(.ref rb)]) _
    refine X1.arraylength hx (own_at e1 Ar2.1) (State.isArrayOf_alike hZ.alike Ar2.2.1) (g := (mkF m 4 #[vr r0, vl q1, us, vr r2, uu] [(.ref rb)])) rfl rfl (hb hby d8_4) _ ?_
    rw [len_of S2 Nn2]
    show SS p e below T1 (mkF m 5 #[vr r0, vl q1, us, vr r2, uu] [(.int zb)]) _
    refine XS.aloadN X1.here hx rfl (hb hby d8_5) rfl rfl ?_
    show SS p e below T1 (mkF m 6 #[vr r0, vl q1, us, vr r2, uu] [(.ref r0), (.int zb)]) _
    refine st3 _ ?_
    show SS p e below T3 (mkF m 9 #[vr r0, vl q1, us, vr r2, uu] [(.int ps), (.int zb)]) _
    refine XS.isub X3.here hx rfl (hb hby d8_9) rfl ?_
    show SS p e below T3 (mkF m 10 #[vr r0, vl q1, us, vr r2, uu] [(.int (zb - ps))]) _
    refine XS.istore X3.here hx rfl (hb hby d8_10) rfl (l' := #[vr r0, vl q1, us, vr r2, vi (zb - ps)]) rfl ?_
    show SS p e below T3 (mkF m 12 #[vr r0, vl q1, us, vr r2, vi (zb - ps)] []) _
    refine XS.lloadN X3.here hx rfl (hb hby d8_12) rfl ?_
    show SS p e below T3 (mkF m 13 #[vr r0, vl q1, us, vr r2, vi (zb - ps)] [(.long q1)]) _
    refine XS.iload X3.here hx rfl (hb hby d8_13) rfl ?_
    show SS p e below T3 (mkF m 15 #[vr r0, vl q1, us, vr r2, vi (zb - ps)] [(.int (zb - ps)), (.long q1)]) _
    refine XS.i2l X3.here hx rfl (hb hby d8_15) rfl ?_
    show SS p e below T3 (mkF m 16 #[vr r0, vl q1, us, vr r2, vi (zb - ps)] [(.long ((zb - ps).toInt64)), (.long q1)]) _
    refine XS.lcmp X3.here hx rfl (hb hby d8_16) rfl ?_
    show SS p e below T3 (mkF m 17 #[vr r0, vl q1, us, vr r2, vi (zb - ps)] [(.int (lcmpW q1 ((zb - ps).toInt64)))]) _
    refine XS.ifYes X3.here hx rfl (pc0 := 17) (pc' := 34) rfl (hb hby d8_17) rfl ((if0 _ _).trans (flt (u1 : ¬ ((0 : Int32) < (lcmpW q1 ((zb - ps).toInt64))))).2.2.2) (by decide) (by decide) ?_
    show SS p e below T3 (mkF m 34 #[vr r0, vl q1, us, vr r2, vi (zb - ps)] []) _
    exact X3.returnOut hx Bd.returns (hb hby d8_34) hr
  · show Q_rmQ Z r0 q1 r2 rb ps kb zb vs dv h0 n0 _ T3.heap _
    rw [e3]
    exact ⟨rfl, N0, rfl⟩
theorem ef_7 (m : MethodId) (x0 : Int32) (x1 : Int32) : entryFrame m #[(.int x0), (.int x1)] 2 = mkF m 0 #[vi x0, vi x1] [] := by first | (simp [entryFrame, mkF, argsToLocals, Value.category]; done) | rfl
theorem pn_3 : plainName "java/util/Arrays" = true := by first | (simp [plainName, overriddenIn]; done) | decide +kernel
theorem d11_0 : decode jdk_65_method_131_code 0 = .ok (.iload_n 1, 1) := by decide +kernel
theorem d11_1 : decode jdk_65_method_131_code 1 = .ok (.iload_n 0, 1) := by decide +kernel
theorem d11_2 : decode jdk_65_method_131_code 2 = .ok (.if_icmp .ge 35, 3) := by decide +kernel
theorem d11_37 : decode jdk_65_method_131_code 37 = .ok (.return_, 1) := by decide +kernel
def Q_rmC (Z : State) (p0 : Int32) (p1 : Int32) (h0 : Heap) (n0 : Nat) (v : Option Value) (h : Heap) (L : List Loc) : Prop := (v = none ∧ Fr n0 L ∧ h = h0)
set_option maxRecDepth 65536 in
set_option maxHeartbeats 40000000 in
theorem rmC (l : Launch) (Z : State) (a0 : Array Value) (hw : ∀ d ∈ tables_1, d.before a0 Z = true) (ws : List Jvm.Cond) (p0 : Int32) (p1 : Int32) (h0 : Heap) (n0 : Nat) (Z0 : n0 ≤ h0.size) (u1 : ¬ (p1 < p0)) :
    MetFree l (⟨"java/util/Arrays", "checkLength", "(II)V"⟩ : MethodName) (head1 (Jvm.Cond.code (⟨"java/util/Arrays", "checkLength", "(II)V"⟩ : MethodName) jdk_65_method_131_code 2 none :: ws) ({ frames := 0, cells := 0, slots := 0, locals := 0 } : Room)) (fun a U => a = #[(.int p0), (.int p1)] ∧ Z.Warmed39 U.vm ∧ U.heap = h0) (fun _ _ _ _ _ => True) (fun _ U o U' => ∃ v L, o = .returned v ∧ Q_rmC Z p0 p1 h0 n0 v U'.heap L ∧ FrameEnd U o U' L ({ frames := 0, cells := 0, slots := 0, locals := 0 } : Room).cells ({ frames := 0, cells := 0, slots := 0, locals := 0 } : Room).slots) := by
  refine MetFree.of_bodySF (plainFor_of_name pn_3) hisR ?_
  intro p e s m args below meth c s₁ Bd hml0 hP hK
  obtain ⟨rfl, hZ, hh⟩ := hP
  have hx := Bd.exec
  have hby := Bd.bytes
  have hml : c.maxLocals = 2 := hml0
  have hown : s.vm.findClass "java/util/Arrays" = some m.cls := findClass_of_methodNamed Bd.named
  have hnm := (name_of_methodNamed Bd.named Bd.method).1
  have X0 : Stand p l e ({ frames := 0, cells := 0, slots := 0, locals := 0 } : Room) s m #[(.int p0), (.int p1)] below meth c s₁ [] 0 0 := Stand.of_body Bd
  have e0 : s₁.heap = h0 := by rw [← hh, Bd.state]; rfl
  have N0 := Fr.nil n0
  have pre0 : ∀ t, Steps p.tables e below (s₁.setTop (mkF m 0 #[vi p0, vi p1] [])) t → Steps p.tables e below (s₁.setTop (entryFrame m #[(.int p0), (.int p1)] 2)) t := fun t k => castTop (ef_7 m p0 p1) k
  obtain ⟨fs, hr, hrun, hended, hW, hsame⟩ := X0.leave (v := none) (fun _ => rfl)
  refine ⟨_, _, pre0 _ ?_, hrun, hended, _, _, rfl, ?_, ⟨_, rfl⟩, hW, hsame.mono (by decide) (by decide)⟩
  · show SS p e below s₁ (mkF m 0 #[vi p0, vi p1] []) _
    refine XS.iloadN X0.here hx rfl (hb hby d11_0) rfl ?_
    show SS p e below s₁ (mkF m 1 #[vi p0, vi p1] [(.int p1)]) _
    refine XS.iloadN X0.here hx rfl (hb hby d11_1) rfl ?_
    show SS p e below s₁ (mkF m 2 #[vi p0, vi p1] [(.int p0), (.int p1)]) _
    refine XS.icmpYes X0.here hx rfl (pc0 := 2) (pc' := 37) rfl (hb hby d11_2) rfl (flt (u1 : ¬ (p1 < p0))).2.1 (by decide) (by decide) ?_
    show SS p e below s₁ (mkF m 37 #[vi p0, vi p1] []) _
    exact X0.returnOut hx Bd.returns (hb hby d11_37) hr
  · show Q_rmC Z p0 p1 h0 n0 _ s₁.heap _
    rw [e0]
    exact ⟨rfl, N0, rfl⟩
theorem ef_8 (m : MethodId) (x0 : Addr) (x1 : Int32) (x2 : Int32) : entryFrame m #[(.ref x0), (.int x1), (.int x2)] 5 = mkF m 0 #[vr x0, vi x1, vi x2, uu, uu] [] := by first | (simp [entryFrame, mkF, argsToLocals, Value.category]; done) | rfl
theorem d10_0 : decode jdk_65_method_133_code 0 = .ok (.iload_n 1, 1) := by decide +kernel
theorem d10_1 : decode jdk_65_method_133_code 1 = .ok (.iload_n 2, 1) := by decide +kernel
theorem d10_2 : decode jdk_65_method_133_code 2 = .ok (.invokestatic 343, 3) := by decide +kernel
theorem pd_2 : parseMethodDescriptor "(II)V" = some ⟨[.int, .int], none⟩ := by decide +kernel
theorem d10_5 : decode jdk_65_method_133_code 5 = .ok (.iload_n 2, 1) := by decide +kernel
theorem d10_6 : decode jdk_65_method_133_code 6 = .ok (.iload_n 1, 1) := by decide +kernel
theorem d10_7 : decode jdk_65_method_133_code 7 = .ok (.isub, 1) := by decide +kernel
theorem d10_8 : decode jdk_65_method_133_code 8 = .ok (.istore_n 3, 1) := by decide +kernel
theorem d10_9 : decode jdk_65_method_133_code 9 = .ok (.iload_n 3, 1) := by decide +kernel
theorem d10_10 : decode jdk_65_method_133_code 10 = .ok (.newarray .byte, 2) := by decide +kernel
theorem d10_12 : decode jdk_65_method_133_code 12 = .ok (.astore 4, 2) := by decide +kernel
theorem d10_14 : decode jdk_65_method_133_code 14 = .ok (.aload_n 0, 1) := by decide +kernel
theorem d10_15 : decode jdk_65_method_133_code 15 = .ok (.iload_n 1, 1) := by decide +kernel
theorem d10_16 : decode jdk_65_method_133_code 16 = .ok (.aload 4, 2) := by decide +kernel
theorem d10_18 : decode jdk_65_method_133_code 18 = .ok (.iconst 0, 1) := by decide +kernel
theorem d10_19 : decode jdk_65_method_133_code 19 = .ok (.aload_n 0, 1) := by decide +kernel
theorem d10_20 : decode jdk_65_method_133_code 20 = .ok (.arraylength, 1) := by decide +kernel
theorem d10_21 : decode jdk_65_method_133_code 21 = .ok (.iload_n 1, 1) := by decide +kernel
theorem d10_22 : decode jdk_65_method_133_code 22 = .ok (.isub, 1) := by decide +kernel
theorem d10_23 : decode jdk_65_method_133_code 23 = .ok (.iload_n 3, 1) := by decide +kernel
theorem d10_24 : decode jdk_65_method_133_code 24 = .ok (.invokestatic 304, 3) := by decide +kernel
theorem pd_3 : parseMethodDescriptor "(II)I" = some ⟨[.int, .int], some .int⟩ := by decide +kernel
theorem d10_27 : decode jdk_65_method_133_code 27 = .ok (.invokestatic 150, 3) := by decide +kernel
theorem d10_30 : decode jdk_65_method_133_code 30 = .ok (.aload 4, 2) := by decide +kernel
theorem d10_32 : decode jdk_65_method_133_code 32 = .ok (.areturn, 1) := by decide +kernel
def Q_rmCB (Z : State) (r0 : Addr) (p1 : Int32) (p2 : Int32) (kb : ClassId) (zb : Int32) (vs : List Value) (dv : Value) (h0 : Heap) (n0 : Nat) (v : Option Value) (h : Heap) (L : List Loc) : Prop := ∃ (nb : Addr), (v = some (.ref nb) ∧ Fr n0 L ∧ Keep h0 h [] ∧ h0.size ≤ nb)
set_option maxRecDepth 65536 in
set_option maxHeartbeats 40000000 in
theorem rmCB (l : Launch) (Z : State) (a0 : Array Value) (hw : ∀ d ∈ tables_1, d.before a0 Z = true) (ws : List Jvm.Cond) (r0 : Addr) (p1 : Int32) (p2 : Int32) (kb : ClassId) (zb : Int32) (vs : List Value) (dv : Value) (h0 : Heap) (n0 : Nat) (Z0 : n0 ≤ h0.size) (uE : Exa Z h0 r0 "[B") (uV : Arv Z h0 r0 kb .byte zb vs dv) (u0 : 0 ≤ p1.toInt) (u1 : p1.toInt ≤ p2.toInt) (u2 : p2.toInt ≤ zb.toInt) (u3 : zb.toInt ≤ 8) :
    MetFree l (⟨"java/util/Arrays", "copyOfRangeByte", "([BII)[B"⟩ : MethodName) (head1 (Jvm.Cond.code (⟨"java/util/Arrays", "copyOfRangeByte", "([BII)[B"⟩ : MethodName) jdk_65_method_133_code 5 (some (.array .byte)) :: ws) ({ frames := 1, cells := 1, slots := 8, locals := 18 } : Room)) (fun a U => a = #[(.ref r0), (.int p1), (.int p2)] ∧ Z.Warmed39 U.vm ∧ U.heap = h0) (fun _ _ _ _ _ => True) (fun _ U o U' => ∃ v L, o = .returned v ∧ Q_rmCB Z r0 p1 p2 kb zb vs dv h0 n0 v U'.heap L ∧ FrameEnd U o U' L ({ frames := 1, cells := 1, slots := 8, locals := 18 } : Room).cells ({ frames := 1, cells := 1, slots := 8, locals := 18 } : Room).slots) := by
  refine MetFree.of_bodySF (plainFor_of_name pn_3) hisR ?_
  intro p e s m args below meth c s₁ Bd hml0 hP hK
  obtain ⟨rfl, hZ, hh⟩ := hP
  have hx := Bd.exec
  have hby := Bd.bytes
  have hml : c.maxLocals = 5 := hml0
  have hown : s.vm.findClass "java/util/Arrays" = some m.cls := findClass_of_methodNamed Bd.named
  have hnm := (name_of_methodNamed Bd.named Bd.method).1
  have X0 : Stand p l e ({ frames := 1, cells := 1, slots := 8, locals := 18 } : Room) s m #[(.ref r0), (.int p1), (.int p2)] below meth c s₁ [] 0 0 := Stand.of_body Bd
  have e0 : s₁.heap = h0 := by rw [← hh, Bd.state]; rfl
  have N0 := Fr.nil n0
  have pre0 : ∀ t, Steps p.tables e below (s₁.setTop (mkF m 0 #[vr r0, vi p1, vi p2, uu, uu] [])) t → Steps p.tables e below (s₁.setTop (entryFrame m #[(.ref r0), (.int p1), (.int p2)] 5)) t := fun t k => castTop (ef_8 m r0 p1 p2) k
  have ol := own_len u0 u1 u2 u3
  obtain ⟨_, _, ⟨T1, L1, k1, n1⟩, -, X1, ⟨Lc1, hQ1, l1, y1, z1⟩, st1⟩ := Jvm.LawKit.callS X0 hx (y := (⟨"java/util/Arrays", "checkLength", "(II)V"⟩ : MethodName)) hown (mvT hZ (wd hw 69 rfl)) (mvT hZ (wd hw 70 rfl)) (mvT hZ (wd hw 56 rfl)) (mvT hZ (wd hw 71 rfl)) (by decide) (backOf (W := 0) (rmC l Z a0 hw [] p1 p2 h0 n0 Z0 ol.2.2.2.2.2) hZ (wd hw 71 rfl) (wd hw 56 rfl) (by decide) (by decide)) (g := (mkF m 2 #[vr r0, vi p1, vi p2, uu, uu] [(.int p2), (.int p1)])) rfl (by rw [hml]; rfl) (argsL := [(.int p1), (.int p2)]) (rest := []) (lenOf pd_2 rfl) rfl (by show 2 * 0 + _ ≤ _; exact Nat.le_of_eq rfl) (hb hby d10_2) (fun _ _ => ⟨rfl, e0, (by decide : 0 + 0 ≤ _), (by decide : 0 + 0 ≤ _)⟩)
  dsimp only [Pt.U, Pt.locs, Pt.cells, Pt.slots] at X1 l1 y1 z1 st1 hQ1
  subst l1 y1 z1
  obtain ⟨rfl, Nq1, eh1⟩ := hQ1
  have N1 := Fr.app N0 Nq1
  obtain ⟨T2, h2, k2, X2, e2, E2, A2, AX2, st2⟩ := newPE X1 hx hZ (wd hw 1 rfl) eh1 (g := (mkF m 10 #[vr r0, vi p1, vi p2, vi (p2 - p1), uu] [(.int (p2 - p1))])) rfl (hb hby d10_10) rfl ol.2.1 (cap := 8) ol.2.2.1 (by decide) (by decide) (by decide) (ad := "[B") (by decide)
  obtain ⟨b2, g2⟩ : ∃ z, z = h0.size := ⟨_, rfl⟩
  rw [← g2] at A2 AX2 st2
  have ne_r0_b2 : r0 ≠ b2 := Nat.ne_of_lt (Nat.lt_of_lt_of_le uE.lt (Nat.le_of_eq g2.symm))
  have V2 : Arv Z h2 b2 k2 .byte (p2 - p1) [(.int (0 : Int32)), (.int (0 : Int32)), (.int (0 : Int32)), (.int (0 : Int32)), (.int (0 : Int32)), (.int (0 : Int32)), (.int (0 : Int32)), (.int (0 : Int32))] (.int (0 : Int32)) := (Arv.new A2 ol.2.1).pad (pad_rep [] (.int (0 : Int32)) 8)
  have g_b2 : n0 ≤ b2 := Nat.le_trans Z0 (Nat.le_of_eq g2.symm)
  have sz_b2 : h0.size ≤ b2 := Nat.le_trans (Keep.refl h0 []).1 (Nat.le_of_eq g2.symm)
  have K2 : Keep h0 h2 [] := (Keep.refl h0 []).ext E2
  have Z2 : n0 ≤ h2.size := Nat.le_trans Z0 E2.1
  have c4 := (uV.ext E2)
  obtain ⟨cl3, Ar3, q3, S3, Nn3, H3, G3⟩ := (id c4)
  obtain ⟨_, _, ⟨T5, L5, k5, n5⟩, -, X5, ⟨Lc5, hQ5, l5, y5, z5⟩, st5⟩ := Jvm.LawKit.callS X2 hx (y := (⟨"java/lang/Math", "min", "(II)I"⟩ : MethodName)) hown (mvT hZ (wd hw 72 rfl)) (mvT hZ (wd hw 73 rfl)) (mvT hZ (wd hw 7 rfl)) (mvT hZ (wd hw 74 rfl)) (by decide) (backOf (W := 4) (rmMin l Z a0 hw [] (zb - p1) (p2 - p1) h2 n0 Z2) hZ (wd hw 74 rfl) (wd hw 7 rfl) (by decide) (by decide)) (g := (mkF m 24 #[vr r0, vi p1, vi p2, vi (p2 - p1), vr b2] [(.int (p2 - p1)), (.int (zb - p1)), (.int (0 : Int32)), (.ref b2), (.int p1), (.ref r0)])) rfl (by rw [hml]; rfl) (argsL := [(.int (zb - p1)), (.int (p2 - p1))]) (rest := [(.int (0 : Int32)), (.ref b2), (.int p1), (.ref r0)]) (lenOf pd_3 rfl) rfl (by show 2 * 0 + _ ≤ _; exact Nat.le_of_eq rfl) (hb hby d10_24) (fun _ _ => ⟨rfl, e2, (by decide : 1 + 0 ≤ _), (by decide : 8 + 0 ≤ _)⟩)
  dsimp only [Pt.U, Pt.locs, Pt.cells, Pt.slots] at X5 l5 y5 z5 st5 hQ5
  subst l5 y5 z5
  obtain ⟨rfl, Nq5, eh5⟩ := hQ5
  have N5 := Fr.app N1 Nq5
  obtain ⟨T6, h6, L6, X6, e6, N6, Kq6, V6, st6⟩ := cpA X5 hx hZ hown (wd hw 75 rfl) (wd hw 78 rfl) (wd hw 76 rfl) (wd hw 77 rfl) eh5 (us := ((List.range ((p2 - p1)).toNatClampNeg).map fun i => List.getD vs ((p1).toNatClampNeg + i) dv)) c4 V2 (Or.inl ⟨rfl, rfl⟩) ol.1 (by decide) ol.2.1 ol.2.2.2.1 (Nat.le_of_eq (Nat.zero_add _)) rfl (Nat.le_trans (Nat.le_of_eq (Nat.zero_add _)) ol.2.2.1) N5 g_b2 (g := (mkF m 27 #[vr r0, vi p1, vi p2, vi (p2 - p1), vr b2] [(.int (p2 - p1)), (.int (0 : Int32)), (.ref b2), (.int p1), (.ref r0)])) rfl (by rw [hml]; rfl) rfl (hb hby d10_27) (by decide) (W := 0) (by show 2 * 0 + _ ≤ _; exact Nat.le_of_eq rfl) (by decide)
  have K6 : Keep h0 h6 [] := K2.trans Kq6 (allS (Or.inr sz_b2) all0)
  have Z6 : n0 ≤ h6.size := Nat.le_trans Z2 Kq6.1
  obtain ⟨fs, hr, hrun, hended, hW, hsame⟩ := X6.leave (v := some (.ref b2)) (fun h => by rw [Bd.returns] at h; cases h)
  refine ⟨_, _, pre0 _ ?_, hrun, hended, _, _, rfl, ?_, ⟨_, rfl⟩, hW, hsame.mono (by decide) (by decide)⟩
  · show SS p e below s₁ (mkF m 0 #[vr r0, vi p1, vi p2, uu, uu] []) _
    refine XS.iloadN X0.here hx rfl (hb hby d10_0) rfl ?_
    show SS p e below s₁ (mkF m 1 #[vr r0, vi p1, vi p2, uu, uu] [(.int p1)]) _
    refine XS.iloadN X0.here hx rfl (hb hby d10_1) rfl ?_
    show SS p e below s₁ (mkF m 2 #[vr r0, vi p1, vi p2, uu, uu] [(.int p2), (.int p1)]) _
    refine st1 _ ?_
    show SS p e below T1 (mkF m 5 #[vr r0, vi p1, vi p2, uu, uu] []) _
    refine XS.iloadN X1.here hx rfl (hb hby d10_5) rfl ?_
    show SS p e below T1 (mkF m 6 #[vr r0, vi p1, vi p2, uu, uu] [(.int p2)]) _
    refine XS.iloadN X1.here hx rfl (hb hby d10_6) rfl ?_
    show SS p e below T1 (mkF m 7 #[vr r0, vi p1, vi p2, uu, uu] [(.int p1), (.int p2)]) _
    refine XS.isub X1.here hx rfl (hb hby d10_7) rfl ?_
    show SS p e below T1 (mkF m 8 #[vr r0, vi p1, vi p2, uu, uu] [(.int (p2 - p1))]) _
    refine XS.istoreN X1.here hx rfl (hb hby d10_8) rfl (l' := #[vr r0, vi p1, vi p2, vi (p2 - p1), uu]) rfl ?_
    show SS p e below T1 (mkF m 9 #[vr r0, vi p1, vi p2, vi (p2 - p1), uu] []) _
    refine XS.iloadN X1.here hx rfl (hb hby d10_9) rfl ?_
    show SS p e below T1 (mkF m 10 #[vr r0, vi p1, vi p2, vi (p2 - p1), uu] [(.int (p2 - p1))]) _
    refine st2 _ ?_
    show SS p e below T2 (mkF m 12 #[vr r0, vi p1, vi p2, vi (p2 - p1), uu] [(.ref b2)]) _
    refine XS.astore X2.here hx rfl (hb hby d10_12) rfl rfl (l' := #[vr r0, vi p1, vi p2, vi (p2 - p1), vr b2]) rfl ?_
    show SS p e below T2 (mkF m 14 #[vr r0, vi p1, vi p2, vi (p2 - p1), vr b2] []) _
    refine XS.aloadN X2.here hx rfl (hb hby d10_14) rfl rfl ?_
    show SS p e below T2 (mkF m 15 #[vr r0, vi p1, vi p2, vi (p2 - p1), vr b2] [(.ref r0)]) _
    refine XS.iloadN X2.here hx rfl (hb hby d10_15) rfl ?_
    show SS p e below T2 (mkF m 16 #[vr r0, vi p1, vi p2, vi (p2 - p1), vr b2] [(.int p1), (.ref r0)]) _
    refine XS.aload X2.here hx rfl (hb hby d10_16) rfl rfl ?_
    show SS p e below T2 (mkF m 18 #[vr r0, vi p1, vi p2, vi (p2 - p1), vr b2] [(.ref b2), (.int p1), (.ref r0)]) _
    refine XS.iconst X2.here hx rfl (hb hby d10_18) ?_
    show SS p e below T2 (mkF m 19 #[vr r0, vi p1, vi p2, vi (p2 - p1), vr b2] [(.int (0 : Int32)), (.ref b2), (.int p1), (.ref r0)]) _
    refine XS.aloadN X2.here hx rfl (hb hby d10_19) rfl rfl ?_
    show SS p e below T2 (mkF m 20 #[vr r0, vi p1, vi p2, vi (p2 - p1), vr b2] [(.ref r0), (.int (0 : Int32)), (.ref b2), (.int p1), (.ref r0)]) _
    refine X2.arraylength hx (own_at e2 Ar3.1) (State.isArrayOf_alike hZ.alike Ar3.2.1) (g := (mkF m 20 #[vr r0, vi p1, vi p2, vi (p2 - p1), vr b2] [(.ref r0), (.int (0 : Int32)), (.ref b2), (.int p1), (.ref r0)])) rfl rfl (hb hby d10_20) _ ?_
    rw [len_of S3 Nn3]
    show SS p e below T2 (mkF m 21 #[vr r0, vi p1, vi p2, vi (p2 - p1), vr b2] [(.int zb), (.int (0 : Int32)), (.ref b2), (.int p1), (.ref r0)]) _
    refine XS.iloadN X2.here hx rfl (hb hby d10_21) rfl ?_
    show SS p e below T2 (mkF m 22 #[vr r0, vi p1, vi p2, vi (p2 - p1), vr b2] [(.int p1), (.int zb), (.int (0 : Int32)), (.ref b2), (.int p1), (.ref r0)]) _
    refine XS.isub X2.here hx rfl (hb hby d10_22) rfl ?_
    show SS p e below T2 (mkF m 23 #[vr r0, vi p1, vi p2, vi (p2 - p1), vr b2] [(.int (zb - p1)), (.int (0 : Int32)), (.ref b2), (.int p1), (.ref r0)]) _
    refine XS.iloadN X2.here hx rfl (hb hby d10_23) rfl ?_
    show SS p e below T2 (mkF m 24 #[vr r0, vi p1, vi p2, vi (p2 - p1), vr b2] [(.int (p2 - p1)), (.int (zb - p1)), (.int (0 : Int32)), (.ref b2), (.int p1), (.ref r0)]) _
    refine st5 _ ?_
    show SS p e below T5 (mkF m 27 #[vr r0, vi p1, vi p2, vi (p2 - p1), vr b2] [(.int (if (p2 - p1) < (zb - p1) then (p2 - p1) else (zb - p1))), (.int (0 : Int32)), (.ref b2), (.int p1), (.ref r0)]) _
    rw [ol.2.2.2.2.1]
    show SS p e below T5 (mkF m 27 #[vr r0, vi p1, vi p2, vi (p2 - p1), vr b2] [(.int (p2 - p1)), (.int (0 : Int32)), (.ref b2), (.int p1), (.ref r0)]) _
    refine st6 _ ?_
    show SS p e below T6 (mkF m 30 #[vr r0, vi p1, vi p2, vi (p2 - p1), vr b2] []) _
    refine XS.aload X6.here hx rfl (hb hby d10_30) rfl rfl ?_
    show SS p e below T6 (mkF m 32 #[vr r0, vi p1, vi p2, vi (p2 - p1), vr b2] [(.ref b2)]) _
    exact retOut X6 hx Bd.returns rfl (Or.inr (Or.inr (Or.inr (Or.inr ⟨rfl, rfl, rfl⟩)))) (hb hby d10_32) hr
  · show Q_rmCB Z r0 p1 p2 kb zb vs dv h0 n0 _ T6.heap _
    rw [e6]
    exact ⟨b2, rfl, N6, K6, sz_b2⟩
theorem ef_9 (m : MethodId) (x0 : Addr) (x1 : Int32) (x2 : Int32) : entryFrame m #[(.ref x0), (.int x1), (.int x2)] 3 = mkF m 0 #[vr x0, vi x1, vi x2] [] := by first | (simp [entryFrame, mkF, argsToLocals, Value.category]; done) | rfl
theorem d9_0 : decode jdk_65_method_132_code 0 = .ok (.iload_n 1, 1) := by decide +kernel
theorem d9_1 : decode jdk_65_method_132_code 1 = .ok (.ifCond .ne 9, 3) := by decide +kernel
theorem d9_4 : decode jdk_65_method_132_code 4 = .ok (.iload_n 2, 1) := by decide +kernel
theorem d9_5 : decode jdk_65_method_132_code 5 = .ok (.aload_n 0, 1) := by decide +kernel
theorem d9_6 : decode jdk_65_method_132_code 6 = .ok (.arraylength, 1) := by decide +kernel
theorem d9_7 : decode jdk_65_method_132_code 7 = .ok (.if_icmp .eq 10, 3) := by decide +kernel
theorem d9_17 : decode jdk_65_method_132_code 17 = .ok (.aload_n 0, 1) := by decide +kernel
theorem d9_18 : decode jdk_65_method_132_code 18 = .ok (.invokevirtual 310, 3) := by decide +kernel
theorem d9_21 : decode jdk_65_method_132_code 21 = .ok (.checkcast 311, 3) := by decide +kernel
theorem d9_24 : decode jdk_65_method_132_code 24 = .ok (.areturn, 1) := by decide +kernel
theorem d9_10 : decode jdk_65_method_132_code 10 = .ok (.aload_n 0, 1) := by decide +kernel
theorem d9_11 : decode jdk_65_method_132_code 11 = .ok (.iload_n 1, 1) := by decide +kernel
theorem d9_12 : decode jdk_65_method_132_code 12 = .ok (.iload_n 2, 1) := by decide +kernel
theorem d9_13 : decode jdk_65_method_132_code 13 = .ok (.invokestatic 339, 3) := by decide +kernel
theorem pd_4 : parseMethodDescriptor "([BII)[B" = some ⟨[(.array .byte), .int, .int], some (.array .byte)⟩ := by decide +kernel
theorem d9_16 : decode jdk_65_method_132_code 16 = .ok (.areturn, 1) := by decide +kernel
def Q_rmCR (Z : State) (r0 : Addr) (p1 : Int32) (p2 : Int32) (kb : ClassId) (zb : Int32) (vs : List Value) (dv : Value) (h0 : Heap) (n0 : Nat) (v : Option Value) (h : Heap) (L : List Loc) : Prop := ∃ (nb : Addr), (v = some (.ref nb) ∧ Fr n0 L ∧ Keep h0 h [] ∧ h0.size ≤ nb)
set_option maxRecDepth 65536 in
set_option maxHeartbeats 40000000 in
theorem rmCR (l : Launch) (Z : State) (a0 : Array Value) (hw : ∀ d ∈ tables_1, d.before a0 Z = true) (ws : List Jvm.Cond) (r0 : Addr) (p1 : Int32) (p2 : Int32) (kb : ClassId) (zb : Int32) (vs : List Value) (dv : Value) (h0 : Heap) (n0 : Nat) (Z0 : n0 ≤ h0.size) (uE : Exa Z h0 r0 "[B") (uV : Arv Z h0 r0 kb .byte zb vs dv) (u0 : 0 ≤ p1.toInt) (u1 : p1.toInt ≤ p2.toInt) (u2 : p2.toInt ≤ zb.toInt) (u3 : zb.toInt ≤ 8) :
    MetFree l (⟨"java/util/Arrays", "copyOfRange", "([BII)[B"⟩ : MethodName) (head1 (Jvm.Cond.code (⟨"java/util/Arrays", "copyOfRange", "([BII)[B"⟩ : MethodName) jdk_65_method_132_code 3 (some (.array .byte)) :: ws) ({ frames := 2, cells := 1, slots := 8, locals := 34 } : Room)) (fun a U => a = #[(.ref r0), (.int p1), (.int p2)] ∧ Z.Warmed39 U.vm ∧ U.heap = h0) (fun _ _ _ _ _ => True) (fun _ U o U' => ∃ v L, o = .returned v ∧ Q_rmCR Z r0 p1 p2 kb zb vs dv h0 n0 v U'.heap L ∧ FrameEnd U o U' L ({ frames := 2, cells := 1, slots := 8, locals := 34 } : Room).cells ({ frames := 2, cells := 1, slots := 8, locals := 34 } : Room).slots) := by
  refine MetFree.of_bodySF (plainFor_of_name pn_3) hisR ?_
  intro p e s m args below meth c s₁ Bd hml0 hP hK
  obtain ⟨rfl, hZ, hh⟩ := hP
  have hx := Bd.exec
  have hby := Bd.bytes
  have hml : c.maxLocals = 3 := hml0
  have hown : s.vm.findClass "java/util/Arrays" = some m.cls := findClass_of_methodNamed Bd.named
  have hnm := (name_of_methodNamed Bd.named Bd.method).1
  have X0 : Stand p l e ({ frames := 2, cells := 1, slots := 8, locals := 34 } : Room) s m #[(.ref r0), (.int p1), (.int p2)] below meth c s₁ [] 0 0 := Stand.of_body Bd
  have e0 : s₁.heap = h0 := by rw [← hh, Bd.state]; rfl
  have N0 := Fr.nil n0
  have pre0 : ∀ t, Steps p.tables e below (s₁.setTop (mkF m 0 #[vr r0, vi p1, vi p2] [])) t → Steps p.tables e below (s₁.setTop (entryFrame m #[(.ref r0), (.int p1), (.int p2)] 3)) t := fun t k => castTop (ef_9 m r0 p1 p2) k
  by_cases hc1 : p1 = (0 : Int32)
  · obtain ⟨cl1, Ar1, q1, S1, Nn1, H1, G1⟩ := (id uV)
    have sg2 : ∀ target, SS p e below s₁ (mkF m 7 #[vr r0, vi p1, vi p2] [(.int zb), (.int p2)]) target → SS p e below s₁ (mkF m 0 #[vr r0, vi p1, vi p2] []) target := by
      intro target kt
      show SS p e below s₁ (mkF m 0 #[vr r0, vi p1, vi p2] []) _
      refine XS.iloadN X0.here hx rfl (hb hby d9_0) rfl ?_
      show SS p e below s₁ (mkF m 1 #[vr r0, vi p1, vi p2] [(.int p1)]) _
      refine XS.ifNo X0.here hx rfl (hb hby d9_1) rfl ((if0 _ _).trans (teq (hc1 : p1 = (0 : Int32))).2) ?_
      show SS p e below s₁ (mkF m 4 #[vr r0, vi p1, vi p2] []) _
      refine XS.iloadN X0.here hx rfl (hb hby d9_4) rfl ?_
      show SS p e below s₁ (mkF m 5 #[vr r0, vi p1, vi p2] [(.int p2)]) _
      refine XS.aloadN X0.here hx rfl (hb hby d9_5) rfl rfl ?_
      show SS p e below s₁ (mkF m 6 #[vr r0, vi p1, vi p2] [(.ref r0), (.int p2)]) _
      refine X0.arraylength hx (own_at e0 Ar1.1) (State.isArrayOf_alike hZ.alike Ar1.2.1) (g := (mkF m 6 #[vr r0, vi p1, vi p2] [(.ref r0), (.int p2)])) rfl rfl (hb hby d9_6) _ ?_
      rw [len_of S1 Nn1]
      exact kt
    by_cases hc7 : p2 = zb
    · obtain ⟨T3, h3, X3, e3, E3, V3, A3, st3⟩ := cloneH X0 hx hZ hown (wd hw 58 rfl) (wd hw 59 rfl) (wd hw 63 rfl) (wd hw 61 rfl) (wd hw 62 rfl) (wd hw 64 rfl) e0 (Arv.arh uV) uE (g := (mkF m 18 #[vr r0, vi p1, vi p2] [(.ref r0)])) rfl (by rw [hml]; rfl) rfl (hb hby d9_18) (by decide) (W := 0) (cap := 8) (by show 2 * 0 + _ ≤ _; exact Nat.le_of_eq rfl) (by decide) (own_cap u0 u1 u2 u3) (by decide) (by decide)
      obtain ⟨b3, g3⟩ : ∃ z, z = h0.size := ⟨_, rfl⟩
      rw [← g3] at V3 A3 st3
      have ne_r0_b3 : r0 ≠ b3 := Nat.ne_of_lt (Nat.lt_of_lt_of_le uE.lt (Nat.le_of_eq g3.symm))
      have Va3 : Arv Z h3 b3 kb .byte zb vs dv := V3
      have g_b3 : n0 ≤ b3 := Nat.le_trans Z0 (Nat.le_of_eq g3.symm)
      have sz_b3 : h0.size ≤ b3 := Nat.le_trans (Keep.refl h0 []).1 (Nat.le_of_eq g3.symm)
      have K3 : Keep h0 h3 [] := (Keep.refl h0 []).ext E3
      have Z3 : n0 ≤ h3.size := Nat.le_trans Z0 E3.1
      obtain ⟨T4, X4, e4, st4⟩ := castY X3 hx hZ hown (wd hw 65 rfl) e3 (Ins.self A3) (g := (mkF m 21 #[vr r0, vi p1, vi p2] [(.ref b3)])) rfl rfl (hb hby d9_21)
      obtain ⟨fs, hr, hrun, hended, hW, hsame⟩ := X4.leave (v := some (.ref b3)) (fun h => by rw [Bd.returns] at h; cases h)
      refine ⟨_, _, pre0 _ ?_, hrun, hended, _, _, rfl, ?_, ⟨_, rfl⟩, hW, hsame.mono (by decide) (by decide)⟩
      · refine sg2 _ ?_
        show SS p e below s₁ (mkF m 7 #[vr r0, vi p1, vi p2] [(.int zb), (.int p2)]) _
        refine XS.icmpYes X0.here hx rfl (pc0 := 7) (pc' := 17) rfl (hb hby d9_7) rfl (teq (hc7 : p2 = zb)).1 (by decide) (by decide) ?_
        show SS p e below s₁ (mkF m 17 #[vr r0, vi p1, vi p2] []) _
        refine XS.aloadN X0.here hx rfl (hb hby d9_17) rfl rfl ?_
        show SS p e below s₁ (mkF m 18 #[vr r0, vi p1, vi p2] [(.ref r0)]) _
        refine st3 _ ?_
        show SS p e below T3 (mkF m 21 #[vr r0, vi p1, vi p2] [(.ref b3)]) _
        refine st4 _ ?_
        show SS p e below T4 (mkF m 24 #[vr r0, vi p1, vi p2] [(.ref b3)]) _
        exact retOut X4 hx Bd.returns rfl (Or.inr (Or.inr (Or.inr (Or.inr ⟨rfl, rfl, rfl⟩)))) (hb hby d9_24) hr
      · show Q_rmCR Z r0 p1 p2 kb zb vs dv h0 n0 _ T4.heap _
        rw [e4]
        exact ⟨b3, rfl, N0, K3, sz_b3⟩
    · obtain ⟨_, _, ⟨T5, L5, k5, n5⟩, -, X5, ⟨Lc5, hQ5, l5, y5, z5⟩, st5⟩ := Jvm.LawKit.callS X0 hx (y := (⟨"java/util/Arrays", "copyOfRangeByte", "([BII)[B"⟩ : MethodName)) hown (mvT hZ (wd hw 66 rfl)) (mvT hZ (wd hw 67 rfl)) (mvT hZ (wd hw 56 rfl)) (mvT hZ (wd hw 68 rfl)) (by decide) (backOf (W := 0) (rmCB l Z a0 hw [] r0 p1 p2 kb zb vs dv h0 n0 Z0 uE uV u0 u1 u2 u3) hZ (wd hw 68 rfl) (wd hw 56 rfl) (by decide) (by decide)) (g := (mkF m 13 #[vr r0, vi p1, vi p2] [(.int p2), (.int p1), (.ref r0)])) rfl (by rw [hml]; rfl) (argsL := [(.ref r0), (.int p1), (.int p2)]) (rest := []) (lenOf pd_4 rfl) rfl (by show 2 * 0 + _ ≤ _; exact Nat.le_of_eq rfl) (hb hby d9_13) (fun _ _ => ⟨rfl, e0, (by decide : 0 + 1 ≤ _), (by decide : 0 + 8 ≤ _)⟩)
      dsimp only [Pt.U, Pt.locs, Pt.cells, Pt.slots] at X5 l5 y5 z5 st5 hQ5
      subst l5 y5 z5
      obtain ⟨nb_5, rfl, Nq5, Kq5, f5_0⟩ := hQ5
      have N5 := Fr.app N0 Nq5
      have ne_r0_nb_5 : r0 ≠ nb_5 := Nat.ne_of_lt (Nat.lt_of_lt_of_le uE.lt f5_0)
      have g_nb_5 : n0 ≤ nb_5 := Nat.le_trans Z0 f5_0
      have sz_nb_5 : h0.size ≤ nb_5 := Nat.le_trans (Keep.refl h0 []).1 f5_0
      have K5 : Keep h0 T5.heap [] := (Keep.refl h0 []).trans Kq5 all0
      have Z5 : n0 ≤ T5.heap.size := Nat.le_trans Z0 Kq5.1
      obtain ⟨fs, hr, hrun, hended, hW, hsame⟩ := X5.leave (v := some (.ref nb_5)) (fun h => by rw [Bd.returns] at h; cases h)
      refine ⟨_, _, pre0 _ ?_, hrun, hended, _, _, rfl, ?_, ⟨_, rfl⟩, hW, hsame.mono (by decide) (by decide)⟩
      · refine sg2 _ ?_
        show SS p e below s₁ (mkF m 7 #[vr r0, vi p1, vi p2] [(.int zb), (.int p2)]) _
        refine XS.icmpNo X0.here hx rfl (hb hby d9_7) rfl (feq (hc7 : ¬ (p2 = zb))).1 ?_
        show SS p e below s₁ (mkF m 10 #[vr r0, vi p1, vi p2] []) _
        refine XS.aloadN X0.here hx rfl (hb hby d9_10) rfl rfl ?_
        show SS p e below s₁ (mkF m 11 #[vr r0, vi p1, vi p2] [(.ref r0)]) _
        refine XS.iloadN X0.here hx rfl (hb hby d9_11) rfl ?_
        show SS p e below s₁ (mkF m 12 #[vr r0, vi p1, vi p2] [(.int p1), (.ref r0)]) _
        refine XS.iloadN X0.here hx rfl (hb hby d9_12) rfl ?_
        show SS p e below s₁ (mkF m 13 #[vr r0, vi p1, vi p2] [(.int p2), (.int p1), (.ref r0)]) _
        refine st5 _ ?_
        show SS p e below T5 (mkF m 16 #[vr r0, vi p1, vi p2] [(.ref nb_5)]) _
        exact retOut X5 hx Bd.returns rfl (Or.inr (Or.inr (Or.inr (Or.inr ⟨rfl, rfl, rfl⟩)))) (hb hby d9_16) hr
      · show Q_rmCR Z r0 p1 p2 kb zb vs dv h0 n0 _ T5.heap _
        exact ⟨nb_5, rfl, N5, K5, sz_nb_5⟩
  · obtain ⟨_, _, ⟨T6, L6, k6, n6⟩, -, X6, ⟨Lc6, hQ6, l6, y6, z6⟩, st6⟩ := Jvm.LawKit.callS X0 hx (y := (⟨"java/util/Arrays", "copyOfRangeByte", "([BII)[B"⟩ : MethodName)) hown (mvT hZ (wd hw 66 rfl)) (mvT hZ (wd hw 67 rfl)) (mvT hZ (wd hw 56 rfl)) (mvT hZ (wd hw 68 rfl)) (by decide) (backOf (W := 0) (rmCB l Z a0 hw [] r0 p1 p2 kb zb vs dv h0 n0 Z0 uE uV u0 u1 u2 u3) hZ (wd hw 68 rfl) (wd hw 56 rfl) (by decide) (by decide)) (g := (mkF m 13 #[vr r0, vi p1, vi p2] [(.int p2), (.int p1), (.ref r0)])) rfl (by rw [hml]; rfl) (argsL := [(.ref r0), (.int p1), (.int p2)]) (rest := []) (lenOf pd_4 rfl) rfl (by show 2 * 0 + _ ≤ _; exact Nat.le_of_eq rfl) (hb hby d9_13) (fun _ _ => ⟨rfl, e0, (by decide : 0 + 1 ≤ _), (by decide : 0 + 8 ≤ _)⟩)
    dsimp only [Pt.U, Pt.locs, Pt.cells, Pt.slots] at X6 l6 y6 z6 st6 hQ6
    subst l6 y6 z6
    obtain ⟨nb_6, rfl, Nq6, Kq6, f6_0⟩ := hQ6
    have N6 := Fr.app N0 Nq6
    have ne_r0_nb_6 : r0 ≠ nb_6 := Nat.ne_of_lt (Nat.lt_of_lt_of_le uE.lt f6_0)
    have g_nb_6 : n0 ≤ nb_6 := Nat.le_trans Z0 f6_0
    have sz_nb_6 : h0.size ≤ nb_6 := Nat.le_trans (Keep.refl h0 []).1 f6_0
    have K6 : Keep h0 T6.heap [] := (Keep.refl h0 []).trans Kq6 all0
    have Z6 : n0 ≤ T6.heap.size := Nat.le_trans Z0 Kq6.1
    obtain ⟨fs, hr, hrun, hended, hW, hsame⟩ := X6.leave (v := some (.ref nb_6)) (fun h => by rw [Bd.returns] at h; cases h)
    refine ⟨_, _, pre0 _ ?_, hrun, hended, _, _, rfl, ?_, ⟨_, rfl⟩, hW, hsame.mono (by decide) (by decide)⟩
    · show SS p e below s₁ (mkF m 0 #[vr r0, vi p1, vi p2] []) _
      refine XS.iloadN X0.here hx rfl (hb hby d9_0) rfl ?_
      show SS p e below s₁ (mkF m 1 #[vr r0, vi p1, vi p2] [(.int p1)]) _
      refine XS.ifYes X0.here hx rfl (pc0 := 1) (pc' := 10) rfl (hb hby d9_1) rfl ((if0 _ _).trans (feq (hc1 : ¬ (p1 = (0 : Int32)))).2) (by decide) (by decide) ?_
      show SS p e below s₁ (mkF m 10 #[vr r0, vi p1, vi p2] []) _
      refine XS.aloadN X0.here hx rfl (hb hby d9_10) rfl rfl ?_
      show SS p e below s₁ (mkF m 11 #[vr r0, vi p1, vi p2] [(.ref r0)]) _
      refine XS.iloadN X0.here hx rfl (hb hby d9_11) rfl ?_
      show SS p e below s₁ (mkF m 12 #[vr r0, vi p1, vi p2] [(.int p1), (.ref r0)]) _
      refine XS.iloadN X0.here hx rfl (hb hby d9_12) rfl ?_
      show SS p e below s₁ (mkF m 13 #[vr r0, vi p1, vi p2] [(.int p2), (.int p1), (.ref r0)]) _
      refine st6 _ ?_
      show SS p e below T6 (mkF m 16 #[vr r0, vi p1, vi p2] [(.ref nb_6)]) _
      exact retOut X6 hx Bd.returns rfl (Or.inr (Or.inr (Or.inr (Or.inr ⟨rfl, rfl, rfl⟩)))) (hb hby d9_16) hr
    · show Q_rmCR Z r0 p1 p2 kb zb vs dv h0 n0 _ T6.heap _
      exact ⟨nb_6, rfl, N6, K6, sz_nb_6⟩
theorem ef_10 (m : MethodId) (x0 : Addr) (x1 : Int32) (x2 : Addr) : entryFrame m #[(.ref x0), (.int x1), (.ref x2)] 4 = mkF m 0 #[vr x0, vi x1, vr x2, uu] [] := by first | (simp [entryFrame, mkF, argsToLocals, Value.category]; done) | rfl
theorem d7_0 : decode prog_14_method_17_code 0 = .ok (.aload_n 0, 1) := by decide +kernel
theorem d7_1 : decode prog_14_method_17_code 1 = .ok (.iload_n 1, 1) := by decide +kernel
theorem d7_2 : decode prog_14_method_17_code 2 = .ok (.i2l, 1) := by decide +kernel
theorem d7_3 : decode prog_14_method_17_code 3 = .ok (.aload_n 2, 1) := by decide +kernel
theorem d7_4 : decode prog_14_method_17_code 4 = .ok (.invokevirtual 82, 3) := by decide +kernel
theorem pd_5 : parseMethodDescriptor "(JLjava/lang/String;)V" = some ⟨[.long, (.object "java/lang/String")], none⟩ := by decide +kernel
theorem d7_7 : decode prog_14_method_17_code 7 = .ok (.aload_n 0, 1) := by decide +kernel
theorem d7_8 : decode prog_14_method_17_code 8 = .ok (.getfield 24, 3) := by decide +kernel
theorem d7_11 : decode prog_14_method_17_code 11 = .ok (.aload_n 0, 1) := by decide +kernel
theorem d7_12 : decode prog_14_method_17_code 12 = .ok (.getfield 34, 3) := by decide +kernel
theorem d7_15 : decode prog_14_method_17_code 15 = .ok (.aload_n 0, 1) := by decide +kernel
theorem d7_16 : decode prog_14_method_17_code 16 = .ok (.getfield 34, 3) := by decide +kernel
theorem d7_19 : decode prog_14_method_17_code 19 = .ok (.iload_n 1, 1) := by decide +kernel
theorem d7_20 : decode prog_14_method_17_code 20 = .ok (.iadd, 1) := by decide +kernel
theorem d7_21 : decode prog_14_method_17_code 21 = .ok (.invokestatic 92, 3) := by decide +kernel
theorem d7_24 : decode prog_14_method_17_code 24 = .ok (.astore_n 3, 1) := by decide +kernel
theorem d7_25 : decode prog_14_method_17_code 25 = .ok (.aload_n 0, 1) := by decide +kernel
theorem d7_26 : decode prog_14_method_17_code 26 = .ok (.dup, 1) := by decide +kernel
theorem d7_27 : decode prog_14_method_17_code 27 = .ok (.getfield 34, 3) := by decide +kernel
theorem d7_30 : decode prog_14_method_17_code 30 = .ok (.iload_n 1, 1) := by decide +kernel
theorem d7_31 : decode prog_14_method_17_code 31 = .ok (.iadd, 1) := by decide +kernel
theorem d7_32 : decode prog_14_method_17_code 32 = .ok (.putfield 34, 3) := by decide +kernel
theorem d7_35 : decode prog_14_method_17_code 35 = .ok (.aload_n 3, 1) := by decide +kernel
theorem d7_36 : decode prog_14_method_17_code 36 = .ok (.areturn, 1) := by decide +kernel
def Q_rmB (Z : State) (r0 : Addr) (p1 : Int32) (r2 : Addr) (rb : Addr) (ps : Int32) (kb : ClassId) (zb : Int32) (vs : List Value) (dv : Value) (h0 : Heap) (n0 : Nat) (v : Option Value) (h : Heap) (L : List Loc) : Prop := ∃ (nb : Addr), (v = some (.ref nb) ∧ Fr n0 L ∧ Keep h0 h [r0] ∧ Exa Z h r0 "com/example/wireform/wireform/amf3/AmfInput" ∧ Fld Z h r0 "com/example/wireform/wireform/amf3/AmfInput" "bytes" "[B" (.ref rb) ∧ Fld Z h r0 "com/example/wireform/wireform/amf3/AmfInput" "position" "I" (.int (ps + p1)))
set_option maxRecDepth 65536 in
set_option maxHeartbeats 40000000 in
theorem rmB (l : Launch) (Z : State) (a0 : Array Value) (hw : ∀ d ∈ tables_1, d.before a0 Z = true) (ws : List Jvm.Cond) (r0 : Addr) (p1 : Int32) (r2 : Addr) (rb : Addr) (ps : Int32) (kb : ClassId) (zb : Int32) (vs : List Value) (dv : Value) (h0 : Heap) (n0 : Nat) (Z0 : n0 ≤ h0.size) (uE : Exa Z h0 r0 "com/example/wireform/wireform/amf3/AmfInput") (uEb : Exa Z h0 rb "[B") (ub : Fld Z h0 r0 "com/example/wireform/wireform/amf3/AmfInput" "bytes" "[B" (.ref rb)) (up : Fld Z h0 r0 "com/example/wireform/wireform/amf3/AmfInput" "position" "I" (.int ps)) (uV : Arv Z h0 rb kb .byte zb vs dv) (ug : n0 ≤ r0) (u0 : 0 ≤ ps.toInt) (u1 : 0 ≤ p1.toInt) (u2 : ps.toInt + p1.toInt ≤ zb.toInt) (u3 : zb.toInt ≤ 8) :
    MetFree l (⟨"com/example/wireform/wireform/amf3/AmfInput", "readBytes", "(ILjava/lang/String;)[B"⟩ : MethodName) (head1 (Jvm.Cond.code (⟨"com/example/wireform/wireform/amf3/AmfInput", "readBytes", "(ILjava/lang/String;)[B"⟩ : MethodName) prog_14_method_17_code 4 (some (.array .byte)) :: ws) ({ frames := 3, cells := 1, slots := 8, locals := 48 } : Room)) (fun a U => a = #[(.ref r0), (.int p1), (.ref r2)] ∧ Z.Warmed39 U.vm ∧ U.heap = h0) (fun _ _ _ _ _ => True) (fun _ U o U' => ∃ v L, o = .returned v ∧ Q_rmB Z r0 p1 r2 rb ps kb zb vs dv h0 n0 v U'.heap L ∧ FrameEnd U o U' L ({ frames := 3, cells := 1, slots := 8, locals := 48 } : Room).cells ({ frames := 3, cells := 1, slots := 8, locals := 48 } : Room).slots) := by
  refine MetFree.of_bodySF (plainFor_of_name pn_2) hisR ?_
  intro p e s m args below meth c s₁ Bd hml0 hP hK
  obtain ⟨rfl, hZ, hh⟩ := hP
  have hx := Bd.exec
  have hby := Bd.bytes
  have hml : c.maxLocals = 4 := hml0
  have hown : s.vm.findClass "com/example/wireform/wireform/amf3/AmfInput" = some m.cls := findClass_of_methodNamed Bd.named
  have hnm := (name_of_methodNamed Bd.named Bd.method).1
  have X0 : Stand p l e ({ frames := 3, cells := 1, slots := 8, locals := 48 } : Room) s m #[(.ref r0), (.int p1), (.ref r2)] below meth c s₁ [] 0 0 := Stand.of_body Bd
  have e0 : s₁.heap = h0 := by rw [← hh, Bd.state]; rfl
  have N0 := Fr.nil n0
  have pre0 : ∀ t, Steps p.tables e below (s₁.setTop (mkF m 0 #[vr r0, vi p1, vr r2, uu] [])) t → Steps p.tables e below (s₁.setTop (entryFrame m #[(.ref r0), (.int p1), (.ref r2)] 4)) t := fun t k => castTop (ef_10 m r0 p1 r2) k
  have ob := own_rb u0 u1 u2 u3
  obtain ⟨cq1, kq1, q1a, q1b, q1c⟩ := isOf hZ e0 uE
  obtain ⟨_, _, ⟨T1, L1, k1, n1⟩, -, X1, ⟨Lc1, hQ1, l1, y1, z1⟩, st1⟩ := X0.virtualBack hx (y := (⟨"com/example/wireform/wireform/amf3/AmfInput", "require", "(JLjava/lang/String;)V"⟩ : MethodName)) (z := (⟨"com/example/wireform/wireform/amf3/AmfInput", "require", "(JLjava/lang/String;)V"⟩ : MethodName)) hown (mvT hZ (wd hw 49 rfl)) (mvT hZ (wd hw 50 rfl)) (notFace_of_selects (args := #[]) (mvT hZ (wd hw 52 rfl))) (mvT hZ (wd hw 52 rfl)) (mvT hZ (wd hw 51 rfl)) (by decide) (backOf (W := 0) (rmQ l Z a0 hw [] r0 (p1.toInt64) r2 rb ps kb zb vs dv h0 n0 Z0 ub up uV ob.1) hZ (wd hw 53 rfl) (wd hw 4 rfl) (by decide) (by decide)) q1a q1c (g := (mkF m 4 #[vr r0, vi p1, vr r2, uu] [(.ref r2), (.long (p1.toInt64)), (.ref r0)])) rfl (by rw [hml]; rfl) (Steps.refl _) (argsL := [(.long (p1.toInt64)), (.ref r2)]) (rest := []) (lenOf pd_5 rfl) rfl (by show 2 * 0 + _ ≤ _; exact Nat.le_of_eq rfl) (hb hby d7_4) (fun _ _ => ⟨rfl, e0, (by decide : 0 + 0 ≤ _), (by decide : 0 + 0 ≤ _)⟩)
  dsimp only [Pt.U, Pt.locs, Pt.cells, Pt.slots] at X1 l1 y1 z1 st1 hQ1
  subst l1 y1 z1
  obtain ⟨rfl, Nq1, eh1⟩ := hQ1
  have N1 := Fr.app N0 Nq1
  obtain ⟨T2, X2, e2, st2⟩ := getF X1 hx hZ hown (host := "") (Or.inl (wd hw 28 rfl)) Via.refl eh1 ub (g := (mkF m 8 #[vr r0, vi p1, vr r2, uu] [(.ref r0)])) rfl rfl (hb hby d7_8)
  obtain ⟨T3, X3, e3, st3⟩ := getF X2 hx hZ hown (host := "") (Or.inl (wd hw 41 rfl)) Via.refl e2 up (g := (mkF m 12 #[vr r0, vi p1, vr r2, uu] [(.ref r0), (.ref rb)])) rfl rfl (hb hby d7_12)
  obtain ⟨T4, X4, e4, st4⟩ := getF X3 hx hZ hown (host := "") (Or.inl (wd hw 41 rfl)) Via.refl e3 up (g := (mkF m 16 #[vr r0, vi p1, vr r2, uu] [(.ref r0), (.int ps), (.ref rb)])) rfl rfl (hb hby d7_16)
  obtain ⟨_, _, ⟨T5, L5, k5, n5⟩, -, X5, ⟨Lc5, hQ5, l5, y5, z5⟩, st5⟩ := Jvm.LawKit.callS X4 hx (y := (⟨"java/util/Arrays", "copyOfRange", "([BII)[B"⟩ : MethodName)) hown (mvT hZ (wd hw 54 rfl)) (mvT hZ (wd hw 55 rfl)) (mvT hZ (wd hw 56 rfl)) (mvT hZ (wd hw 57 rfl)) (by decide) (backOf (W := 0) (rmCR l Z a0 hw [] rb ps (ps + p1) kb zb vs dv h0 n0 Z0 uEb uV u0 ob.2.1 ob.2.2 u3) hZ (wd hw 57 rfl) (wd hw 56 rfl) (by decide) (by decide)) (g := (mkF m 21 #[vr r0, vi p1, vr r2, uu] [(.int (ps + p1)), (.int ps), (.ref rb)])) rfl (by rw [hml]; rfl) (argsL := [(.ref rb), (.int ps), (.int (ps + p1))]) (rest := []) (lenOf pd_4 rfl) rfl (by show 2 * 0 + _ ≤ _; exact Nat.le_of_eq rfl) (hb hby d7_21) (fun _ _ => ⟨rfl, e4, (by decide : 0 + 1 ≤ _), (by decide : 0 + 8 ≤ _)⟩)
  dsimp only [Pt.U, Pt.locs, Pt.cells, Pt.slots] at X5 l5 y5 z5 st5 hQ5
  subst l5 y5 z5
  obtain ⟨nb_5, rfl, Nq5, Kq5, f5_0⟩ := hQ5
  have N5 := Fr.app N1 Nq5
  have ne_r0_nb_5 : r0 ≠ nb_5 := Nat.ne_of_lt (Nat.lt_of_lt_of_le uE.lt f5_0)
  have ne_rb_nb_5 : rb ≠ nb_5 := Nat.ne_of_lt (Nat.lt_of_lt_of_le uEb.lt f5_0)
  have g_nb_5 : n0 ≤ nb_5 := Nat.le_trans Z0 f5_0
  have sz_nb_5 : h0.size ≤ nb_5 := Nat.le_trans (Keep.refl h0 [r0]).1 f5_0
  have K5 : Keep h0 T5.heap [r0] := (Keep.refl h0 [r0]).trans Kq5 all0
  have Z5 : n0 ≤ T5.heap.size := Nat.le_trans Z0 Kq5.1
  have c7 := (up.keep Kq5 nin0)
  obtain ⟨T6, X6, e6, st6⟩ := getF X5 hx hZ hown (host := "") (Or.inl (wd hw 41 rfl)) Via.refl rfl c7 (g := (mkF m 27 #[vr r0, vi p1, vr r2, vr nb_5] [(.ref r0), (.ref r0)])) rfl rfl (hb hby d7_27)
  have c9 := (uE.keep Kq5)
  obtain ⟨T8, h8, X8, e8, W8, st8⟩ := putF X6 hx hZ hown (host := "") (Or.inl (wd hw 41 rfl)) Via.refl e6 c7 c9 (Or.inl (wd hw 42 rfl)) (wd hw 3 rfl) (ty := .int) (by decide) rfl rfl (g := (mkF m 32 #[vr r0, vi p1, vr r2, vr nb_5] [(.int (ps + p1)), (.ref r0)])) rfl rfl (hb hby d7_32)
  have Fw8 := c7.same W8
  have N8 := Fr.snoc X8 N5 ug
  have K8 : Keep h0 h8 [r0] := K5.wr W8 (Or.inl (List.mem_of_getElem? (i := 0) rfl))
  have Z8 : n0 ≤ h8.size := by rw [W8.size]; exact Z5
  have c10 := (c9.wr W8)
  have c11 := ((ub.keep Kq5 nin0).other W8 (Or.inr (slot_ne (Or.inr (wd hw 29 rfl)) (Or.inl (wd hw 42 rfl)) (by decide) (t := (.array .byte)) (t' := .int) (by decide) (by decide))))
  obtain ⟨fs, hr, hrun, hended, hW, hsame⟩ := X8.leave (v := some (.ref nb_5)) (fun h => by rw [Bd.returns] at h; cases h)
  refine ⟨_, _, pre0 _ ?_, hrun, hended, _, _, rfl, ?_, ⟨_, rfl⟩, hW, hsame.mono (by decide) (by decide)⟩
  · show SS p e below s₁ (mkF m 0 #[vr r0, vi p1, vr r2, uu] []) _
    refine XS.aloadN X0.here hx rfl (hb hby d7_0) rfl rfl ?_
    show SS p e below s₁ (mkF m 1 #[vr r0, vi p1, vr r2, uu] [(.ref r0)]) _
    refine XS.iloadN X0.here hx rfl (hb hby d7_1) rfl ?_
    show SS p e below s₁ (mkF m 2 #[vr r0, vi p1, vr r2, uu] [(.int p1), (.ref r0)]) _
    refine XS.i2l X0.here hx rfl (hb hby d7_2) rfl ?_
    show SS p e below s₁ (mkF m 3 #[vr r0, vi p1, vr r2, uu] [(.long (p1.toInt64)), (.ref r0)]) _
    refine XS.aloadN X0.here hx rfl (hb hby d7_3) rfl rfl ?_
    show SS p e below s₁ (mkF m 4 #[vr r0, vi p1, vr r2, uu] [(.ref r2), (.long (p1.toInt64)), (.ref r0)]) _
    refine st1.trans ?_
    show SS p e below T1 (mkF m 7 #[vr r0, vi p1, vr r2, uu] []) _
    refine XS.aloadN X1.here hx rfl (hb hby d7_7) rfl rfl ?_
    show SS p e below T1 (mkF m 8 #[vr r0, vi p1, vr r2, uu] [(.ref r0)]) _
    refine st2 _ ?_
    show SS p e below T2 (mkF m 11 #[vr r0, vi p1, vr r2, uu] [(.ref rb)]) _
    refine XS.aloadN X2.here hx rfl (hb hby d7_11) rfl rfl ?_
    show SS p e below T2 (mkF m 12 #[vr r0, vi p1, vr r2, uu] [(.ref r0), (.ref rb)]) _
    refine st3 _ ?_
    show SS p e below T3 (mkF m 15 #[vr r0, vi p1, vr r2, uu] [(.int ps), (.ref rb)]) _
    refine XS.aloadN X3.here hx rfl (hb hby d7_15) rfl rfl ?_
    show SS p e below T3 (mkF m 16 #[vr r0, vi p1, vr r2, uu] [(.ref r0), (.int ps), (.ref rb)]) _
    refine st4 _ ?_
    show SS p e below T4 (mkF m 19 #[vr r0, vi p1, vr r2, uu] [(.int ps), (.int ps), (.ref rb)]) _
    refine XS.iloadN X4.here hx rfl (hb hby d7_19) rfl ?_
    show SS p e below T4 (mkF m 20 #[vr r0, vi p1, vr r2, uu] [(.int p1), (.int ps), (.int ps), (.ref rb)]) _
    refine XS.iadd X4.here hx rfl (hb hby d7_20) rfl ?_
    show SS p e below T4 (mkF m 21 #[vr r0, vi p1, vr r2, uu] [(.int (ps + p1)), (.int ps), (.ref rb)]) _
    refine st5 _ ?_
    show SS p e below T5 (mkF m 24 #[vr r0, vi p1, vr r2, uu] [(.ref nb_5)]) _
    refine XS.astoreN X5.here hx rfl (hb hby d7_24) rfl rfl (l' := #[vr r0, vi p1, vr r2, vr nb_5]) rfl ?_
    show SS p e below T5 (mkF m 25 #[vr r0, vi p1, vr r2, vr nb_5] []) _
    refine XS.aloadN X5.here hx rfl (hb hby d7_25) rfl rfl ?_
    show SS p e below T5 (mkF m 26 #[vr r0, vi p1, vr r2, vr nb_5] [(.ref r0)]) _
    refine XS.dup X5.here hx rfl (hb hby d7_26) rfl rfl ?_
    show SS p e below T5 (mkF m 27 #[vr r0, vi p1, vr r2, vr nb_5] [(.ref r0), (.ref r0)]) _
    refine st6 _ ?_
    show SS p e below T6 (mkF m 30 #[vr r0, vi p1, vr r2, vr nb_5] [(.int ps), (.ref r0)]) _
    refine XS.iloadN X6.here hx rfl (hb hby d7_30) rfl ?_
    show SS p e below T6 (mkF m 31 #[vr r0, vi p1, vr r2, vr nb_5] [(.int p1), (.int ps), (.ref r0)]) _
    refine XS.iadd X6.here hx rfl (hb hby d7_31) rfl ?_
    show SS p e below T6 (mkF m 32 #[vr r0, vi p1, vr r2, vr nb_5] [(.int (ps + p1)), (.ref r0)]) _
    refine st8 _ ?_
    show SS p e below T8 (mkF m 35 #[vr r0, vi p1, vr r2, vr nb_5] []) _
    refine XS.aloadN X8.here hx rfl (hb hby d7_35) rfl rfl ?_
    show SS p e below T8 (mkF m 36 #[vr r0, vi p1, vr r2, vr nb_5] [(.ref nb_5)]) _
    exact retOut X8 hx Bd.returns rfl (Or.inr (Or.inr (Or.inr (Or.inr ⟨rfl, rfl, rfl⟩)))) (hb hby d7_36) hr
  · show Q_rmB Z r0 p1 r2 rb ps kb zb vs dv h0 n0 _ T8.heap _
    rw [e8]
    exact ⟨nb_5, rfl, N8, K8, c10, c11, Fw8⟩
theorem ef_11 (m : MethodId) (x0 : Addr) (x1 : Addr) : entryFrame m #[(.ref x0), (.ref x1)] 2 = mkF m 0 #[vr x0, vr x1] [] := by first | (simp [entryFrame, mkF, argsToLocals, Value.category]; done) | rfl
theorem d13_0 : decode prog_14_method_13_code 0 = .ok (.aload_n 0, 1) := by decide +kernel
theorem d13_1 : decode prog_14_method_13_code 1 = .ok (.invokevirtual 66, 3) := by decide +kernel
theorem pd_6 : parseMethodDescriptor "()Z" = some ⟨[], some .boolean⟩ := by decide +kernel
theorem d13_4 : decode prog_14_method_13_code 4 = .ok (.ifCond .eq 14, 3) := by decide +kernel
theorem d13_18 : decode prog_14_method_13_code 18 = .ok (.aload_n 0, 1) := by decide +kernel
theorem d13_19 : decode prog_14_method_13_code 19 = .ok (.getfield 24, 3) := by decide +kernel
theorem d13_22 : decode prog_14_method_13_code 22 = .ok (.aload_n 0, 1) := by decide +kernel
theorem d13_23 : decode prog_14_method_13_code 23 = .ok (.dup, 1) := by decide +kernel
theorem d13_24 : decode prog_14_method_13_code 24 = .ok (.getfield 34, 3) := by decide +kernel
theorem d13_27 : decode prog_14_method_13_code 27 = .ok (.dup_x1, 1) := by decide +kernel
theorem d13_28 : decode prog_14_method_13_code 28 = .ok (.iconst 1, 1) := by decide +kernel
theorem d13_29 : decode prog_14_method_13_code 29 = .ok (.iadd, 1) := by decide +kernel
theorem d13_30 : decode prog_14_method_13_code 30 = .ok (.putfield 34, 3) := by decide +kernel
theorem d13_33 : decode prog_14_method_13_code 33 = .ok (.baload, 1) := by decide +kernel
theorem d13_34 : decode prog_14_method_13_code 34 = .ok (.sipush 255, 3) := by decide +kernel
theorem d13_37 : decode prog_14_method_13_code 37 = .ok (.iand, 1) := by decide +kernel
theorem d13_38 : decode prog_14_method_13_code 38 = .ok (.ireturn, 1) := by decide +kernel
def Q_rmb (Z : State) (r0 : Addr) (r1 : Addr) (rb : Addr) (ps : Int32) (kb : ClassId) (zb : Int32) (vs : List Value) (dv : Value) (xv : Int32) (h0 : Heap) (n0 : Nat) (v : Option Value) (h : Heap) (L : List Loc) : Prop := (v = some (.int (xv &&& (255 : Int32))) ∧ Fr n0 L ∧ Keep h0 h [r0] ∧ Exa Z h r0 "com/example/wireform/wireform/amf3/AmfInput" ∧ Fld Z h r0 "com/example/wireform/wireform/amf3/AmfInput" "bytes" "[B" (.ref rb) ∧ Fld Z h r0 "com/example/wireform/wireform/amf3/AmfInput" "position" "I" (.int (ps + (1 : Int32))))
set_option maxRecDepth 65536 in
set_option maxHeartbeats 40000000 in
theorem rmb (l : Launch) (Z : State) (a0 : Array Value) (hw : ∀ d ∈ tables_1, d.before a0 Z = true) (ws : List Jvm.Cond) (r0 : Addr) (r1 : Addr) (rb : Addr) (ps : Int32) (kb : ClassId) (zb : Int32) (vs : List Value) (dv : Value) (xv : Int32) (h0 : Heap) (n0 : Nat) (Z0 : n0 ≤ h0.size) (uE : Exa Z h0 r0 "com/example/wireform/wireform/amf3/AmfInput") (ub : Fld Z h0 r0 "com/example/wireform/wireform/amf3/AmfInput" "bytes" "[B" (.ref rb)) (up : Fld Z h0 r0 "com/example/wireform/wireform/amf3/AmfInput" "position" "I" (.int ps)) (uV : Arv Z h0 rb kb .byte zb vs dv) (ug : n0 ≤ r0) (u1 : (if ps = zb then (1 : Int32) else (0 : Int32)) = (0 : Int32)) (ui : ¬ ps < 0 ∧ ps < zb) (ua : vs.getD (ps).toNatClampNeg dv = (.int xv)) :
    MetFree l (⟨"com/example/wireform/wireform/amf3/AmfInput", "readByte", "(Ljava/lang/String;)I"⟩ : MethodName) (head1 (Jvm.Cond.code (⟨"com/example/wireform/wireform/amf3/AmfInput", "readByte", "(Ljava/lang/String;)I"⟩ : MethodName) prog_14_method_13_code 2 (some .int) :: ws) ({ frames := 1, cells := 0, slots := 0, locals := 12 } : Room)) (fun a U => a = #[(.ref r0), (.ref r1)] ∧ Z.Warmed39 U.vm ∧ U.heap = h0) (fun _ _ _ _ _ => True) (fun _ U o U' => ∃ v L, o = .returned v ∧ Q_rmb Z r0 r1 rb ps kb zb vs dv xv h0 n0 v U'.heap L ∧ FrameEnd U o U' L ({ frames := 1, cells := 0, slots := 0, locals := 12 } : Room).cells ({ frames := 1, cells := 0, slots := 0, locals := 12 } : Room).slots) := by
  refine MetFree.of_bodySF (plainFor_of_name pn_2) hisR ?_
  intro p e s m args below meth c s₁ Bd hml0 hP hK
  obtain ⟨rfl, hZ, hh⟩ := hP
  have hx := Bd.exec
  have hby := Bd.bytes
  have hml : c.maxLocals = 2 := hml0
  have hown : s.vm.findClass "com/example/wireform/wireform/amf3/AmfInput" = some m.cls := findClass_of_methodNamed Bd.named
  have hnm := (name_of_methodNamed Bd.named Bd.method).1
  have X0 : Stand p l e ({ frames := 1, cells := 0, slots := 0, locals := 12 } : Room) s m #[(.ref r0), (.ref r1)] below meth c s₁ [] 0 0 := Stand.of_body Bd
  have e0 : s₁.heap = h0 := by rw [← hh, Bd.state]; rfl
  have N0 := Fr.nil n0
  have pre0 : ∀ t, Steps p.tables e below (s₁.setTop (mkF m 0 #[vr r0, vr r1] [])) t → Steps p.tables e below (s₁.setTop (entryFrame m #[(.ref r0), (.ref r1)] 2)) t := fun t k => castTop (ef_11 m r0 r1) k
  obtain ⟨cq1, kq1, q1a, q1b, q1c⟩ := isOf hZ e0 uE
  obtain ⟨_, _, ⟨T1, L1, k1, n1⟩, -, X1, ⟨Lc1, hQ1, l1, y1, z1⟩, st1⟩ := X0.virtualBack hx (y := (⟨"com/example/wireform/wireform/amf3/AmfInput", "isAtEnd", "()Z"⟩ : MethodName)) (z := (⟨"com/example/wireform/wireform/amf3/AmfInput", "isAtEnd", "()Z"⟩ : MethodName)) hown (mvT hZ (wd hw 85 rfl)) (mvT hZ (wd hw 37 rfl)) (notFace_of_selects (args := #[]) (mvT hZ (wd hw 39 rfl))) (mvT hZ (wd hw 39 rfl)) (mvT hZ (wd hw 38 rfl)) (by decide) (backOf (W := 0) (rmE l Z a0 hw [] r0 rb ps kb zb vs dv h0 n0 Z0 ub up uV) hZ (wd hw 40 rfl) (wd hw 4 rfl) (by decide) (by decide)) q1a q1c (g := (mkF m 1 #[vr r0, vr r1] [(.ref r0)])) rfl (by rw [hml]; rfl) (Steps.refl _) (argsL := []) (rest := []) (lenOf pd_6 rfl) rfl (by show 2 * 0 + _ ≤ _; exact Nat.le_of_eq rfl) (hb hby d13_1) (fun _ _ => ⟨rfl, e0, (by decide : 0 + 0 ≤ _), (by decide : 0 + 0 ≤ _)⟩)
  dsimp only [Pt.U, Pt.locs, Pt.cells, Pt.slots] at X1 l1 y1 z1 st1 hQ1
  subst l1 y1 z1
  obtain ⟨rfl, Nq1, eh1⟩ := hQ1
  have N1 := Fr.app N0 Nq1
  obtain ⟨T2, X2, e2, st2⟩ := getF X1 hx hZ hown (host := "") (Or.inl (wd hw 28 rfl)) Via.refl eh1 ub (g := (mkF m 19 #[vr r0, vr r1] [(.ref r0)])) rfl rfl (hb hby d13_19)
  obtain ⟨T3, X3, e3, st3⟩ := getF X2 hx hZ hown (host := "") (Or.inl (wd hw 41 rfl)) Via.refl e2 up (g := (mkF m 24 #[vr r0, vr r1] [(.ref r0), (.ref r0), (.ref rb)])) rfl rfl (hb hby d13_24)
  obtain ⟨T4, h4, X4, e4, W4, st4⟩ := putF X3 hx hZ hown (host := "") (Or.inl (wd hw 41 rfl)) Via.refl e3 up uE (Or.inl (wd hw 42 rfl)) (wd hw 3 rfl) (ty := .int) (by decide) rfl rfl (g := (mkF m 30 #[vr r0, vr r1] [(.int (ps + (1 : Int32))), (.ref r0), (.int ps), (.ref rb)])) rfl rfl (hb hby d13_30)
  have Fw4 := up.same W4
  have N4 := Fr.snoc X4 N1 ug
  have K4 : Keep h0 h4 [r0] := (Keep.refl h0 [r0]).wr W4 (Or.inl (List.mem_of_getElem? (i := 0) rfl))
  have Z4 : n0 ≤ h4.size := by rw [W4.size]; exact Z0
  have c6 := (uV.other W4 (Ne.symm (Exa.neArv uE uV (wd hw 3 rfl))))
  obtain ⟨cl5, Ar5, q5, S5, Nn5, H5, G5⟩ := (id c6)
  have hin5 : ¬ (ps < 0 ∨ cl5.slots.size ≤ (ps).toNatClampNeg) := inb_of S5 ui
  have hat5 : cl5.slots[(ps).toNatClampNeg]? = some (.int xv) := H5.at hin5 ua
  have c7 := (uE.wr W4)
  have c8 := (ub.other W4 (Or.inr (slot_ne (Or.inr (wd hw 29 rfl)) (Or.inl (wd hw 42 rfl)) (by decide) (t := (.array .byte)) (t' := .int) (by decide) (by decide))))
  obtain ⟨fs, hr, hrun, hended, hW, hsame⟩ := X4.leave (v := some (.int (xv &&& (255 : Int32)))) (fun h => by rw [Bd.returns] at h; cases h)
  refine ⟨_, _, pre0 _ ?_, hrun, hended, _, _, rfl, ?_, ⟨_, rfl⟩, hW, hsame.mono (by decide) (by decide)⟩
  · show SS p e below s₁ (mkF m 0 #[vr r0, vr r1] []) _
    refine XS.aloadN X0.here hx rfl (hb hby d13_0) rfl rfl ?_
    show SS p e below s₁ (mkF m 1 #[vr r0, vr r1] [(.ref r0)]) _
    refine st1.trans ?_
    show SS p e below T1 (mkF m 4 #[vr r0, vr r1] [(.int (if ps = zb then (1 : Int32) else (0 : Int32)))]) _
    refine XS.ifYes X1.here hx rfl (pc0 := 4) (pc' := 18) rfl (hb hby d13_4) rfl ((if0 _ _).trans (teq (u1 : (if ps = zb then (1 : Int32) else (0 : Int32)) = (0 : Int32))).1) (by decide) (by decide) ?_
    show SS p e below T1 (mkF m 18 #[vr r0, vr r1] []) _
    refine XS.aloadN X1.here hx rfl (hb hby d13_18) rfl rfl ?_
    show SS p e below T1 (mkF m 19 #[vr r0, vr r1] [(.ref r0)]) _
    refine st2 _ ?_
    show SS p e below T2 (mkF m 22 #[vr r0, vr r1] [(.ref rb)]) _
    refine XS.aloadN X2.here hx rfl (hb hby d13_22) rfl rfl ?_
    show SS p e below T2 (mkF m 23 #[vr r0, vr r1] [(.ref r0), (.ref rb)]) _
    refine XS.dup X2.here hx rfl (hb hby d13_23) rfl rfl ?_
    show SS p e below T2 (mkF m 24 #[vr r0, vr r1] [(.ref r0), (.ref r0), (.ref rb)]) _
    refine st3 _ ?_
    show SS p e below T3 (mkF m 27 #[vr r0, vr r1] [(.int ps), (.ref r0), (.ref rb)]) _
    refine XS.dupX1 X3.here hx rfl (hb hby d13_27) rfl rfl rfl ?_
    show SS p e below T3 (mkF m 28 #[vr r0, vr r1] [(.int ps), (.ref r0), (.int ps), (.ref rb)]) _
    refine XS.iconst X3.here hx rfl (hb hby d13_28) ?_
    show SS p e below T3 (mkF m 29 #[vr r0, vr r1] [(.int (1 : Int32)), (.int ps), (.ref r0), (.int ps), (.ref rb)]) _
    refine XS.iadd X3.here hx rfl (hb hby d13_29) rfl ?_
    show SS p e below T3 (mkF m 30 #[vr r0, vr r1] [(.int (ps + (1 : Int32))), (.ref r0), (.int ps), (.ref rb)]) _
    refine st4 _ ?_
    show SS p e below T4 (mkF m 33 #[vr r0, vr r1] [(.int ps), (.ref rb)]) _
    refine X4.baloadBytes hx (j := ps) (v := (.int xv)) (own_at e4 Ar5.1) (State.isArrayOf_alike hZ.alike Ar5.2.1) Ar5.2.2 hin5 hat5 (g := (mkF m 33 #[vr r0, vr r1] [(.int ps), (.ref rb)])) rfl rfl (hb hby d13_33) _ ?_
    show SS p e below T4 (mkF m 34 #[vr r0, vr r1] [(.int xv)]) _
    refine XS.sipush X4.here hx rfl (hb hby d13_34) ?_
    show SS p e below T4 (mkF m 37 #[vr r0, vr r1] [(.int (255 : Int32)), (.int xv)]) _
    refine XS.iand X4.here hx rfl (hb hby d13_37) rfl ?_
    show SS p e below T4 (mkF m 38 #[vr r0, vr r1] [(.int (xv &&& (255 : Int32)))]) _
    exact retI X4 hx Bd.returns (hb hby d13_38) hr
  · show Q_rmb Z r0 r1 rb ps kb zb vs dv xv h0 n0 _ T4.heap _
    rw [e4]
    exact ⟨rfl, N4, K4, c7, c8, Fw4⟩
theorem ef_12 (m : MethodId) (x0 : Int32) (x1 : Int32) (x2 : Int32) : entryFrame m #[(.int x0), (.int x1), (.int x2)] maxLocals = mkF m 0 #[vi x0, vi x1, vi x2, uu, uu, uu, uu, uu, uu, uu] [] := by first | (simp [entryFrame, mkF, argsToLocals, Value.category, maxLocals]; done) | rfl
theorem pn_4 : plainName "com/example/wireform/wireform/amf3/AmfInputIsAtEndPinLaw" = true := by first | (simp [plainName, overriddenIn]; done) | decide +kernel
theorem pd_7 : parseMethodDescriptor "([BI)V" = some ⟨[(.array .byte), .int], none⟩ := by decide +kernel
theorem pd_8 : parseMethodDescriptor "(ILjava/lang/String;)[B" = some ⟨[.int, (.object "java/lang/String")], some (.array .byte)⟩ := by decide +kernel
theorem pd_9 : parseMethodDescriptor "(Ljava/lang/String;)I" = some ⟨[(.object "java/lang/String")], some .int⟩ := by decide +kernel
def Q_rm0 (Z : State) (p0 : Int32) (p1 : Int32) (p2 : Int32) (vN : Int32) (vK : Int32) (vD : Int32) (h0 : Heap) (n0 : Nat) (v : Option Value) (h : Heap) (L : List Loc) : Prop := (v = some (.int 1) ∧ Fr n0 L)
set_option maxRecDepth 65536 in
set_option maxHeartbeats 40000000 in
theorem rm0 (l : Launch) (Z : State) (a0 : Array Value) (hw : ∀ d ∈ tables_1, d.before a0 Z = true) (ws : List Jvm.Cond) (p0 : Int32) (p1 : Int32) (p2 : Int32) (vN : Int32) (vK : Int32) (vD : Int32) (h0 : Heap) (n0 : Nat) (Z0 : n0 ≤ h0.size) (uN : (p0 &&& (7 : Int32)) = vN) (uK : ((p1 &&& (2147483647 : Int32)) % (vN + (1 : Int32))) = vK) (uD : (if (1 : Int32) < p2 then p2 else (1 : Int32)) = vD) (unz : (vN + (1 : Int32)) ≠ 0) (uD1 : ¬ (vD < (1 : Int32))) (n0_ : 0 ≤ vN.toInt) (n7 : vN.toInt ≤ 7) (k0_ : 0 ≤ vK.toInt) (kn : vK.toInt ≤ vN.toInt) :
    MetFree l x (head1 (Jvm.Cond.code x code maxLocals ret :: ws) room_1) (fun a U => a = #[(.int p0), (.int p1), (.int p2)] ∧ Z.Warmed39 U.vm ∧ U.heap = h0) (fun _ _ _ _ _ => True) (fun _ U o U' => ∃ v L, o = .returned v ∧ Q_rm0 Z p0 p1 p2 vN vK vD h0 n0 v U'.heap L ∧ ReturnedEndW U o U' L room_1.cells room_1.slots) := by
  refine MetFree.of_bodySF (plainFor_of_name pn_4) hisR ?_
  intro p e s m args below meth c s₁ Bd hml0 hP hK
  obtain ⟨rfl, hZ, hh⟩ := hP
  have hx := Bd.exec
  have hby := Bd.bytes
  have hml : c.maxLocals = 10 := hml0
  have hown : s.vm.findClass "com/example/wireform/wireform/amf3/AmfInputIsAtEndPinLaw" = some m.cls := findClass_of_methodNamed Bd.named
  have hnm := (name_of_methodNamed Bd.named Bd.method).1
  have X0 : Stand p l e room_1 (s.setVm s.vm) m #[(.int p0), (.int p1), (.int p2)] below meth c s₁ [] 0 0 := Stand.of_body Bd
  have e0 : s₁.heap = h0 := by rw [← hh, Bd.state]; rfl
  have N0 := Fr.nil n0
  have pre0 : ∀ t, Steps p.tables e below (s₁.setTop (mkF m 0 #[vi p0, vi p1, vi p2, uu, uu, uu, uu, uu, uu, uu] [])) t → Steps p.tables e below (s₁.setTop (entryFrame m #[(.int p0), (.int p1), (.int p2)] maxLocals)) t := fun t k => castTop (ef_12 m p0 p1 p2) k
  have hS0 : s.Since s.vm 0 := (State.WarmedH.refl s).since _
  have hk0 : 0 ≤ h0.size := Nat.zero_le _
  have on := own_n n0_ n7
  have oz : (0 : Int32) + vK = vK := Int32.zero_add vK
  obtain ⟨T1, h1, k1, X1, e1, E1, A1, AX1, st1⟩ := newPE X0 hx hZ (wd hw 1 rfl) e0 (g := (mkF m 16 #[vi p0, vi p1, vi p2, vi vN, vi vK, uu, uu, uu, uu, uu] [(.int vN)])) rfl (hb hby at_16) rfl on.1 (cap := 8) on.2 (by decide) (by decide) (by decide) (ad := "[B") (by decide)
  obtain ⟨b1, g1⟩ : ∃ z, z = h0.size := ⟨_, rfl⟩
  rw [← g1] at A1 AX1 st1
  have V1 : Arv Z h1 b1 k1 .byte vN [] (.int (0 : Int32)) := (Arv.new A1 on.1)
  have g_b1 : n0 ≤ b1 := Nat.le_trans Z0 (Nat.le_of_eq g1.symm)
  have sz_b1 : h0.size ≤ b1 := Nat.le_trans (Keep.refl h0 []).1 (Nat.le_of_eq g1.symm)
  have K1 : Keep h0 h1 [] := (Keep.refl h0 []).ext E1
  have Z1 : n0 ≤ h1.size := Nat.le_trans Z0 E1.1
  have hk1 : _ ≤ h1.size := Nat.le_trans hk0 E1.1
  obtain ⟨T2, h2, X2, e2, E2, A2, D2, Un2, st2⟩ := newO X1 hx hZ hown (wd hw 2 rfl) (wd hw 3 rfl) (wd hw 4 rfl) e1 (g := (mkF m 20 #[vi p0, vi p1, vi p2, vi vN, vi vK, vr b1, uu, uu, uu, uu] [])) rfl (hb hby at_20) (by decide) (by decide)
  obtain ⟨b2, g2⟩ : ∃ z, z = h1.size := ⟨_, rfl⟩
  rw [← g2] at A2 D2 Un2 st2
  have ne_b1_b2 : b1 ≠ b2 := Nat.ne_of_lt (Nat.lt_of_lt_of_le V1.lt (Nat.le_of_eq g2.symm))
  have F2_bytes : Fld Z h2 b2 "com/example/wireform/wireform/amf3/AmfInput" "bytes" "[B" .null := D2 (Or.inr (wd hw 29 rfl)) (ty := (.array .byte)) (by decide)
  have F2_maxDepth : Fld Z h2 b2 "com/example/wireform/wireform/amf3/AmfInput" "maxDepth" "I" (.int (0 : Int32)) := D2 (Or.inr (wd hw 35 rfl)) (ty := .int) (by decide)
  have F2_position : Fld Z h2 b2 "com/example/wireform/wireform/amf3/AmfInput" "position" "I" (.int (0 : Int32)) := D2 (Or.inl (wd hw 42 rfl)) (ty := .int) (by decide)
  have g_b2 : n0 ≤ b2 := Nat.le_trans Z1 (Nat.le_of_eq g2.symm)
  have sz_b2 : h0.size ≤ b2 := Nat.le_trans K1.1 (Nat.le_of_eq g2.symm)
  have K2 : Keep h0 h2 [] := K1.ext E2
  have Z2 : n0 ≤ h2.size := Nat.le_trans Z1 E2.1
  have hk2 : _ ≤ h2.size := Nat.le_trans hk1 E2.1
  obtain ⟨_, _, ⟨T3, L3, k3, n3⟩, -, X3, ⟨Lc3, hQ3, l3, y3, z3⟩, st3⟩ := Jvm.LawKit.callS X2 hx (y := (⟨"java/lang/Math", "max", "(II)I"⟩ : MethodName)) hown (mvT hZ (wd hw 5 rfl)) (mvT hZ (wd hw 6 rfl)) (mvT hZ (wd hw 7 rfl)) (mvT hZ (wd hw 8 rfl)) (by decide) (backOf (W := 3) (rmMax l Z a0 hw [] (1 : Int32) p2 h2 n0 Z2) hZ (wd hw 8 rfl) (wd hw 7 rfl) (by decide) (by decide)) (g := (mkF m 28 #[vi p0, vi p1, vi p2, vi vN, vi vK, vr b1, uu, uu, uu, uu] [(.int p2), (.int (1 : Int32)), (.ref b1), (.ref b2), (.ref b2)])) rfl (by rw [hml]; rfl) (argsL := [(.int (1 : Int32)), (.int p2)]) (rest := [(.ref b1), (.ref b2), (.ref b2)]) (lenOf pd_3 rfl) rfl (by show 2 * 0 + _ ≤ _; exact Nat.le_of_eq rfl) (hb hby at_28) (fun _ _ => ⟨rfl, e2, (by decide : 2 + 0 ≤ _), (by decide : 13 + 0 ≤ _)⟩)
  dsimp only [Pt.U, Pt.locs, Pt.cells, Pt.slots] at X3 l3 y3 z3 st3 hQ3
  subst l3 y3 z3
  obtain ⟨rfl, Nq3, eh3⟩ := hQ3
  have N3 := Fr.app N0 Nq3
  have c5 := (AX1.ext E2)
  obtain ⟨_, _, ⟨T4, L4, k4, n4⟩, -, X4', hS4', hg4, ⟨Lc4, hQ4, l4, y4, z4⟩, st4⟩ := X3.specialBackS hx (y := (⟨"com/example/wireform/wireform/amf3/AmfInput", "<init>", "([BI)V"⟩ : MethodName)) rfl hown (mvT hZ (wd hw 9 rfl)) (mvT hZ (wd hw 10 rfl)) (mvT hZ (wd hw 11 rfl)) (by decide) (backOfS (W := 1) (rmI l Z a0 hw [] b2 b1 vD h2 n0 Z2 A2 F2_bytes F2_maxDepth F2_position g_b2 c5 uD1) hZ (wd hw 11 rfl) (wd hw 4 rfl) (by decide) (by decide)) (g := (mkF m 31 #[vi p0, vi p1, vi p2, vi vN, vi vK, vr b1, uu, uu, uu, uu] [(.int vD), (.ref b1), (.ref b2), (.ref b2)])) rfl (by rw [hml]; rfl) (Steps.refl _) (a := b2) (argsL := [(.ref b1), (.int vD)]) (rest := [(.ref b2)]) (lenOf pd_7 rfl) rfl (by show 2 * 0 + _ ≤ _; exact Nat.le_of_eq rfl) (hb hby at_31) (fun _ _ => ⟨rfl, eh3, (by decide : 2 + 2 ≤ _), (by decide : 13 + 24 ≤ _)⟩)
  dsimp only [Pt.U, Pt.locs, Pt.cells, Pt.slots] at X4' hS4' hg4 l4 y4 z4 st4 hQ4
  subst l4 y4 z4
  obtain ⟨X4, hS4, hZ4, hown4⟩ := rebS hS0 (own_hk eh3 hk2) X4' hS4' hg4 hZ hown
  obtain ⟨rfl, Nq4, Kq4, f4_0, f4_1, f4_2⟩ := hQ4
  have N4 := Fr.app N3 Nq4
  have K4 : Keep h0 T4.heap [] := K2.trans Kq4 (allS (Or.inr sz_b2) all0)
  have Z4 : n0 ≤ T4.heap.size := Nat.le_trans Z2 Kq4.1
  have hk4 : T4.heap.size ≤ T4.heap.size := Nat.le_refl _
  have c7 := ((V1.ext E2).keep Kq4 (ninS ne_b1_b2 nin0))
  obtain ⟨cq6, kq6, q6a, q6b, q6c⟩ := isOf hZ4 rfl f4_0
  obtain ⟨_, _, ⟨T6, L6, k6, n6⟩, -, X6, ⟨Lc6, hQ6, l6, y6, z6⟩, st6⟩ := X4.virtualBack hx (y := (⟨"com/example/wireform/wireform/amf3/AmfInput", "isAtEnd", "()Z"⟩ : MethodName)) (z := (⟨"com/example/wireform/wireform/amf3/AmfInput", "isAtEnd", "()Z"⟩ : MethodName)) hown4 (mvT hZ4 (wd hw 36 rfl)) (mvT hZ4 (wd hw 37 rfl)) (notFace_of_selects (args := #[]) (mvT hZ4 (wd hw 39 rfl))) (mvT hZ4 (wd hw 39 rfl)) (mvT hZ4 (wd hw 38 rfl)) (by decide) (backOf (W := 0) (rmE l Z a0 hw [] b2 b1 (0 : Int32) k1 vN [] (.int (0 : Int32)) T4.heap n0 Z4 f4_1 f4_2 c7) hZ4 (wd hw 40 rfl) (wd hw 4 rfl) (by decide) (by decide)) q6a q6c (g := (mkF m 38 #[vi p0, vi p1, vi p2, vi vN, vi vK, vr b1, vr b2, uu, uu, uu] [(.ref b2)])) rfl (by rw [hml]; rfl) (Steps.refl _) (argsL := []) (rest := []) (lenOf pd_6 rfl) rfl (by show 2 * 0 + _ ≤ _; exact Nat.le_of_eq rfl) (hb hby at_38) (fun _ _ => ⟨rfl, rfl, (by decide : 4 + 0 ≤ _), (by decide : 37 + 0 ≤ _)⟩)
  dsimp only [Pt.U, Pt.locs, Pt.cells, Pt.slots] at X6 l6 y6 z6 st6 hQ6
  subst l6 y6 z6
  obtain ⟨rfl, Nq6, eh6⟩ := hQ6
  have N6 := Fr.app N4 Nq6
  have dia8 : ∀ target, SS p e below T6 (mkF m 50 #[vi p0, vi p1, vi p2, vi vN, vi vK, vr b1, vr b2, uu, uu, uu] [(.int (if vN = (0 : Int32) then (1 : Int32) else (0 : Int32))), (.int (if (0 : Int32) = vN then (1 : Int32) else (0 : Int32)))]) target → SS p e below T6 (mkF m 42 #[vi p0, vi p1, vi p2, vi vN, vi vK, vr b1, vr b2, uu, uu, uu] [(.int vN), (.int (if (0 : Int32) = vN then (1 : Int32) else (0 : Int32)))]) target := by
    intro target kt
    by_cases hd : vN = (0 : Int32)
    · rw [if_pos hd] at kt
      refine XS.ifNo X6.here hx rfl (hb hby at_42) rfl ((if0 _ _).trans (teq (hd : vN = (0 : Int32))).2) ?_
      refine XS.iconst X6.here hx rfl (hb hby at_45) ?_
      refine XS.goto X6.here hx rfl (pc0 := 46) (pc' := 50) rfl (hb hby at_46) (by decide) (by decide) ?_
      exact kt
    · rw [if_neg hd] at kt
      refine XS.ifYes X6.here hx rfl (pc0 := 42) (pc' := 49) rfl (hb hby at_42) rfl ((if0 _ _).trans (feq (hd : ¬ (vN = (0 : Int32)))).2) (by decide) (by decide) ?_
      refine XS.iconst X6.here hx rfl (hb hby at_49) ?_
      exact kt
  obtain ⟨b9, T9, h9, kk9, X9, e9, E9, hS9, hk9, hZ9, hown9, st9⟩ := ldcS X6 hx hZ4 hown4 (wd hw 43 rfl) (fun d hd => hw d (own_strAtoms d hd)) eh6 hS4 hk4 (g := (mkF m 64 #[vi p0, vi p1, vi p2, vi vN, vi vK, vr b1, vr b2, vi (1 : Int32), uu, uu] [(.int vK), (.ref b2)])) rfl (hb hby at_64) (n := 20) (by decide) (by decide) (by decide) (by decide)
  have K9 : Keep h0 h9 [] := K4.ext E9
  have Z9 : n0 ≤ h9.size := Nat.le_trans Z4 E9.1
  have c11 := (f4_0.ext E9)
  have c12 := ((c5.keep Kq4).ext E9)
  have c13 := (f4_1.ext E9)
  have c14 := (f4_2.ext E9)
  have c15 := (c7.ext E9)
  obtain ⟨cq10, kq10, q10a, q10b, q10c⟩ := isOf hZ9 e9 c11
  obtain ⟨_, _, ⟨T10, L10, k10, n10⟩, -, X10, ⟨Lc10, hQ10, l10, y10, z10⟩, st10⟩ := X9.virtualBack hx (y := (⟨"com/example/wireform/wireform/amf3/AmfInput", "readBytes", "(ILjava/lang/String;)[B"⟩ : MethodName)) (z := (⟨"com/example/wireform/wireform/amf3/AmfInput", "readBytes", "(ILjava/lang/String;)[B"⟩ : MethodName)) hown9 (mvT hZ9 (wd hw 44 rfl)) (mvT hZ9 (wd hw 45 rfl)) (notFace_of_selects (args := #[]) (mvT hZ9 (wd hw 47 rfl))) (mvT hZ9 (wd hw 47 rfl)) (mvT hZ9 (wd hw 46 rfl)) (by decide) (backOf (W := 0) (rmB l Z a0 hw [] b2 vK b9 b1 (0 : Int32) k1 vN [] (.int (0 : Int32)) h9 n0 Z9 c11 c12 c13 c14 c15 g_b2 (by decide) k0_ (own_k kn) (own_8 n7)) hZ9 (wd hw 48 rfl) (wd hw 4 rfl) (by decide) (by decide)) q10a q10c (g := (mkF m 66 #[vi p0, vi p1, vi p2, vi vN, vi vK, vr b1, vr b2, vi (1 : Int32), uu, uu] [(.ref b9), (.int vK), (.ref b2)])) rfl (by rw [hml]; rfl) (Steps.refl _) (argsL := [(.int vK), (.ref b9)]) (rest := []) (lenOf pd_8 rfl) rfl (by show 2 * 0 + _ ≤ _; exact Nat.le_of_eq rfl) (hb hby at_66) (fun _ _ => ⟨rfl, e9, (by decide : 6 + 1 ≤ _), (by decide : 61 + 8 ≤ _)⟩)
  dsimp only [Pt.U, Pt.locs, Pt.cells, Pt.slots] at X10 l10 y10 z10 st10 hQ10
  subst l10 y10 z10
  obtain ⟨nb_10, rfl, Nq10, Kq10, f10_0, f10_1, f10_2⟩ := hQ10
  have N10 := Fr.app N6 Nq10
  have K10 : Keep h0 T10.heap [] := K9.trans Kq10 (allS (Or.inr sz_b2) all0)
  have Z10 : n0 ≤ T10.heap.size := Nat.le_trans Z9 Kq10.1
  have hk10 : _ ≤ T10.heap.size := Nat.le_trans hk9 Kq10.1
  have c17 := (c15.keep Kq10 (ninS ne_b1_b2 nin0))
  obtain ⟨cq16, kq16, q16a, q16b, q16c⟩ := isOf hZ9 rfl f10_0
  obtain ⟨_, _, ⟨T16, L16, k16, n16⟩, -, X16, ⟨Lc16, hQ16, l16, y16, z16⟩, st16⟩ := X10.virtualBack hx (y := (⟨"com/example/wireform/wireform/amf3/AmfInput", "isAtEnd", "()Z"⟩ : MethodName)) (z := (⟨"com/example/wireform/wireform/amf3/AmfInput", "isAtEnd", "()Z"⟩ : MethodName)) hown9 (mvT hZ9 (wd hw 36 rfl)) (mvT hZ9 (wd hw 37 rfl)) (notFace_of_selects (args := #[]) (mvT hZ9 (wd hw 39 rfl))) (mvT hZ9 (wd hw 39 rfl)) (mvT hZ9 (wd hw 38 rfl)) (by decide) (backOf (W := 0) (rmE l Z a0 hw [] b2 b1 ((0 : Int32) + vK) k1 vN [] (.int (0 : Int32)) T10.heap n0 Z10 f10_1 f10_2 c17) hZ9 (wd hw 40 rfl) (wd hw 4 rfl) (by decide) (by decide)) q16a q16c (g := (mkF m 72 #[vi p0, vi p1, vi p2, vi vN, vi vK, vr b1, vr b2, vi (1 : Int32), uu, uu] [(.ref b2)])) rfl (by rw [hml]; rfl) (Steps.refl _) (argsL := []) (rest := []) (lenOf pd_6 rfl) rfl (by show 2 * 0 + _ ≤ _; exact Nat.le_of_eq rfl) (hb hby at_72) (fun _ _ => ⟨rfl, rfl, (by decide : 7 + 0 ≤ _), (by decide : 69 + 0 ≤ _)⟩)
  dsimp only [Pt.U, Pt.locs, Pt.cells, Pt.slots] at X16 l16 y16 z16 st16 hQ16
  subst l16 y16 z16
  obtain ⟨rfl, Nq16, eh16⟩ := hQ16
  have N16 := Fr.app N10 Nq16
  have dia18 : ∀ target, SS p e below T16 (mkF m 95 #[vi p0, vi p1, vi p2, vi vN, vi vK, vr b1, vr b2, vi (1 : Int32), vi (if ((0 : Int32) + vK) = vN then (1 : Int32) else (0 : Int32)), uu] [(.int (if vK = vN then (1 : Int32) else (0 : Int32))), (.int (if ((0 : Int32) + vK) = vN then (1 : Int32) else (0 : Int32)))]) target → SS p e below T16 (mkF m 87 #[vi p0, vi p1, vi p2, vi vN, vi vK, vr b1, vr b2, vi (1 : Int32), vi (if ((0 : Int32) + vK) = vN then (1 : Int32) else (0 : Int32)), uu] [(.int vN), (.int vK), (.int (if ((0 : Int32) + vK) = vN then (1 : Int32) else (0 : Int32)))]) target := by
    intro target kt
    by_cases hd : vK = vN
    · rw [if_pos hd] at kt
      refine XS.icmpNo X16.here hx rfl (hb hby at_87) rfl (teq (hd : vK = vN)).2 ?_
      refine XS.iconst X16.here hx rfl (hb hby at_90) ?_
      refine XS.goto X16.here hx rfl (pc0 := 91) (pc' := 95) rfl (hb hby at_91) (by decide) (by decide) ?_
      exact kt
    · rw [if_neg hd] at kt
      refine XS.icmpYes X16.here hx rfl (pc0 := 87) (pc' := 94) rfl (hb hby at_87) rfl (feq (hd : ¬ (vK = vN))).2 (by decide) (by decide) ?_
      refine XS.iconst X16.here hx rfl (hb hby at_94) ?_
      exact kt
  have sg19 : ∀ target, SS p e below T16 (mkF m 108 #[vi p0, vi p1, vi p2, vi vN, vi vK, vr b1, vr b2, vi (1 : Int32), vi (if ((0 : Int32) + vK) = vN then (1 : Int32) else (0 : Int32)), uu] [(.int vN), (.int vK)]) target → SS p e below s₁ (mkF m 0 #[vi p0, vi p1, vi p2, uu, uu, uu, uu, uu, uu, uu] []) target := by
    intro target kt
    show SS p e below s₁ (mkF m 0 #[vi p0, vi p1, vi p2, uu, uu, uu, uu, uu, uu, uu] []) _
    refine XS.iloadN X0.here hx rfl (hb hby at_0) rfl ?_
    show SS p e below s₁ (mkF m 1 #[vi p0, vi p1, vi p2, uu, uu, uu, uu, uu, uu, uu] [(.int p0)]) _
    refine XS.bipush X0.here hx rfl (hb hby at_1) ?_
    show SS p e below s₁ (mkF m 3 #[vi p0, vi p1, vi p2, uu, uu, uu, uu, uu, uu, uu] [(.int (7 : Int32)), (.int p0)]) _
    refine XS.iand X0.here hx rfl (hb hby at_3) rfl ?_
    show SS p e below s₁ (mkF m 4 #[vi p0, vi p1, vi p2, uu, uu, uu, uu, uu, uu, uu] [(.int (p0 &&& (7 : Int32)))]) _
    rw [uN]
    show SS p e below s₁ (mkF m 4 #[vi p0, vi p1, vi p2, uu, uu, uu, uu, uu, uu, uu] [(.int vN)]) _
    refine XS.istoreN X0.here hx rfl (hb hby at_4) rfl (l' := #[vi p0, vi p1, vi p2, vi vN, uu, uu, uu, uu, uu, uu]) rfl ?_
    show SS p e below s₁ (mkF m 5 #[vi p0, vi p1, vi p2, vi vN, uu, uu, uu, uu, uu, uu] []) _
    refine XS.iloadN X0.here hx rfl (hb hby at_5) rfl ?_
    show SS p e below s₁ (mkF m 6 #[vi p0, vi p1, vi p2, vi vN, uu, uu, uu, uu, uu, uu] [(.int p1)]) _
    refine X0.ldcInt hx hown (mvT hZ (wd hw 0 rfl)) (g := (mkF m 6 #[vi p0, vi p1, vi p2, vi vN, uu, uu, uu, uu, uu, uu] [(.int p1)])) rfl (hb hby at_6) _ ?_
    show SS p e below s₁ (mkF m 8 #[vi p0, vi p1, vi p2, vi vN, uu, uu, uu, uu, uu, uu] [(.int (2147483647 : Int32)), (.int p1)]) _
    refine XS.iand X0.here hx rfl (hb hby at_8) rfl ?_
    show SS p e below s₁ (mkF m 9 #[vi p0, vi p1, vi p2, vi vN, uu, uu, uu, uu, uu, uu] [(.int (p1 &&& (2147483647 : Int32)))]) _
    refine XS.iloadN X0.here hx rfl (hb hby at_9) rfl ?_
    show SS p e below s₁ (mkF m 10 #[vi p0, vi p1, vi p2, vi vN, uu, uu, uu, uu, uu, uu] [(.int vN), (.int (p1 &&& (2147483647 : Int32)))]) _
    refine XS.iconst X0.here hx rfl (hb hby at_10) ?_
    show SS p e below s₁ (mkF m 11 #[vi p0, vi p1, vi p2, vi vN, uu, uu, uu, uu, uu, uu] [(.int (1 : Int32)), (.int vN), (.int (p1 &&& (2147483647 : Int32)))]) _
    refine XS.iadd X0.here hx rfl (hb hby at_11) rfl ?_
    show SS p e below s₁ (mkF m 12 #[vi p0, vi p1, vi p2, vi vN, uu, uu, uu, uu, uu, uu] [(.int (vN + (1 : Int32))), (.int (p1 &&& (2147483647 : Int32)))]) _
    refine iremM X0 hx rfl (hb hby at_12) rfl unz ?_
    show SS p e below s₁ (mkF m 13 #[vi p0, vi p1, vi p2, vi vN, uu, uu, uu, uu, uu, uu] [(.int ((p1 &&& (2147483647 : Int32)) % (vN + (1 : Int32))))]) _
    rw [uK]
    show SS p e below s₁ (mkF m 13 #[vi p0, vi p1, vi p2, vi vN, uu, uu, uu, uu, uu, uu] [(.int vK)]) _
    refine XS.istore X0.here hx rfl (hb hby at_13) rfl (l' := #[vi p0, vi p1, vi p2, vi vN, vi vK, uu, uu, uu, uu, uu]) rfl ?_
    show SS p e below s₁ (mkF m 15 #[vi p0, vi p1, vi p2, vi vN, vi vK, uu, uu, uu, uu, uu] []) _
    refine XS.iloadN X0.here hx rfl (hb hby at_15) rfl ?_
    show SS p e below s₁ (mkF m 16 #[vi p0, vi p1, vi p2, vi vN, vi vK, uu, uu, uu, uu, uu] [(.int vN)]) _
    refine st1 _ ?_
    show SS p e below T1 (mkF m 18 #[vi p0, vi p1, vi p2, vi vN, vi vK, uu, uu, uu, uu, uu] [(.ref b1)]) _
    refine XS.astore X1.here hx rfl (hb hby at_18) rfl rfl (l' := #[vi p0, vi p1, vi p2, vi vN, vi vK, vr b1, uu, uu, uu, uu]) rfl ?_
    show SS p e below T1 (mkF m 20 #[vi p0, vi p1, vi p2, vi vN, vi vK, vr b1, uu, uu, uu, uu] []) _
    refine st2 _ ?_
    show SS p e below T2 (mkF m 23 #[vi p0, vi p1, vi p2, vi vN, vi vK, vr b1, uu, uu, uu, uu] [(.ref b2)]) _
    refine XS.dup X2.here hx rfl (hb hby at_23) rfl rfl ?_
    show SS p e below T2 (mkF m 24 #[vi p0, vi p1, vi p2, vi vN, vi vK, vr b1, uu, uu, uu, uu] [(.ref b2), (.ref b2)]) _
    refine XS.aload X2.here hx rfl (hb hby at_24) rfl rfl ?_
    show SS p e below T2 (mkF m 26 #[vi p0, vi p1, vi p2, vi vN, vi vK, vr b1, uu, uu, uu, uu] [(.ref b1), (.ref b2), (.ref b2)]) _
    refine XS.iconst X2.here hx rfl (hb hby at_26) ?_
    show SS p e below T2 (mkF m 27 #[vi p0, vi p1, vi p2, vi vN, vi vK, vr b1, uu, uu, uu, uu] [(.int (1 : Int32)), (.ref b1), (.ref b2), (.ref b2)]) _
    refine XS.iloadN X2.here hx rfl (hb hby at_27) rfl ?_
    show SS p e below T2 (mkF m 28 #[vi p0, vi p1, vi p2, vi vN, vi vK, vr b1, uu, uu, uu, uu] [(.int p2), (.int (1 : Int32)), (.ref b1), (.ref b2), (.ref b2)]) _
    refine st3 _ ?_
    show SS p e below T3 (mkF m 31 #[vi p0, vi p1, vi p2, vi vN, vi vK, vr b1, uu, uu, uu, uu] [(.int (if (1 : Int32) < p2 then p2 else (1 : Int32))), (.ref b1), (.ref b2), (.ref b2)]) _
    rw [uD]
    show SS p e below T3 (mkF m 31 #[vi p0, vi p1, vi p2, vi vN, vi vK, vr b1, uu, uu, uu, uu] [(.int vD), (.ref b1), (.ref b2), (.ref b2)]) _
    refine st4.trans ?_
    show SS p e below T4 (mkF m 34 #[vi p0, vi p1, vi p2, vi vN, vi vK, vr b1, uu, uu, uu, uu] [(.ref b2)]) _
    refine XS.astore X4.here hx rfl (hb hby at_34) rfl rfl (l' := #[vi p0, vi p1, vi p2, vi vN, vi vK, vr b1, vr b2, uu, uu, uu]) rfl ?_
    show SS p e below T4 (mkF m 36 #[vi p0, vi p1, vi p2, vi vN, vi vK, vr b1, vr b2, uu, uu, uu] []) _
    refine XS.aload X4.here hx rfl (hb hby at_36) rfl rfl ?_
    show SS p e below T4 (mkF m 38 #[vi p0, vi p1, vi p2, vi vN, vi vK, vr b1, vr b2, uu, uu, uu] [(.ref b2)]) _
    refine st6.trans ?_
    show SS p e below T6 (mkF m 41 #[vi p0, vi p1, vi p2, vi vN, vi vK, vr b1, vr b2, uu, uu, uu] [(.int (if (0 : Int32) = vN then (1 : Int32) else (0 : Int32)))]) _
    refine XS.iloadN X6.here hx rfl (hb hby at_41) rfl ?_
    show SS p e below T6 (mkF m 42 #[vi p0, vi p1, vi p2, vi vN, vi vK, vr b1, vr b2, uu, uu, uu] [(.int vN), (.int (if (0 : Int32) = vN then (1 : Int32) else (0 : Int32)))]) _
    refine dia8 _ ?_
    show SS p e below T6 (mkF m 50 #[vi p0, vi p1, vi p2, vi vN, vi vK, vr b1, vr b2, uu, uu, uu] [(.int (if vN = (0 : Int32) then (1 : Int32) else (0 : Int32))), (.int (if (0 : Int32) = vN then (1 : Int32) else (0 : Int32)))]) _
    refine XS.icmpNo X6.here hx rfl (hb hby at_50) rfl (teq (own_cmp0 vN : (if (0 : Int32) = vN then (1 : Int32) else (0 : Int32)) = (if vN = (0 : Int32) then (1 : Int32) else (0 : Int32)))).2 ?_
    show SS p e below T6 (mkF m 53 #[vi p0, vi p1, vi p2, vi vN, vi vK, vr b1, vr b2, uu, uu, uu] []) _
    refine XS.iconst X6.here hx rfl (hb hby at_53) ?_
    show SS p e below T6 (mkF m 54 #[vi p0, vi p1, vi p2, vi vN, vi vK, vr b1, vr b2, uu, uu, uu] [(.int (1 : Int32))]) _
    refine XS.goto X6.here hx rfl (pc0 := 54) (pc' := 58) rfl (hb hby at_54) (by decide) (by decide) ?_
    show SS p e below T6 (mkF m 58 #[vi p0, vi p1, vi p2, vi vN, vi vK, vr b1, vr b2, uu, uu, uu] [(.int (1 : Int32))]) _
    refine XS.istore X6.here hx rfl (hb hby at_58) rfl (l' := #[vi p0, vi p1, vi p2, vi vN, vi vK, vr b1, vr b2, vi (1 : Int32), uu, uu]) rfl ?_
    show SS p e below T6 (mkF m 60 #[vi p0, vi p1, vi p2, vi vN, vi vK, vr b1, vr b2, vi (1 : Int32), uu, uu] []) _
    refine XS.aload X6.here hx rfl (hb hby at_60) rfl rfl ?_
    show SS p e below T6 (mkF m 62 #[vi p0, vi p1, vi p2, vi vN, vi vK, vr b1, vr b2, vi (1 : Int32), uu, uu] [(.ref b2)]) _
    refine XS.iload X6.here hx rfl (hb hby at_62) rfl ?_
    show SS p e below T6 (mkF m 64 #[vi p0, vi p1, vi p2, vi vN, vi vK, vr b1, vr b2, vi (1 : Int32), uu, uu] [(.int vK), (.ref b2)]) _
    refine st9 _ ?_
    show SS p e below T9 (mkF m 66 #[vi p0, vi p1, vi p2, vi vN, vi vK, vr b1, vr b2, vi (1 : Int32), uu, uu] [(.ref b9), (.int vK), (.ref b2)]) _
    refine st10.trans ?_
    show SS p e below T10 (mkF m 69 #[vi p0, vi p1, vi p2, vi vN, vi vK, vr b1, vr b2, vi (1 : Int32), uu, uu] [(.ref nb_10)]) _
    refine XS.pop X10.here hx rfl (hb hby at_69) rfl rfl ?_
    show SS p e below T10 (mkF m 70 #[vi p0, vi p1, vi p2, vi vN, vi vK, vr b1, vr b2, vi (1 : Int32), uu, uu] []) _
    refine XS.aload X10.here hx rfl (hb hby at_70) rfl rfl ?_
    show SS p e below T10 (mkF m 72 #[vi p0, vi p1, vi p2, vi vN, vi vK, vr b1, vr b2, vi (1 : Int32), uu, uu] [(.ref b2)]) _
    refine st16.trans ?_
    show SS p e below T16 (mkF m 75 #[vi p0, vi p1, vi p2, vi vN, vi vK, vr b1, vr b2, vi (1 : Int32), uu, uu] [(.int (if ((0 : Int32) + vK) = vN then (1 : Int32) else (0 : Int32)))]) _
    refine XS.istore X16.here hx rfl (hb hby at_75) rfl (l' := #[vi p0, vi p1, vi p2, vi vN, vi vK, vr b1, vr b2, vi (1 : Int32), vi (if ((0 : Int32) + vK) = vN then (1 : Int32) else (0 : Int32)), uu]) rfl ?_
    show SS p e below T16 (mkF m 77 #[vi p0, vi p1, vi p2, vi vN, vi vK, vr b1, vr b2, vi (1 : Int32), vi (if ((0 : Int32) + vK) = vN then (1 : Int32) else (0 : Int32)), uu] []) _
    refine XS.iload X16.here hx rfl (hb hby at_77) rfl ?_
    show SS p e below T16 (mkF m 79 #[vi p0, vi p1, vi p2, vi vN, vi vK, vr b1, vr b2, vi (1 : Int32), vi (if ((0 : Int32) + vK) = vN then (1 : Int32) else (0 : Int32)), uu] [(.int (1 : Int32))]) _
    refine XS.ifNo X16.here hx rfl (hb hby at_79) rfl ((if0 _ _).trans (feq (by decide : ¬ ((1 : Int32) = (0 : Int32)))).1) ?_
    show SS p e below T16 (mkF m 82 #[vi p0, vi p1, vi p2, vi vN, vi vK, vr b1, vr b2, vi (1 : Int32), vi (if ((0 : Int32) + vK) = vN then (1 : Int32) else (0 : Int32)), uu] []) _
    refine XS.iload X16.here hx rfl (hb hby at_82) rfl ?_
    show SS p e below T16 (mkF m 84 #[vi p0, vi p1, vi p2, vi vN, vi vK, vr b1, vr b2, vi (1 : Int32), vi (if ((0 : Int32) + vK) = vN then (1 : Int32) else (0 : Int32)), uu] [(.int (if ((0 : Int32) + vK) = vN then (1 : Int32) else (0 : Int32)))]) _
    refine XS.iload X16.here hx rfl (hb hby at_84) rfl ?_
    show SS p e below T16 (mkF m 86 #[vi p0, vi p1, vi p2, vi vN, vi vK, vr b1, vr b2, vi (1 : Int32), vi (if ((0 : Int32) + vK) = vN then (1 : Int32) else (0 : Int32)), uu] [(.int vK), (.int (if ((0 : Int32) + vK) = vN then (1 : Int32) else (0 : Int32)))]) _
    refine XS.iloadN X16.here hx rfl (hb hby at_86) rfl ?_
    show SS p e below T16 (mkF m 87 #[vi p0, vi p1, vi p2, vi vN, vi vK, vr b1, vr b2, vi (1 : Int32), vi (if ((0 : Int32) + vK) = vN then (1 : Int32) else (0 : Int32)), uu] [(.int vN), (.int vK), (.int (if ((0 : Int32) + vK) = vN then (1 : Int32) else (0 : Int32)))]) _
    refine dia18 _ ?_
    show SS p e below T16 (mkF m 95 #[vi p0, vi p1, vi p2, vi vN, vi vK, vr b1, vr b2, vi (1 : Int32), vi (if ((0 : Int32) + vK) = vN then (1 : Int32) else (0 : Int32)), uu] [(.int (if vK = vN then (1 : Int32) else (0 : Int32))), (.int (if ((0 : Int32) + vK) = vN then (1 : Int32) else (0 : Int32)))]) _
    refine XS.icmpNo X16.here hx rfl (hb hby at_95) rfl (teq (by rw [oz] : (if ((0 : Int32) + vK) = vN then (1 : Int32) else (0 : Int32)) = (if vK = vN then (1 : Int32) else (0 : Int32)))).2 ?_
    show SS p e below T16 (mkF m 98 #[vi p0, vi p1, vi p2, vi vN, vi vK, vr b1, vr b2, vi (1 : Int32), vi (if ((0 : Int32) + vK) = vN then (1 : Int32) else (0 : Int32)), uu] []) _
    refine XS.iconst X16.here hx rfl (hb hby at_98) ?_
    show SS p e below T16 (mkF m 99 #[vi p0, vi p1, vi p2, vi vN, vi vK, vr b1, vr b2, vi (1 : Int32), vi (if ((0 : Int32) + vK) = vN then (1 : Int32) else (0 : Int32)), uu] [(.int (1 : Int32))]) _
    refine XS.goto X16.here hx rfl (pc0 := 99) (pc' := 103) rfl (hb hby at_99) (by decide) (by decide) ?_
    show SS p e below T16 (mkF m 103 #[vi p0, vi p1, vi p2, vi vN, vi vK, vr b1, vr b2, vi (1 : Int32), vi (if ((0 : Int32) + vK) = vN then (1 : Int32) else (0 : Int32)), uu] [(.int (1 : Int32))]) _
    refine XS.istore X16.here hx rfl (hb hby at_103) rfl (l' := #[vi p0, vi p1, vi p2, vi vN, vi vK, vr b1, vr b2, vi (1 : Int32), vi (if ((0 : Int32) + vK) = vN then (1 : Int32) else (0 : Int32)), uu]) rfl ?_
    show SS p e below T16 (mkF m 105 #[vi p0, vi p1, vi p2, vi vN, vi vK, vr b1, vr b2, vi (1 : Int32), vi (if ((0 : Int32) + vK) = vN then (1 : Int32) else (0 : Int32)), uu] []) _
    refine XS.iload X16.here hx rfl (hb hby at_105) rfl ?_
    show SS p e below T16 (mkF m 107 #[vi p0, vi p1, vi p2, vi vN, vi vK, vr b1, vr b2, vi (1 : Int32), vi (if ((0 : Int32) + vK) = vN then (1 : Int32) else (0 : Int32)), uu] [(.int vK)]) _
    refine XS.iloadN X16.here hx rfl (hb hby at_107) rfl ?_
    exact kt
  by_cases hlt : vK < vN
  · obtain ⟨b20, T20, h20, kk20, X20, e20, E20, hS20, hk20, hZ20, hown20, st20⟩ := ldcS X16 hx hZ9 hown9 (wd hw 79 rfl) (fun d hd => hw d (own_strAtoms d hd)) eh16 hS9 hk10 (g := (mkF m 113 #[vi p0, vi p1, vi p2, vi vN, vi vK, vr b1, vr b2, vi (1 : Int32), vi (if ((0 : Int32) + vK) = vN then (1 : Int32) else (0 : Int32)), uu] [(.ref b2)])) rfl (hb hby at_113) (n := 16) (by decide) (by decide) (by decide) (by decide)
    have K20 : Keep h0 h20 [] := K10.ext E20
    have Z20 : n0 ≤ h20.size := Nat.le_trans Z10 E20.1
    have c22 := (f10_0.ext E20)
    have c23 := (f10_1.ext E20)
    have c24 := (f10_2.ext E20)
    have c25 := (c17.ext E20)
    obtain ⟨cq21, kq21, q21a, q21b, q21c⟩ := isOf hZ20 e20 c22
    obtain ⟨_, _, ⟨T21, L21, k21, n21⟩, -, X21, ⟨Lc21, hQ21, l21, y21, z21⟩, st21⟩ := X20.virtualBack hx (y := (⟨"com/example/wireform/wireform/amf3/AmfInput", "readByte", "(Ljava/lang/String;)I"⟩ : MethodName)) (z := (⟨"com/example/wireform/wireform/amf3/AmfInput", "readByte", "(Ljava/lang/String;)I"⟩ : MethodName)) hown20 (mvT hZ20 (wd hw 80 rfl)) (mvT hZ20 (wd hw 81 rfl)) (notFace_of_selects (args := #[]) (mvT hZ20 (wd hw 83 rfl))) (mvT hZ20 (wd hw 83 rfl)) (mvT hZ20 (wd hw 82 rfl)) (by decide) (backOf (W := 0) (rmb l Z a0 hw [] b2 b20 b1 ((0 : Int32) + vK) k1 vN [] (.int (0 : Int32)) (0 : Int32) h20 n0 Z20 c22 c23 c24 c25 g_b2 (own_if vK vN hlt) (own_in vK vN k0_ hlt) (own_nil _ _)) hZ20 (wd hw 84 rfl) (wd hw 4 rfl) (by decide) (by decide)) q21a q21c (g := (mkF m 115 #[vi p0, vi p1, vi p2, vi vN, vi vK, vr b1, vr b2, vi (1 : Int32), vi (if ((0 : Int32) + vK) = vN then (1 : Int32) else (0 : Int32)), uu] [(.ref b20), (.ref b2)])) rfl (by rw [hml]; rfl) (Steps.refl _) (argsL := [(.ref b20)]) (rest := []) (lenOf pd_9 rfl) rfl (by show 2 * 0 + _ ≤ _; exact Nat.le_of_eq rfl) (hb hby at_115) (fun _ _ => ⟨rfl, e20, (by decide : 9 + 0 ≤ _), (by decide : 89 + 0 ≤ _)⟩)
    dsimp only [Pt.U, Pt.locs, Pt.cells, Pt.slots] at X21 l21 y21 z21 st21 hQ21
    subst l21 y21 z21
    obtain ⟨rfl, Nq21, Kq21, f21_0, f21_1, f21_2⟩ := hQ21
    have N21 := Fr.app N16 Nq21
    have K21 : Keep h0 T21.heap [] := K20.trans Kq21 (allS (Or.inr sz_b2) all0)
    have Z21 : n0 ≤ T21.heap.size := Nat.le_trans Z20 Kq21.1
    have hk21 : _ ≤ T21.heap.size := Nat.le_trans hk20 Kq21.1
    have c27 := (c25.keep Kq21 (ninS ne_b1_b2 nin0))
    obtain ⟨cq26, kq26, q26a, q26b, q26c⟩ := isOf hZ20 rfl f21_0
    obtain ⟨_, _, ⟨T26, L26, k26, n26⟩, -, X26, ⟨Lc26, hQ26, l26, y26, z26⟩, st26⟩ := X21.virtualBack hx (y := (⟨"com/example/wireform/wireform/amf3/AmfInput", "isAtEnd", "()Z"⟩ : MethodName)) (z := (⟨"com/example/wireform/wireform/amf3/AmfInput", "isAtEnd", "()Z"⟩ : MethodName)) hown20 (mvT hZ20 (wd hw 36 rfl)) (mvT hZ20 (wd hw 37 rfl)) (notFace_of_selects (args := #[]) (mvT hZ20 (wd hw 39 rfl))) (mvT hZ20 (wd hw 39 rfl)) (mvT hZ20 (wd hw 38 rfl)) (by decide) (backOf (W := 0) (rmE l Z a0 hw [] b2 b1 (((0 : Int32) + vK) + (1 : Int32)) k1 vN [] (.int (0 : Int32)) T21.heap n0 Z21 f21_1 f21_2 c27) hZ20 (wd hw 40 rfl) (wd hw 4 rfl) (by decide) (by decide)) q26a q26c (g := (mkF m 121 #[vi p0, vi p1, vi p2, vi vN, vi vK, vr b1, vr b2, vi (1 : Int32), vi (if ((0 : Int32) + vK) = vN then (1 : Int32) else (0 : Int32)), uu] [(.ref b2)])) rfl (by rw [hml]; rfl) (Steps.refl _) (argsL := []) (rest := []) (lenOf pd_6 rfl) rfl (by show 2 * 0 + _ ≤ _; exact Nat.le_of_eq rfl) (hb hby at_121) (fun _ _ => ⟨rfl, rfl, (by decide : 9 + 0 ≤ _), (by decide : 89 + 0 ≤ _)⟩)
    dsimp only [Pt.U, Pt.locs, Pt.cells, Pt.slots] at X26 l26 y26 z26 st26 hQ26
    subst l26 y26 z26
    obtain ⟨rfl, Nq26, eh26⟩ := hQ26
    have N26 := Fr.app N21 Nq26
    have dia28 : ∀ target, SS p e below T26 (mkF m 146 #[vi p0, vi p1, vi p2, vi vN, vi vK, vr b1, vr b2, vi (1 : Int32), vi (if ((0 : Int32) + vK) = vN then (1 : Int32) else (0 : Int32)), vi (if (((0 : Int32) + vK) + (1 : Int32)) = vN then (1 : Int32) else (0 : Int32))] [(.int (if (vK + (1 : Int32)) = vN then (1 : Int32) else (0 : Int32))), (.int (if (((0 : Int32) + vK) + (1 : Int32)) = vN then (1 : Int32) else (0 : Int32)))]) target → SS p e below T26 (mkF m 138 #[vi p0, vi p1, vi p2, vi vN, vi vK, vr b1, vr b2, vi (1 : Int32), vi (if ((0 : Int32) + vK) = vN then (1 : Int32) else (0 : Int32)), vi (if (((0 : Int32) + vK) + (1 : Int32)) = vN then (1 : Int32) else (0 : Int32))] [(.int vN), (.int (vK + (1 : Int32))), (.int (if (((0 : Int32) + vK) + (1 : Int32)) = vN then (1 : Int32) else (0 : Int32)))]) target := by
      intro target kt
      by_cases hd : (vK + (1 : Int32)) = vN
      · rw [if_pos hd] at kt
        refine XS.icmpNo X26.here hx rfl (hb hby at_138) rfl (teq (hd : (vK + (1 : Int32)) = vN)).2 ?_
        refine XS.iconst X26.here hx rfl (hb hby at_141) ?_
        refine XS.goto X26.here hx rfl (pc0 := 142) (pc' := 146) rfl (hb hby at_142) (by decide) (by decide) ?_
        exact kt
      · rw [if_neg hd] at kt
        refine XS.icmpYes X26.here hx rfl (pc0 := 138) (pc' := 145) rfl (hb hby at_138) rfl (feq (hd : ¬ ((vK + (1 : Int32)) = vN))).2 (by decide) (by decide) ?_
        refine XS.iconst X26.here hx rfl (hb hby at_145) ?_
        exact kt
    obtain ⟨fs, hr, hrun, hended, en1, en2, en3, en4⟩ := X26.leaveW hS20 (own_hk eh26 hk21) (v := some (.int (nar .boolean (1 : Int32)))) (fun h => by rw [Bd.returns] at h; cases h)
    refine ⟨_, _, pre0 _ ?_, hrun, hended, _, _, rfl, ?_, en1, en2, en3, en4.mono (by decide) (by decide)⟩
    · refine sg19 _ ?_
      show SS p e below T16 (mkF m 108 #[vi p0, vi p1, vi p2, vi vN, vi vK, vr b1, vr b2, vi (1 : Int32), vi (if ((0 : Int32) + vK) = vN then (1 : Int32) else (0 : Int32)), uu] [(.int vN), (.int vK)]) _
      refine XS.icmpNo X16.here hx rfl (hb hby at_108) rfl (tlt (hlt : vK < vN)).2.1 ?_
      show SS p e below T16 (mkF m 111 #[vi p0, vi p1, vi p2, vi vN, vi vK, vr b1, vr b2, vi (1 : Int32), vi (if ((0 : Int32) + vK) = vN then (1 : Int32) else (0 : Int32)), uu] []) _
      refine XS.aload X16.here hx rfl (hb hby at_111) rfl rfl ?_
      show SS p e below T16 (mkF m 113 #[vi p0, vi p1, vi p2, vi vN, vi vK, vr b1, vr b2, vi (1 : Int32), vi (if ((0 : Int32) + vK) = vN then (1 : Int32) else (0 : Int32)), uu] [(.ref b2)]) _
      refine st20 _ ?_
      show SS p e below T20 (mkF m 115 #[vi p0, vi p1, vi p2, vi vN, vi vK, vr b1, vr b2, vi (1 : Int32), vi (if ((0 : Int32) + vK) = vN then (1 : Int32) else (0 : Int32)), uu] [(.ref b20), (.ref b2)]) _
      refine st21.trans ?_
      show SS p e below T21 (mkF m 118 #[vi p0, vi p1, vi p2, vi vN, vi vK, vr b1, vr b2, vi (1 : Int32), vi (if ((0 : Int32) + vK) = vN then (1 : Int32) else (0 : Int32)), uu] [(.int ((0 : Int32) &&& (255 : Int32)))]) _
      refine XS.pop X21.here hx rfl (hb hby at_118) rfl rfl ?_
      show SS p e below T21 (mkF m 119 #[vi p0, vi p1, vi p2, vi vN, vi vK, vr b1, vr b2, vi (1 : Int32), vi (if ((0 : Int32) + vK) = vN then (1 : Int32) else (0 : Int32)), uu] []) _
      refine XS.aload X21.here hx rfl (hb hby at_119) rfl rfl ?_
      show SS p e below T21 (mkF m 121 #[vi p0, vi p1, vi p2, vi vN, vi vK, vr b1, vr b2, vi (1 : Int32), vi (if ((0 : Int32) + vK) = vN then (1 : Int32) else (0 : Int32)), uu] [(.ref b2)]) _
      refine st26.trans ?_
      show SS p e below T26 (mkF m 124 #[vi p0, vi p1, vi p2, vi vN, vi vK, vr b1, vr b2, vi (1 : Int32), vi (if ((0 : Int32) + vK) = vN then (1 : Int32) else (0 : Int32)), uu] [(.int (if (((0 : Int32) + vK) + (1 : Int32)) = vN then (1 : Int32) else (0 : Int32)))]) _
      refine XS.istore X26.here hx rfl (hb hby at_124) rfl (l' := #[vi p0, vi p1, vi p2, vi vN, vi vK, vr b1, vr b2, vi (1 : Int32), vi (if ((0 : Int32) + vK) = vN then (1 : Int32) else (0 : Int32)), vi (if (((0 : Int32) + vK) + (1 : Int32)) = vN then (1 : Int32) else (0 : Int32))]) rfl ?_
      show SS p e below T26 (mkF m 126 #[vi p0, vi p1, vi p2, vi vN, vi vK, vr b1, vr b2, vi (1 : Int32), vi (if ((0 : Int32) + vK) = vN then (1 : Int32) else (0 : Int32)), vi (if (((0 : Int32) + vK) + (1 : Int32)) = vN then (1 : Int32) else (0 : Int32))] []) _
      refine XS.iload X26.here hx rfl (hb hby at_126) rfl ?_
      show SS p e below T26 (mkF m 128 #[vi p0, vi p1, vi p2, vi vN, vi vK, vr b1, vr b2, vi (1 : Int32), vi (if ((0 : Int32) + vK) = vN then (1 : Int32) else (0 : Int32)), vi (if (((0 : Int32) + vK) + (1 : Int32)) = vN then (1 : Int32) else (0 : Int32))] [(.int (1 : Int32))]) _
      refine XS.ifNo X26.here hx rfl (hb hby at_128) rfl ((if0 _ _).trans (feq (by decide : ¬ ((1 : Int32) = (0 : Int32)))).1) ?_
      show SS p e below T26 (mkF m 131 #[vi p0, vi p1, vi p2, vi vN, vi vK, vr b1, vr b2, vi (1 : Int32), vi (if ((0 : Int32) + vK) = vN then (1 : Int32) else (0 : Int32)), vi (if (((0 : Int32) + vK) + (1 : Int32)) = vN then (1 : Int32) else (0 : Int32))] []) _
      refine XS.iload X26.here hx rfl (hb hby at_131) rfl ?_
      show SS p e below T26 (mkF m 133 #[vi p0, vi p1, vi p2, vi vN, vi vK, vr b1, vr b2, vi (1 : Int32), vi (if ((0 : Int32) + vK) = vN then (1 : Int32) else (0 : Int32)), vi (if (((0 : Int32) + vK) + (1 : Int32)) = vN then (1 : Int32) else (0 : Int32))] [(.int (if (((0 : Int32) + vK) + (1 : Int32)) = vN then (1 : Int32) else (0 : Int32)))]) _
      refine XS.iload X26.here hx rfl (hb hby at_133) rfl ?_
      show SS p e below T26 (mkF m 135 #[vi p0, vi p1, vi p2, vi vN, vi vK, vr b1, vr b2, vi (1 : Int32), vi (if ((0 : Int32) + vK) = vN then (1 : Int32) else (0 : Int32)), vi (if (((0 : Int32) + vK) + (1 : Int32)) = vN then (1 : Int32) else (0 : Int32))] [(.int vK), (.int (if (((0 : Int32) + vK) + (1 : Int32)) = vN then (1 : Int32) else (0 : Int32)))]) _
      refine XS.iconst X26.here hx rfl (hb hby at_135) ?_
      show SS p e below T26 (mkF m 136 #[vi p0, vi p1, vi p2, vi vN, vi vK, vr b1, vr b2, vi (1 : Int32), vi (if ((0 : Int32) + vK) = vN then (1 : Int32) else (0 : Int32)), vi (if (((0 : Int32) + vK) + (1 : Int32)) = vN then (1 : Int32) else (0 : Int32))] [(.int (1 : Int32)), (.int vK), (.int (if (((0 : Int32) + vK) + (1 : Int32)) = vN then (1 : Int32) else (0 : Int32)))]) _
      refine XS.iadd X26.here hx rfl (hb hby at_136) rfl ?_
      show SS p e below T26 (mkF m 137 #[vi p0, vi p1, vi p2, vi vN, vi vK, vr b1, vr b2, vi (1 : Int32), vi (if ((0 : Int32) + vK) = vN then (1 : Int32) else (0 : Int32)), vi (if (((0 : Int32) + vK) + (1 : Int32)) = vN then (1 : Int32) else (0 : Int32))] [(.int (vK + (1 : Int32))), (.int (if (((0 : Int32) + vK) + (1 : Int32)) = vN then (1 : Int32) else (0 : Int32)))]) _
      refine XS.iloadN X26.here hx rfl (hb hby at_137) rfl ?_
      show SS p e below T26 (mkF m 138 #[vi p0, vi p1, vi p2, vi vN, vi vK, vr b1, vr b2, vi (1 : Int32), vi (if ((0 : Int32) + vK) = vN then (1 : Int32) else (0 : Int32)), vi (if (((0 : Int32) + vK) + (1 : Int32)) = vN then (1 : Int32) else (0 : Int32))] [(.int vN), (.int (vK + (1 : Int32))), (.int (if (((0 : Int32) + vK) + (1 : Int32)) = vN then (1 : Int32) else (0 : Int32)))]) _
      refine dia28 _ ?_
      show SS p e below T26 (mkF m 146 #[vi p0, vi p1, vi p2, vi vN, vi vK, vr b1, vr b2, vi (1 : Int32), vi (if ((0 : Int32) + vK) = vN then (1 : Int32) else (0 : Int32)), vi (if (((0 : Int32) + vK) + (1 : Int32)) = vN then (1 : Int32) else (0 : Int32))] [(.int (if (vK + (1 : Int32)) = vN then (1 : Int32) else (0 : Int32))), (.int (if (((0 : Int32) + vK) + (1 : Int32)) = vN then (1 : Int32) else (0 : Int32)))]) _
      refine XS.icmpNo X26.here hx rfl (hb hby at_146) rfl (teq (by rw [oz] : (if (((0 : Int32) + vK) + (1 : Int32)) = vN then (1 : Int32) else (0 : Int32)) = (if (vK + (1 : Int32)) = vN then (1 : Int32) else (0 : Int32)))).2 ?_
      show SS p e below T26 (mkF m 149 #[vi p0, vi p1, vi p2, vi vN, vi vK, vr b1, vr b2, vi (1 : Int32), vi (if ((0 : Int32) + vK) = vN then (1 : Int32) else (0 : Int32)), vi (if (((0 : Int32) + vK) + (1 : Int32)) = vN then (1 : Int32) else (0 : Int32))] []) _
      refine XS.iconst X26.here hx rfl (hb hby at_149) ?_
      show SS p e below T26 (mkF m 150 #[vi p0, vi p1, vi p2, vi vN, vi vK, vr b1, vr b2, vi (1 : Int32), vi (if ((0 : Int32) + vK) = vN then (1 : Int32) else (0 : Int32)), vi (if (((0 : Int32) + vK) + (1 : Int32)) = vN then (1 : Int32) else (0 : Int32))] [(.int (1 : Int32))]) _
      refine XS.goto X26.here hx rfl (pc0 := 150) (pc' := 154) rfl (hb hby at_150) (by decide) (by decide) ?_
      show SS p e below T26 (mkF m 154 #[vi p0, vi p1, vi p2, vi vN, vi vK, vr b1, vr b2, vi (1 : Int32), vi (if ((0 : Int32) + vK) = vN then (1 : Int32) else (0 : Int32)), vi (if (((0 : Int32) + vK) + (1 : Int32)) = vN then (1 : Int32) else (0 : Int32))] [(.int (1 : Int32))]) _
      refine XS.istore X26.here hx rfl (hb hby at_154) rfl (l' := #[vi p0, vi p1, vi p2, vi vN, vi vK, vr b1, vr b2, vi (1 : Int32), vi (if ((0 : Int32) + vK) = vN then (1 : Int32) else (0 : Int32)), vi (if (((0 : Int32) + vK) + (1 : Int32)) = vN then (1 : Int32) else (0 : Int32))]) rfl ?_
      show SS p e below T26 (mkF m 156 #[vi p0, vi p1, vi p2, vi vN, vi vK, vr b1, vr b2, vi (1 : Int32), vi (if ((0 : Int32) + vK) = vN then (1 : Int32) else (0 : Int32)), vi (if (((0 : Int32) + vK) + (1 : Int32)) = vN then (1 : Int32) else (0 : Int32))] []) _
      refine XS.iload X26.here hx rfl (hb hby at_156) rfl ?_
      show SS p e below T26 (mkF m 158 #[vi p0, vi p1, vi p2, vi vN, vi vK, vr b1, vr b2, vi (1 : Int32), vi (if ((0 : Int32) + vK) = vN then (1 : Int32) else (0 : Int32)), vi (if (((0 : Int32) + vK) + (1 : Int32)) = vN then (1 : Int32) else (0 : Int32))] [(.int (1 : Int32))]) _
      exact retN X26 hx (t := .boolean) Bd.returns (by simp) (hb hby at_158) hr
    · show Q_rm0 Z p0 p1 p2 vN vK vD h0 n0 _ T26.heap _
      rw [eh26]
      exact ⟨rfl, N26⟩
  · obtain ⟨fs, hr, hrun, hended, en1, en2, en3, en4⟩ := X16.leaveW hS9 (own_hk eh16 hk10) (v := some (.int (nar .boolean (1 : Int32)))) (fun h => by rw [Bd.returns] at h; cases h)
    refine ⟨_, _, pre0 _ ?_, hrun, hended, _, _, rfl, ?_, en1, en2, en3, en4.mono (by decide) (by decide)⟩
    · refine sg19 _ ?_
      show SS p e below T16 (mkF m 108 #[vi p0, vi p1, vi p2, vi vN, vi vK, vr b1, vr b2, vi (1 : Int32), vi (if ((0 : Int32) + vK) = vN then (1 : Int32) else (0 : Int32)), uu] [(.int vN), (.int vK)]) _
      refine XS.icmpYes X16.here hx rfl (pc0 := 108) (pc' := 156) rfl (hb hby at_108) rfl (flt (hlt : ¬ (vK < vN))).2.1 (by decide) (by decide) ?_
      show SS p e below T16 (mkF m 156 #[vi p0, vi p1, vi p2, vi vN, vi vK, vr b1, vr b2, vi (1 : Int32), vi (if ((0 : Int32) + vK) = vN then (1 : Int32) else (0 : Int32)), uu] []) _
      refine XS.iload X16.here hx rfl (hb hby at_156) rfl ?_
      show SS p e below T16 (mkF m 158 #[vi p0, vi p1, vi p2, vi vN, vi vK, vr b1, vr b2, vi (1 : Int32), vi (if ((0 : Int32) + vK) = vN then (1 : Int32) else (0 : Int32)), uu] [(.int (1 : Int32))]) _
      exact retN X16 hx (t := .boolean) Bd.returns (by simp) (hb hby at_158) hr
    · show Q_rm0 Z p0 p1 p2 vN vK vD h0 n0 _ T16.heap _
      rw [eh16]
      exact ⟨rfl, N16⟩
set_option maxRecDepth 65536 in
set_option maxHeartbeats 40000000 in
theorem comes_1 {Post : Tables → Env → Array Value → State → Outcome → State → Prop} (hpost : ∀ tb e args s v u, (limb_1_1.after args s (.returned v) u = true ∧ limb_1_2.after args s (.returned v) u = true ∧ True) → ReturnedEndW s (.returned v) u (Jvm.fieldLocs frame_1_writes args s ++ Jvm.arrayLocs frame_1_arrays args s ++ Jvm.staticLocs frame_1_statics s) 24 3200 → Post tb e args s (.returned v) u) :
    ArmFor flags0 classFile x code maxLocals ret World_1 tables_1 room_1 Calls_1 rest_1 Pre_1 Post := by
  intro l hfl _ _ p e ha hc hk s m args below hf hA hF happ hP
  obtain ⟨hcalls, hrest, hpre⟩ := hP
  obtain ⟨-, -, -, hnamed, -, -, -, hat⟩ := (Spec.applies_iff hf).mp happ
  obtain ⟨hg, hn⟩ := and_e (Cond.before_iff.mp (show (Jvm.Cond.and given_1 narrow_1).before args s = true from hpre))
  obtain ⟨g1, g2⟩ := and_e hg
  obtain ⟨g3, g4⟩ := and_e g2
  obtain ⟨g5, g6⟩ := and_e g4
  obtain ⟨w0, w1, w2, rfl⟩ : ∃ w0 w1 w2 : Value, args = #[w0, w1, w2] := by
    have hs : args.size = 3 := by simpa [Cond.value, given_1] using g1
    obtain ⟨L⟩ := args
    match L, hs with
    | [w0, w1, w2], _ => exact ⟨w0, w1, w2, rfl⟩
  have hw := fun d (hd : d ∈ tables_1) => atoms_spec (ws := Jvm.Cond.code x code maxLocals ret :: tables_1) hat d (List.mem_cons_of_mem _ hd)
  have hfit : Fit s := fun {y c} hc i hi => by
    obtain ⟨ha, rfl⟩ := Array.getElem?_eq_some_iff.mp hc
    have q := List.all_eq_true.mp ((Array.all_eq_true_iff_forall_mem.mp hF) _ (Array.getElem_mem ha)) i (List.mem_range.mpr hi)
    simpa [Array.getElem?_eq_getElem hi] using q
  obtain ⟨i0, ei0⟩ := is_v g3
  obtain rfl : w0 = (.int i0) := Option.some.inj ei0
  obtain ⟨i1, ei1⟩ := is_v g5
  obtain rfl : w1 = (.int i1) := Option.some.inj ei1
  obtain ⟨i2, ei2⟩ := is_v g6
  obtain rfl : w2 = (.int i2) := Option.some.inj ei2
  have h7 := own_and7 i0
  have hs := own_start i1 h7.1 h7.2
  obtain ⟨n, o, h1, h2, h3, _, L, rfl, ⟨rfl, N⟩, hq⟩ := rm0 l s _ hw tables_1 i0 i1 i2 _ _ _ s.heap s.heap.size (Nat.le_refl _) rfl rfl rfl hs.1 (own_max i2) h7.1 h7.2 hs.2.1 hs.2.2 p e ha hc hk s m _ below hf ((Spec.applies_iff_loose hf).mp happ).1 ⟨rfl, State.Warmed39.refl s, rfl⟩ trivial
  refine ⟨n, _, h1, h2, h3, hpost _ _ _ _ _ _ ⟨Cond.after_iff.mpr rfl, Cond.after_iff.mpr (eq_i res_at (Term.int_eval (1)) rfl), trivial⟩ ⟨hq.1, hq.2.1, hq.2.2.1, (hq.2.2.2.sift fun y hy => Or.inr (N y hy)).mono (by decide) (by decide)⟩⟩
theorem main_1_1 : Claimed_1_1 := comes_1 fun _ _ _ _ _ _ h hF => ⟨h.1, hF⟩
theorem main_1_2 : Claimed_1_2 := comes_1 fun _ _ _ _ _ _ h hF => ⟨h.2.1, hF⟩
end Jvm.Pilot.@@N@@
namespace Jvm.Pilot.@@N@@
open Jvm Jvm.ClassFile Sem Op Lib Jvm.Free Jvm.Stand Jvm.Pilot.@@N@@.Jvm.D
/-! MADE BY PROGRAM (witnessworld.py) out of the Statement's table words and the real class files: 19 classes; the members and pool entries that the words name. The judged class is class 1, her method 1. -/
namespace start1
open Jvm.ClassFile
def u (s : String) : CpInfo := .utf8 (stringToUtf16 s)
/-- a pool by its gaps: so many unusable entries, then the entry; so many at the end -/
def gap : Nat → List CpInfo → List CpInfo
  | 0, r => r
  | n + 1, r => .unusable :: gap n r
def poolList (es : List (Nat × CpInfo)) (last : Nat) : List CpInfo := es.foldr (fun e r => gap e.1 (e.2 :: r)) (gap last [])
def pool (es : List (Nat × CpInfo)) (last : Nat) : Array CpInfo := ⟨poolList es last⟩
def fileOf (pool : Array CpInfo) (this : Nat) (attrs : Array Attribute := #[]) (ms : Array MethodInfo := #[]) (fl : Nat := 33) (sup : Nat := 0) (ifs : Array Nat := #[]) (fds : Array FieldInfo := #[]) : ClassFile where
  minorVersion := 0
  majorVersion := 65
  constantPool := pool
  accessFlags := fl
  thisClass := this
  superClass := sup
  interfaces := ifs
  fields := fds
  methods := ms
  attributes := attrs
def plain (name : String) (sup : Option ClassId) : Class where
  name := name
  kind := .ordinary
  loader := none
  accessFlags := 33
  super := sup
  interfaces := #[]
  cf := none
  fields := #[]
  methods := #[]
  instanceTypes := #[]
  staticTypes := #[]
  resolved := #[]
  callSites := []
  init := .initialized
  statics := none
  mirror := none

def pool0 : Array CpInfo := pool [(5, u "<init>"), (0, u "()V"), (1, .class_ 10), (1, u "java/lang/Object"), (85, u "clone"), (0, u "()Ljava/lang/Object;")] 26

def k0c0 : Code := { maxStack := 0, maxLocals := 1, code := object_method_1_code, exceptionTable := #[], attributes := #[] }
def k0m0 : Method := { name := "<init>", desc := "()V", sig := { parameters := [], returnType := none }, accessFlags := 1, code := some k0c0 }
def k0m1 : Method := { name := "clone", desc := "()Ljava/lang/Object;", sig := { parameters := [], returnType := some (.object "java/lang/Object") }, accessFlags := 260, code := none }
/-- java/lang/Object -/
def k0 : Class := { plain "java/lang/Object" none with
  accessFlags := 33
  interfaces := #[]
  cf := some (fileOf pool0 8 #[] #[{ accessFlags := 1, nameIndex := 5, descriptorIndex := 6, attributes := #[] }, { accessFlags := 260, nameIndex := 96, descriptorIndex := 97, attributes := #[] }] 33 0 #[] #[])
  fields := #[]
  methods := #[k0m0, k0m1]
  instanceTypes := #[]
  staticTypes := #[]
  resolved := Array.replicate 124 none
  statics := none }

def pool1 : Array CpInfo := pool [(2, .class_ 4), (1, u "java/lang/Object"), (0, u "<init>"), (0, u "()V"), (0, .integer 2147483647), (0, .class_ 9), (0, u "com/example/wireform/wireform/amf3/AmfInput"), (0, .methodref 11 12), (0, .class_ 13), (0, .nameAndType 14 15), (0, u "java/lang/Math"), (0, u "max"), (0, u "(II)I"), (0, .methodref 8 17), (0, .nameAndType 5 18), (0, u "([BI)V"), (0, .methodref 8 20), (0, .nameAndType 21 22), (0, u "isAtEnd"), (0, u "()Z"), (0, .string 24), (0, u "bytes"), (0, .methodref 8 26), (0, .nameAndType 27 28), (0, u "readBytes"), (0, u "(ILjava/lang/String;)[B"), (0, .string 30), (0, u "byte"), (0, .methodref 8 32), (0, .nameAndType 33 34), (0, u "readByte"), (0, u "(Ljava/lang/String;)I"), (0, .class_ 36), (0, u "com/example/wireform/wireform/amf3/AmfInputIsAtEndPinLaw"), (2, u "law"), (0, u "(III)Z")] 5

def k1m0 : Method := { name := "<init>", desc := "()V", sig := { parameters := [], returnType := none }, accessFlags := 1, code := none }
def k1c1 : Code := { maxStack := 5, maxLocals := 10, code := code, exceptionTable := #[], attributes := #[] }
def k1m1 : Method := { name := "law", desc := "(III)Z", sig := { parameters := [.int, .int, .int], returnType := some .boolean }, accessFlags := 9, code := some k1c1 }
/-- com/example/wireform/wireform/amf3/AmfInputIsAtEndPinLaw -/
def k1 : Class := { plain "com/example/wireform/wireform/amf3/AmfInputIsAtEndPinLaw" (some 0) with
  accessFlags := 49
  interfaces := #[]
  cf := some (fileOf pool1 35 #[] #[{ accessFlags := 1, nameIndex := 5, descriptorIndex := 6, attributes := #[] }, { accessFlags := 9, nameIndex := 39, descriptorIndex := 40, attributes := #[] }] 49 2 #[] #[])
  fields := #[]
  methods := #[k1m0, k1m1]
  instanceTypes := #[]
  staticTypes := #[]
  resolved := Array.replicate 46 none
  statics := none }

def pool2 : Array CpInfo := pool [(1, .class_ 2), (0, u "com/example/wireform/wireform/mapping/Conversions"), (0, .class_ 4), (0, u "com/example/wireform/wireform/amf3/AmfInput"), (2, u "<init>"), (0, u "([BI)V"), (0, .methodref 10 11), (0, .class_ 12), (0, .nameAndType 7 13), (0, u "java/lang/Object"), (0, u "()V"), (0, .string 15), (0, u "bytes"), (0, .methodref 17 18), (0, .class_ 19), (0, .nameAndType 20 21), (0, u "java/util/Objects"), (0, u "requireNonNull"), (0, u "(Ljava/lang/Object;Ljava/lang/String;)Ljava/lang/Object;"), (0, .class_ 23), (0, u "[B"), (0, .fieldref 3 25), (0, .nameAndType 15 23), (0, .methodref 1 27), (0, .nameAndType 28 29), (0, u "requireDepthLimit"), (0, u "(I)I"), (0, .fieldref 3 31), (0, .nameAndType 32 33), (0, u "maxDepth"), (0, u "I"), (0, .fieldref 3 35), (0, .nameAndType 36 33), (0, u "position"), (0, .class_ 38), (0, u "com/example/wireform/wireform/amf3/AmfInput$Mark"), (2, u "valueStart"), (2, u "depth"), (21, .methodref 3 67), (0, .nameAndType 68 69), (0, u "isAtEnd"), (0, u "()Z"), (5, u "readByte"), (0, u "(Ljava/lang/String;)I"), (5, .methodref 3 83), (0, .nameAndType 84 85), (0, u "require"), (0, u "(JLjava/lang/String;)V"), (6, .methodref 93 94), (0, .class_ 95), (0, .nameAndType 96 97), (0, u "java/util/Arrays"), (0, u "copyOfRange"), (0, u "([BII)[B"), (25, u "DEFAULT_MAX_DEPTH"), (21, u "readBytes"), (0, u "(ILjava/lang/String;)[B")] 29

def k2c0 : Code := { maxStack := 3, maxLocals := 3, code := prog_14_method_2_code, exceptionTable := #[], attributes := #[] }
def k2m0 : Method := { name := "<init>", desc := "([BI)V", sig := { parameters := [(.array .byte), .int], returnType := none }, accessFlags := 1, code := some k2c0 }
def k2c1 : Code := { maxStack := 2, maxLocals := 1, code := prog_14_method_4_code, exceptionTable := #[], attributes := #[] }
def k2m1 : Method := { name := "isAtEnd", desc := "()Z", sig := { parameters := [], returnType := some .boolean }, accessFlags := 1, code := some k2c1 }
def k2c2 : Code := { maxStack := 5, maxLocals := 2, code := prog_14_method_13_code, exceptionTable := #[], attributes := #[] }
def k2m2 : Method := { name := "readByte", desc := "(Ljava/lang/String;)I", sig := { parameters := [(.object "java/lang/String")], returnType := some .int }, accessFlags := 1, code := some k2c2 }
def k2c3 : Code := { maxStack := 4, maxLocals := 4, code := prog_14_method_17_code, exceptionTable := #[], attributes := #[] }
def k2m3 : Method := { name := "readBytes", desc := "(ILjava/lang/String;)[B", sig := { parameters := [.int, (.object "java/lang/String")], returnType := some (.array .byte) }, accessFlags := 1, code := some k2c3 }
def k2c4 : Code := { maxStack := 5, maxLocals := 5, code := prog_14_method_19_code, exceptionTable := #[], attributes := #[] }
def k2m4 : Method := { name := "require", desc := "(JLjava/lang/String;)V", sig := { parameters := [.long, (.object "java/lang/String")], returnType := none }, accessFlags := 1, code := some k2c4 }
/-- com/example/wireform/wireform/amf3/AmfInput -/
def k2 : Class := { plain "com/example/wireform/wireform/amf3/AmfInput" (some 0) with
  accessFlags := 49
  interfaces := #[]
  cf := some (fileOf pool2 3 #[.nestMembers #[37]] #[{ accessFlags := 1, nameIndex := 7, descriptorIndex := 8, attributes := #[] }, { accessFlags := 1, nameIndex := 68, descriptorIndex := 69, attributes := #[] }, { accessFlags := 1, nameIndex := 75, descriptorIndex := 76, attributes := #[] }, { accessFlags := 1, nameIndex := 145, descriptorIndex := 146, attributes := #[] }, { accessFlags := 1, nameIndex := 84, descriptorIndex := 85, attributes := #[] }] 49 10 #[] #[{ accessFlags := 25, nameIndex := 123, descriptorIndex := 33, attributes := #[] }, { accessFlags := 18, nameIndex := 15, descriptorIndex := 23, attributes := #[] }, { accessFlags := 18, nameIndex := 32, descriptorIndex := 33, attributes := #[] }, { accessFlags := 2, nameIndex := 36, descriptorIndex := 33, attributes := #[] }, { accessFlags := 2, nameIndex := 41, descriptorIndex := 33, attributes := #[] }, { accessFlags := 2, nameIndex := 44, descriptorIndex := 33, attributes := #[] }])
  fields := #[{ name := "DEFAULT_MAX_DEPTH", type := .int, accessFlags := 25, slot := 0, constantValue := 0 }, { name := "bytes", type := (.array .byte), accessFlags := 18, slot := 0, constantValue := 0 }, { name := "maxDepth", type := .int, accessFlags := 18, slot := 1, constantValue := 0 }, { name := "position", type := .int, accessFlags := 2, slot := 2, constantValue := 0 }, { name := "valueStart", type := .int, accessFlags := 2, slot := 3, constantValue := 0 }, { name := "depth", type := .int, accessFlags := 2, slot := 4, constantValue := 0 }]
  methods := #[k2m0, k2m1, k2m2, k2m3, k2m4]
  instanceTypes := #[(.array .byte), .int, .int, .int, .int]
  staticTypes := #[.int]
  resolved := Array.replicate 176 none
  statics := none }

def pool3 : Array CpInfo := pool [(1, .class_ 2), (0, u "java/lang/Math"), (1, .class_ 6), (1, u "java/lang/Object"), (0, u "<init>"), (0, u "()V"), (89, .class_ 100), (1, u "java/lang/Math$RandomNumberGeneratorHolder"), (71, u "negativeZeroFloatBits"), (0, u "J"), (2, u "negativeZeroDoubleBits"), (21, u "max"), (2, u "min"), (43, u "$assertionsDisabled"), (0, u "Z"), (88, u "(II)I"), (2, u "twoToTheDoubleScaleDown"), (0, u "D"), (4, u "twoToTheDoubleScaleUp"), (9, u "E"), (3, u "PI"), (2, u "TAU"), (2, u "DEGREES_TO_RADIANS"), (0, u "RADIANS_TO_DEGREES")] 94

def k3m0 : Method := { name := "<init>", desc := "()V", sig := { parameters := [], returnType := none }, accessFlags := 2, code := none }
def k3c1 : Code := { maxStack := 2, maxLocals := 2, code := jdk_29_method_65_code, exceptionTable := #[], attributes := #[] }
def k3m1 : Method := { name := "max", desc := "(II)I", sig := { parameters := [.int, .int], returnType := some .int }, accessFlags := 9, code := some k3c1 }
def k3c2 : Code := { maxStack := 2, maxLocals := 2, code := jdk_29_method_69_code, exceptionTable := #[], attributes := #[] }
def k3m2 : Method := { name := "min", desc := "(II)I", sig := { parameters := [.int, .int], returnType := some .int }, accessFlags := 9, code := some k3c2 }
/-- java/lang/Math -/
def k3 : Class := { plain "java/lang/Math" (some 0) with
  accessFlags := 49
  interfaces := #[]
  cf := some (fileOf pool3 1 #[.nestMembers #[98]] #[{ accessFlags := 2, nameIndex := 7, descriptorIndex := 8, attributes := #[] }, { accessFlags := 9, nameIndex := 198, descriptorIndex := 335, attributes := #[] }, { accessFlags := 9, nameIndex := 201, descriptorIndex := 335, attributes := #[] }] 49 4 #[] #[{ accessFlags := 25, nameIndex := 354, descriptorIndex := 339, attributes := #[] }, { accessFlags := 25, nameIndex := 358, descriptorIndex := 339, attributes := #[] }, { accessFlags := 25, nameIndex := 361, descriptorIndex := 339, attributes := #[] }, { accessFlags := 26, nameIndex := 364, descriptorIndex := 339, attributes := #[] }, { accessFlags := 26, nameIndex := 365, descriptorIndex := 339, attributes := #[] }, { accessFlags := 26, nameIndex := 172, descriptorIndex := 173, attributes := #[] }, { accessFlags := 26, nameIndex := 176, descriptorIndex := 173, attributes := #[] }, { accessFlags := 8, nameIndex := 344, descriptorIndex := 339, attributes := #[] }, { accessFlags := 8, nameIndex := 338, descriptorIndex := 339, attributes := #[] }, { accessFlags := 4120, nameIndex := 245, descriptorIndex := 246, attributes := #[] }])
  fields := #[{ name := "E", type := .double, accessFlags := 25, slot := 0, constantValue := 0 }, { name := "PI", type := .double, accessFlags := 25, slot := 1, constantValue := 0 }, { name := "TAU", type := .double, accessFlags := 25, slot := 2, constantValue := 0 }, { name := "DEGREES_TO_RADIANS", type := .double, accessFlags := 26, slot := 3, constantValue := 0 }, { name := "RADIANS_TO_DEGREES", type := .double, accessFlags := 26, slot := 4, constantValue := 0 }, { name := "negativeZeroFloatBits", type := .long, accessFlags := 26, slot := 5, constantValue := 0 }, { name := "negativeZeroDoubleBits", type := .long, accessFlags := 26, slot := 6, constantValue := 0 }, { name := "twoToTheDoubleScaleUp", type := .double, accessFlags := 8, slot := 7, constantValue := 0 }, { name := "twoToTheDoubleScaleDown", type := .double, accessFlags := 8, slot := 8, constantValue := 0 }, { name := "$assertionsDisabled", type := .boolean, accessFlags := 4120, slot := 9, constantValue := 0 }]
  methods := #[k3m0, k3m1, k3m2]
  instanceTypes := #[]
  staticTypes := #[.double, .double, .double, .double, .double, .long, .long, .double, .double, .boolean]
  resolved := Array.replicate 460 none
  statics := none }

def pool4 : Array CpInfo := pool [(1, .class_ 2), (0, u "java/io/Serializable"), (0, .class_ 4), (0, u "java/lang/Object")] 2

/-- java/io/Serializable -/
def k4 : Class := { plain "java/io/Serializable" (some 0) with
  accessFlags := 1537
  interfaces := #[]
  cf := some (fileOf pool4 1 #[] #[] 1537 3 #[] #[])
  fields := #[]
  methods := #[]
  instanceTypes := #[]
  staticTypes := #[]
  resolved := Array.replicate 7 none
  statics := none }

def pool5 : Array CpInfo := pool [(1, .class_ 2), (0, u "java/lang/Comparable"), (0, .class_ 4), (0, u "java/lang/Object")] 7

/-- java/lang/Comparable -/
def k5 : Class := { plain "java/lang/Comparable" (some 0) with
  accessFlags := 1537
  interfaces := #[]
  cf := some (fileOf pool5 1 #[] #[] 1537 3 #[] #[])
  fields := #[]
  methods := #[]
  instanceTypes := #[]
  staticTypes := #[]
  resolved := Array.replicate 12 none
  statics := none }

def pool6 : Array CpInfo := pool [(2, .class_ 4), (1, u "java/lang/CharSequence"), (42, .class_ 48), (0, u "java/lang/CharSequence$1CodePointIterator"), (10, .class_ 60), (0, u "java/lang/CharSequence$1CharIterator"), (5, .class_ 67), (0, u "java/lang/Object")] 63

/-- java/lang/CharSequence -/
def k6 : Class := { plain "java/lang/CharSequence" (some 0) with
  accessFlags := 1537
  interfaces := #[]
  cf := some (fileOf pool6 2 #[.nestMembers #[47, 59]] #[] 1537 66 #[] #[])
  fields := #[]
  methods := #[]
  instanceTypes := #[]
  staticTypes := #[]
  resolved := Array.replicate 131 none
  statics := none }

def pool7 : Array CpInfo := pool [(1, .class_ 2), (0, u "java/lang/constant/Constable"), (0, .class_ 4), (0, u "java/lang/Object")] 6

/-- java/lang/constant/Constable -/
def k7 : Class := { plain "java/lang/constant/Constable" (some 0) with
  accessFlags := 1537
  interfaces := #[]
  cf := some (fileOf pool7 1 #[] #[] 1537 3 #[] #[])
  fields := #[]
  methods := #[]
  instanceTypes := #[]
  staticTypes := #[]
  resolved := Array.replicate 11 none
  statics := none }

def pool8 : Array CpInfo := pool [(1, .class_ 2), (0, u "java/lang/constant/ConstantDesc"), (0, .class_ 4), (0, u "java/lang/Object")] 32

/-- java/lang/constant/ConstantDesc -/
def k8 : Class := { plain "java/lang/constant/ConstantDesc" (some 0) with
  accessFlags := 1537
  interfaces := #[]
  cf := some (fileOf pool8 1 #[] #[] 1537 3 #[] #[])
  fields := #[]
  methods := #[]
  instanceTypes := #[]
  staticTypes := #[]
  resolved := Array.replicate 37 none
  statics := none }

def pool9 : Array CpInfo := pool [(2, .class_ 4), (1, u "java/lang/Object"), (0, u "<init>"), (0, u "()V"), (3, .class_ 12), (1, u "java/lang/String"), (0, u "value"), (0, u "[B"), (2, u "coder"), (0, u "B"), (2, u "hash"), (0, u "I"), (2, u "hashIsZero"), (0, u "Z"), (13, u "COMPACT_STRINGS"), (534, .class_ 576), (0, u "java/lang/CharSequence"), (22, u "CASE_INSENSITIVE_ORDER"), (0, u "Ljava/util/Comparator;"), (500, u "serialPersistentFields"), (0, u "[Ljava/io/ObjectStreamField;"), (0, .class_ 1104), (0, u "java/lang/String$CaseInsensitiveComparator"), (1, .class_ 1107), (0, u "java/io/Serializable"), (0, .class_ 1109), (0, u "java/lang/Comparable"), (0, .class_ 1111), (0, u "java/lang/constant/Constable"), (0, .class_ 1113), (0, u "java/lang/constant/ConstantDesc"), (2, u "serialVersionUID"), (0, u "J"), (3, u "REPL"), (0, u "C"), (2, u "LATIN1"), (1, u "UTF16")] 323

def k9m0 : Method := { name := "<init>", desc := "()V", sig := { parameters := [], returnType := none }, accessFlags := 1, code := none }
/-- java/lang/String -/
def k9 : Class := { plain "java/lang/String" (some 0) with
  accessFlags := 49
  interfaces := #[4, 5, 6, 7, 8]
  cf := some (fileOf pool9 10 #[.nestMembers #[1103]] #[{ accessFlags := 1, nameIndex := 5, descriptorIndex := 6, attributes := #[] }] 49 2 #[1106, 1108, 575, 1110, 1112] #[{ accessFlags := 18, nameIndex := 13, descriptorIndex := 14, attributes := #[] }, { accessFlags := 18, nameIndex := 17, descriptorIndex := 18, attributes := #[] }, { accessFlags := 2, nameIndex := 21, descriptorIndex := 22, attributes := #[] }, { accessFlags := 2, nameIndex := 25, descriptorIndex := 26, attributes := #[] }, { accessFlags := 26, nameIndex := 1116, descriptorIndex := 1117, attributes := #[] }, { accessFlags := 24, nameIndex := 40, descriptorIndex := 26, attributes := #[] }, { accessFlags := 26, nameIndex := 1101, descriptorIndex := 1102, attributes := #[] }, { accessFlags := 26, nameIndex := 1121, descriptorIndex := 1122, attributes := #[] }, { accessFlags := 25, nameIndex := 599, descriptorIndex := 600, attributes := #[] }, { accessFlags := 24, nameIndex := 1125, descriptorIndex := 18, attributes := #[] }, { accessFlags := 24, nameIndex := 1127, descriptorIndex := 18, attributes := #[] }])
  fields := #[{ name := "value", type := (.array .byte), accessFlags := 18, slot := 0, constantValue := 0 }, { name := "coder", type := .byte, accessFlags := 18, slot := 1, constantValue := 0 }, { name := "hash", type := .int, accessFlags := 2, slot := 2, constantValue := 0 }, { name := "hashIsZero", type := .boolean, accessFlags := 2, slot := 3, constantValue := 0 }, { name := "serialVersionUID", type := .long, accessFlags := 26, slot := 0, constantValue := 0 }, { name := "COMPACT_STRINGS", type := .boolean, accessFlags := 24, slot := 1, constantValue := 0 }, { name := "serialPersistentFields", type := (.array (.object "java/io/ObjectStreamField")), accessFlags := 26, slot := 2, constantValue := 0 }, { name := "REPL", type := .char, accessFlags := 26, slot := 3, constantValue := 0 }, { name := "CASE_INSENSITIVE_ORDER", type := (.object "java/util/Comparator"), accessFlags := 25, slot := 4, constantValue := 0 }, { name := "LATIN1", type := .byte, accessFlags := 24, slot := 5, constantValue := 0 }, { name := "UTF16", type := .byte, accessFlags := 24, slot := 6, constantValue := 0 }]
  methods := #[k9m0]
  instanceTypes := #[(.array .byte), .byte, .int, .boolean]
  staticTypes := #[.long, .boolean, (.array (.object "java/io/ObjectStreamField")), .char, (.object "java/util/Comparator"), .byte, .byte]
  resolved := Array.replicate 1451 none
  statics := none }

def pool10 : Array CpInfo := pool [(2, .class_ 4), (1, u "java/lang/Object"), (0, u "<init>"), (0, u "()V"), (35, .class_ 44), (1, u "java/util/Objects"), (0, u "requireNonNull"), (48, u "(Ljava/lang/Object;Ljava/lang/String;)Ljava/lang/Object;")] 89

def k10m0 : Method := { name := "<init>", desc := "()V", sig := { parameters := [], returnType := none }, accessFlags := 2, code := none }
def k10c1 : Code := { maxStack := 3, maxLocals := 2, code := jdk_31_method_11_code, exceptionTable := #[], attributes := #[] }
def k10m1 : Method := { name := "requireNonNull", desc := "(Ljava/lang/Object;Ljava/lang/String;)Ljava/lang/Object;", sig := { parameters := [(.object "java/lang/Object"), (.object "java/lang/String")], returnType := some (.object "java/lang/Object") }, accessFlags := 9, code := some k10c1 }
/-- java/util/Objects -/
def k10 : Class := { plain "java/util/Objects" (some 0) with
  accessFlags := 49
  interfaces := #[]
  cf := some (fileOf pool10 42 #[] #[{ accessFlags := 2, nameIndex := 5, descriptorIndex := 6, attributes := #[] }, { accessFlags := 9, nameIndex := 45, descriptorIndex := 94, attributes := #[] }] 49 2 #[] #[])
  fields := #[]
  methods := #[k10m0, k10m1]
  instanceTypes := #[]
  staticTypes := #[]
  resolved := Array.replicate 184 none
  statics := none }

def pool11 : Array CpInfo := pool [(6, .class_ 8), (1, u "com/example/wireform/wireform/mapping/Conversions"), (3, .class_ 14), (1, u "java/lang/Object"), (6, u "converted"), (0, u "Ljava/util/Map;"), (8, u "reading"), (0, u "Ljava/util/Set;"), (0, .class_ 34), (0, u "com/example/wireform/wireform/mapping/Conversions$Mark"), (3, u "unfinished"), (0, u "Lcom/example/wireform/wireform/mapping/Conversions$Mark;"), (5, u "waiting"), (0, u "Ljava/util/Queue;"), (1, u "mapping"), (10, u "Lcom/example/wireform/wireform/mapping/Mapping;"), (2, u "requireDepthLimit"), (0, u "(I)I"), (2, u "maxDepth"), (0, u "I"), (1, u "bytesOfText"), (4, u "Ljava/util/function/Function;"), (7, u "hashCollisions"), (0, u "Lcom/example/wireform/wireform/mapping/HashCollisions;"), (31, .class_ 116), (0, u "com/example/wireform/wireform/mapping/Conversions$Waiting"), (12, u "UNFINISHED"), (0, u "Lcom/example/wireform/wireform/mapping/Conversions$Unfinished;"), (2, u "equalityCost"), (0, u "Lcom/example/wireform/wireform/mapping/EqualityCost;"), (25, u "depth"), (0, .class_ 162), (0, u "com/example/wireform/wireform/mapping/Conversions$TooDeep"), (12, .class_ 176), (0, u "com/example/wireform/wireform/mapping/Conversions$Unfinished"), (1, u "DEFAULT_MAX_DEPTH")] 68

def k11c0 : Code := { maxStack := 3, maxLocals := 1, code := prog_36_method_5_code, exceptionTable := #[], attributes := #[] }
def k11m0 : Method := { name := "requireDepthLimit", desc := "(I)I", sig := { parameters := [.int], returnType := some .int }, accessFlags := 9, code := some k11c0 }
/-- com/example/wireform/wireform/mapping/Conversions -/
def k11 : Class := { plain "com/example/wireform/wireform/mapping/Conversions" (some 0) with
  accessFlags := 49
  interfaces := #[]
  cf := some (fileOf pool11 6 #[.nestMembers #[115, 33, 175, 161]] #[{ accessFlags := 9, nameIndex := 62, descriptorIndex := 63, attributes := #[] }] 49 12 #[] #[{ accessFlags := 25, nameIndex := 178, descriptorIndex := 67, attributes := #[] }, { accessFlags := 26, nameIndex := 129, descriptorIndex := 130, attributes := #[] }, { accessFlags := 18, nameIndex := 21, descriptorIndex := 22, attributes := #[] }, { accessFlags := 18, nameIndex := 31, descriptorIndex := 32, attributes := #[] }, { accessFlags := 2, nameIndex := 38, descriptorIndex := 39, attributes := #[] }, { accessFlags := 18, nameIndex := 45, descriptorIndex := 46, attributes := #[] }, { accessFlags := 18, nameIndex := 66, descriptorIndex := 67, attributes := #[] }, { accessFlags := 2, nameIndex := 160, descriptorIndex := 67, attributes := #[] }, { accessFlags := 18, nameIndex := 48, descriptorIndex := 59, attributes := #[] }, { accessFlags := 18, nameIndex := 69, descriptorIndex := 74, attributes := #[] }, { accessFlags := 2, nameIndex := 133, descriptorIndex := 134, attributes := #[] }, { accessFlags := 18, nameIndex := 82, descriptorIndex := 83, attributes := #[] }])
  fields := #[{ name := "DEFAULT_MAX_DEPTH", type := .int, accessFlags := 25, slot := 0, constantValue := 0 }, { name := "UNFINISHED", type := (.object "com/example/wireform/wireform/mapping/Conversions$Unfinished"), accessFlags := 26, slot := 1, constantValue := 0 }, { name := "converted", type := (.object "java/util/Map"), accessFlags := 18, slot := 0, constantValue := 0 }, { name := "reading", type := (.object "java/util/Set"), accessFlags := 18, slot := 1, constantValue := 0 }, { name := "unfinished", type := (.object "com/example/wireform/wireform/mapping/Conversions$Mark"), accessFlags := 2, slot := 2, constantValue := 0 }, { name := "waiting", type := (.object "java/util/Queue"), accessFlags := 18, slot := 3, constantValue := 0 }, { name := "maxDepth", type := .int, accessFlags := 18, slot := 4, constantValue := 0 }, { name := "depth", type := .int, accessFlags := 2, slot := 5, constantValue := 0 }, { name := "mapping", type := (.object "com/example/wireform/wireform/mapping/Mapping"), accessFlags := 18, slot := 6, constantValue := 0 }, { name := "bytesOfText", type := (.object "java/util/function/Function"), accessFlags := 18, slot := 7, constantValue := 0 }, { name := "equalityCost", type := (.object "com/example/wireform/wireform/mapping/EqualityCost"), accessFlags := 2, slot := 8, constantValue := 0 }, { name := "hashCollisions", type := (.object "com/example/wireform/wireform/mapping/HashCollisions"), accessFlags := 18, slot := 9, constantValue := 0 }]
  methods := #[k11m0]
  instanceTypes := #[(.object "java/util/Map"), (.object "java/util/Set"), (.object "com/example/wireform/wireform/mapping/Conversions$Mark"), (.object "java/util/Queue"), .int, .int, (.object "com/example/wireform/wireform/mapping/Mapping"), (.object "java/util/function/Function"), (.object "com/example/wireform/wireform/mapping/EqualityCost"), (.object "com/example/wireform/wireform/mapping/HashCollisions")]
  staticTypes := #[.int, (.object "com/example/wireform/wireform/mapping/Conversions$Unfinished")]
  resolved := Array.replicate 247 none
  statics := none }

def pool12 : Array CpInfo := pool [(2, .class_ 4), (1, u "java/lang/Object"), (0, u "<init>"), (0, u "()V"), (7, .class_ 16), (1, u "java/util/Arrays"), (57, .class_ 76), (1, u "java/util/Arrays$NaturalOrder"), (32, u "()Ljava/lang/Object;"), (3, .class_ 115), (1, u "java/util/Arrays$LegacyMergeSort"), (1, u "Z"), (10, .nameAndType 129 109), (0, u "clone"), (9, u "copyOfRange"), (10, .methodref 151 152), (0, .class_ 153), (0, .nameAndType 154 155), (0, u "java/lang/System"), (0, u "arraycopy"), (0, u "(Ljava/lang/Object;ILjava/lang/Object;II)V"), (148, .methodref 305 306), (0, .class_ 307), (0, .nameAndType 308 309), (0, u "java/lang/Math"), (0, u "min"), (0, u "(II)I"), (0, .methodref 311 128), (0, .class_ 312), (0, u "[B"), (26, .methodref 14 340), (0, .nameAndType 341 342), (0, u "copyOfRangeByte"), (0, u "([BII)[B"), (0, .methodref 14 344), (0, .nameAndType 345 346), (0, u "checkLength"), (0, u "(II)V"), (28, .class_ 376), (0, u "java/util/Arrays$ArrayList"), (68, u "$assertionsDisabled"), (269, u "MIN_ARRAY_SORT_GRAN"), (0, u "I"), (2, u "INSERTIONSORT_THRESHOLD"), (255, .class_ 976), (0, u "java/util/Arrays$ArrayItr")] 52

def k12m0 : Method := { name := "<init>", desc := "()V", sig := { parameters := [], returnType := none }, accessFlags := 2, code := none }
def k12c1 : Code := { maxStack := 4, maxLocals := 2, code := jdk_65_method_131_code, exceptionTable := #[], attributes := #[] }
def k12m1 : Method := { name := "checkLength", desc := "(II)V", sig := { parameters := [.int, .int], returnType := none }, accessFlags := 10, code := some k12c1 }
def k12c2 : Code := { maxStack := 3, maxLocals := 3, code := jdk_65_method_132_code, exceptionTable := #[], attributes := #[] }
def k12m2 : Method := { name := "copyOfRange", desc := "([BII)[B", sig := { parameters := [(.array .byte), .int, .int], returnType := some (.array .byte) }, accessFlags := 9, code := some k12c2 }
def k12c3 : Code := { maxStack := 6, maxLocals := 5, code := jdk_65_method_133_code, exceptionTable := #[], attributes := #[] }
def k12m3 : Method := { name := "copyOfRangeByte", desc := "([BII)[B", sig := { parameters := [(.array .byte), .int, .int], returnType := some (.array .byte) }, accessFlags := 10, code := some k12c3 }
/-- java/util/Arrays -/
def k12 : Class := { plain "java/util/Arrays" (some 0) with
  accessFlags := 49
  interfaces := #[]
  cf := some (fileOf pool12 14 #[.nestMembers #[975, 375, 113, 74]] #[{ accessFlags := 2, nameIndex := 5, descriptorIndex := 6, attributes := #[] }, { accessFlags := 10, nameIndex := 345, descriptorIndex := 346, attributes := #[] }, { accessFlags := 9, nameIndex := 139, descriptorIndex := 342, attributes := #[] }, { accessFlags := 10, nameIndex := 341, descriptorIndex := 342, attributes := #[] }] 49 2 #[] #[{ accessFlags := 26, nameIndex := 715, descriptorIndex := 716, attributes := #[] }, { accessFlags := 26, nameIndex := 719, descriptorIndex := 716, attributes := #[] }, { accessFlags := 4120, nameIndex := 445, descriptorIndex := 117, attributes := #[] }])
  fields := #[{ name := "MIN_ARRAY_SORT_GRAN", type := .int, accessFlags := 26, slot := 0, constantValue := 0 }, { name := "INSERTIONSORT_THRESHOLD", type := .int, accessFlags := 26, slot := 1, constantValue := 0 }, { name := "$assertionsDisabled", type := .boolean, accessFlags := 4120, slot := 2, constantValue := 0 }]
  methods := #[k12m0, k12m1, k12m2, k12m3]
  instanceTypes := #[]
  staticTypes := #[.int, .int, .boolean]
  resolved := Array.replicate 1029 none
  statics := none }

def pool13 : Array CpInfo := pool [(1, .class_ 2), (0, u "java/lang/Cloneable"), (0, .class_ 4), (0, u "java/lang/Object")] 2

/-- java/lang/Cloneable -/
def k13 : Class := { plain "java/lang/Cloneable" (some 0) with
  accessFlags := 1537
  interfaces := #[]
  cf := some (fileOf pool13 1 #[] #[] 1537 3 #[] #[])
  fields := #[]
  methods := #[]
  instanceTypes := #[]
  staticTypes := #[]
  resolved := Array.replicate 7 none
  statics := none }

def pool14 : Array CpInfo := pool [(2, .class_ 4), (1, u "java/lang/Object"), (0, u "<init>"), (0, u "()V"), (1, .class_ 10), (1, u "java/lang/System"), (0, u "allowSecurityManager"), (0, u "I"), (16, u "cons"), (0, u "Ljava/io/Console;"), (77, .class_ 110), (1, u "java/lang/System$CallersHolder"), (43, u "initialErrStream"), (0, u "Ljava/io/PrintStream;"), (19, u "security"), (0, u "Ljava/lang/SecurityManager;"), (31, .class_ 209), (0, u "java/lang/System$1"), (7, u "props"), (0, u "Ljava/util/Properties;"), (2, u "lineSeparator"), (0, u "Ljava/lang/String;"), (96, .class_ 321), (1, u "java/lang/System$LoggerFinder"), (5, .class_ 328), (0, u "java/lang/System$Logger"), (67, u "err"), (2, u "out"), (91, u "notSupportedJnuEncoding"), (15, u "in"), (17, u "initialIn"), (0, u "Ljava/io/InputStream;"), (35, u "bootLayer"), (0, u "Ljava/lang/ModuleLayer;"), (99, .class_ 664), (0, u "java/lang/System$2"), (9, u "NEVER"), (2, u "MAYBE"), (49, u "arraycopy"), (0, u "(Ljava/lang/Object;ILjava/lang/Object;II)V"), (72, .class_ 802), (0, u "java/lang/System$Logger$Level")] 31

def k14m0 : Method := { name := "<init>", desc := "()V", sig := { parameters := [], returnType := none }, accessFlags := 2, code := none }
def k14m1 : Method := { name := "arraycopy", desc := "(Ljava/lang/Object;ILjava/lang/Object;II)V", sig := { parameters := [(.object "java/lang/Object"), .int, (.object "java/lang/Object"), .int, .int], returnType := none }, accessFlags := 265, code := none }
/-- java/lang/System -/
def k14 : Class := { plain "java/lang/System" (some 0) with
  accessFlags := 49
  interfaces := #[]
  cf := some (fileOf pool14 8 #[.nestMembers #[319, 327, 801, 108, 663, 208]] #[{ accessFlags := 2, nameIndex := 5, descriptorIndex := 6, attributes := #[] }, { accessFlags := 265, nameIndex := 727, descriptorIndex := 728, attributes := #[] }] 49 2 #[] #[{ accessFlags := 25, nameIndex := 507, descriptorIndex := 526, attributes := #[] }, { accessFlags := 25, nameIndex := 399, descriptorIndex := 155, attributes := #[] }, { accessFlags := 25, nameIndex := 396, descriptorIndex := 155, attributes := #[] }, { accessFlags := 10, nameIndex := 525, descriptorIndex := 526, attributes := #[] }, { accessFlags := 26, nameIndex := 674, descriptorIndex := 12, attributes := #[] }, { accessFlags := 26, nameIndex := 677, descriptorIndex := 12, attributes := #[] }, { accessFlags := 10, nameIndex := 11, descriptorIndex := 12, attributes := #[] }, { accessFlags := 74, nameIndex := 175, descriptorIndex := 176, attributes := #[] }, { accessFlags := 10, nameIndex := 491, descriptorIndex := 222, attributes := #[] }, { accessFlags := 74, nameIndex := 29, descriptorIndex := 30, attributes := #[] }, { accessFlags := 74, nameIndex := 154, descriptorIndex := 155, attributes := #[] }, { accessFlags := 10, nameIndex := 217, descriptorIndex := 218, attributes := #[] }, { accessFlags := 10, nameIndex := 221, descriptorIndex := 222, attributes := #[] }, { accessFlags := 8, nameIndex := 562, descriptorIndex := 563, attributes := #[] }])
  fields := #[{ name := "in", type := (.object "java/io/InputStream"), accessFlags := 25, slot := 0, constantValue := 0 }, { name := "out", type := (.object "java/io/PrintStream"), accessFlags := 25, slot := 1, constantValue := 0 }, { name := "err", type := (.object "java/io/PrintStream"), accessFlags := 25, slot := 2, constantValue := 0 }, { name := "initialIn", type := (.object "java/io/InputStream"), accessFlags := 10, slot := 3, constantValue := 0 }, { name := "NEVER", type := .int, accessFlags := 26, slot := 4, constantValue := 0 }, { name := "MAYBE", type := .int, accessFlags := 26, slot := 5, constantValue := 0 }, { name := "allowSecurityManager", type := .int, accessFlags := 10, slot := 6, constantValue := 0 }, { name := "security", type := (.object "java/lang/SecurityManager"), accessFlags := 74, slot := 7, constantValue := 0 }, { name := "notSupportedJnuEncoding", type := (.object "java/lang/String"), accessFlags := 10, slot := 8, constantValue := 0 }, { name := "cons", type := (.object "java/io/Console"), accessFlags := 74, slot := 9, constantValue := 0 }, { name := "initialErrStream", type := (.object "java/io/PrintStream"), accessFlags := 74, slot := 10, constantValue := 0 }, { name := "props", type := (.object "java/util/Properties"), accessFlags := 10, slot := 11, constantValue := 0 }, { name := "lineSeparator", type := (.object "java/lang/String"), accessFlags := 10, slot := 12, constantValue := 0 }, { name := "bootLayer", type := (.object "java/lang/ModuleLayer"), accessFlags := 8, slot := 13, constantValue := 0 }]
  methods := #[k14m0, k14m1]
  instanceTypes := #[]
  staticTypes := #[(.object "java/io/InputStream"), (.object "java/io/PrintStream"), (.object "java/io/PrintStream"), (.object "java/io/InputStream"), .int, .int, .int, (.object "java/lang/SecurityManager"), (.object "java/lang/String"), (.object "java/io/Console"), (.object "java/io/PrintStream"), (.object "java/util/Properties"), (.object "java/lang/String"), (.object "java/lang/ModuleLayer")]
  resolved := Array.replicate 834 none
  statics := none }

/-- the primitive byte -/
def k15 : Class := { plain "byte" none with kind := .primitive 'B', accessFlags := 0x411 }
/-- [B -/
def k16 : Class := { plain "[B" (some 0) with kind := .array 15 .byte, interfaces := #[13, 4], accessFlags := 1041 }

/-- the primitive int -/
def k17 : Class := { plain "int" none with kind := .primitive 'I', accessFlags := 0x411 }
/-- [I -/
def k18 : Class := { plain "[I" (some 0) with kind := .array 17 .int, interfaces := #[13, 4], accessFlags := 1041 }

def heap : Heap := #[]
def classes : Array Class := #[k0, k1, k2, k3, k4, k5, k6, k7, k8, k9, k10, k11, k12, k13, k14, k15, k16, k17, k18]
def interned : List (Array UInt16 × Addr) := []
def slotsUsed : Nat := 0
def theMethod : MethodId := ⟨1, 1⟩
def args0 : Array Value := #[.int 5, .int 6, .int 7]
def aboutOver (below : List Frame) : State where
  vm := { classes := classes, interned := interned.toArray }
  heap := heap
  slotsUsed := slotsUsed
  threads := #[{ frames := .invoking theMethod args0 :: below }]
def below0 : List Frame := [.native { method := ⟨0, 0⟩, args := #[] }]
def about1 : State := aboutOver below0
def p0 : Program := .bare "" "" ""
def e0 : Env := launch0.env 0 0 0
theorem w_frames : about1.frames = Frame.invoking theMethod args0 :: below0 := rfl
set_option maxRecDepth 65536 in
theorem w_args : argsFit about1.vm theMethod args0 = true := by decide +kernel
set_option maxRecDepth 65536 in
theorem w_heap : heapFits about1 = true := by decide +kernel
set_option maxRecDepth 65536 in
theorem w_runnable : about1.curStatus? = some .runnable := by decide +kernel
set_option maxRecDepth 65536 in
theorem w_alone : about1.alone = true := by decide +kernel
set_option maxRecDepth 65536 in
theorem w_named : about1.methodNamed? x = some theMethod := by decide +kernel
set_option maxRecDepth 65536 in
theorem w_hears : about1.hears theMethod below0 = true := by decide +kernel
set_option maxRecDepth 65536 in
theorem w_ripe : about1.ripe theMethod args0 below0 = true := by decide +kernel
theorem w_running : about1.status = .running := rfl
set_option maxRecDepth 65536 in
theorem w_room : about1.hasRoom e0.platform room_1 = true :=
  launch0.hasRoom_least _ room_1 (by decide +kernel) (by decide +kernel) (by decide +kernel) (by decide +kernel) (by decide +kernel) (by decide +kernel)
theorem allAtoms_all (ts : List Jvm.Cond) (a : Array Jvm.Value) (st : Jvm.State) : (allAtoms ts).before a st = ts.all (fun c => c.before a st) := by
  induction ts with
  | nil => rfl
  | cons c t ih =>
    show (Jvm.Cond.and c (allAtoms t)).before a st = _
    rw [Jvm.Cond.before_and, ih, List.all_cons]
def words1 : List Jvm.Cond := Jvm.Cond.code x code maxLocals ret :: tables_1
/-- a 'code' word, met by the world's own term for the bytes: nothing is compared byte by byte -/
theorem code_word {y : MethodName} {bytes : ByteArray} {mx : Nat} {rt : Option FieldType} {a : Array Value} {s : State} {m : MethodId} {meth : Method} {c : Code} (h1 : s.methodNamed? y = some m) (h2 : s.vm.method? m = some meth) (h3 : meth.code = some c) (h4 : c.code = bytes)
    (h5 : (c.maxLocals == mx && c.exceptionTable.isEmpty && decide (c.maxStack ≤ mostOperands) && decide (meth.sig.returnType = rt) && !meth.locks && decide (parseMethodDescriptor y.desc = some meth.sig)) = true) : (Jvm.Cond.code y bytes mx rt).before a s = true := by
  simp only [Bool.and_eq_true, beq_iff_eq, Bool.not_eq_true', decide_eq_true_eq] at h5
  obtain ⟨⟨⟨⟨⟨g1, g2⟩, g3⟩, g4⟩, g5⟩, g6⟩ := h5
  simp [Cond.before, Cond.holds, Cond.value, h1, h2, h3, h4, g1, g2, g3, g4, g5, g6]
def isCode : Jvm.Cond → Bool
  | .code _ _ _ _ => true
  | _ => false
theorem all_split {L : List Jvm.Cond} {P : Jvm.Cond → Bool} (h1 : L.all (fun c => isCode c || P c) = true) (h2 : ∀ c ∈ L.filter isCode, P c = true) : L.all P = true := by
  refine List.all_eq_true.mpr fun c hc => ?_
  have h := List.all_eq_true.mp h1 c hc
  rcases Bool.eq_false_or_eq_true (isCode c) with hi | hi
  · exact h2 c (List.mem_filter.mpr ⟨hc, hi⟩)
  · simpa [hi] using h
set_option maxRecDepth 65536 in
theorem w_c0 : (Jvm.Cond.code x code maxLocals ret).before args0 about1 = true := code_word (m := ⟨1, 1⟩) (meth := k1m1) (c := k1c1) (by decide +kernel) rfl rfl rfl (by decide +kernel)
set_option maxRecDepth 65536 in
theorem w_c1 : (Jvm.Cond.code ({ cls := "java/lang/Math", name := "max", desc := "(II)I" } : Jvm.MethodName) jdk_29_method_65_code (2 : Nat) (Option.some Jvm.ClassFile.FieldType.int)).before args0 about1 = true := code_word (m := ⟨3, 1⟩) (meth := k3m1) (c := k3c1) (by decide +kernel) rfl rfl rfl (by decide +kernel)
set_option maxRecDepth 65536 in
theorem w_c2 : (Jvm.Cond.code ({ cls := "com/example/wireform/wireform/amf3/AmfInput", name := "<init>", desc := "([BI)V" } : Jvm.MethodName) prog_14_method_2_code (3 : Nat) (Option.none : Option Jvm.ClassFile.FieldType)).before args0 about1 = true := code_word (m := ⟨2, 0⟩) (meth := k2m0) (c := k2c0) (by decide +kernel) rfl rfl rfl (by decide +kernel)
set_option maxRecDepth 65536 in
theorem w_c3 : (Jvm.Cond.code ({ cls := "java/lang/Object", name := "<init>", desc := "()V" } : Jvm.MethodName) object_method_1_code (1 : Nat) (Option.none : Option Jvm.ClassFile.FieldType)).before args0 about1 = true := code_word (m := ⟨0, 0⟩) (meth := k0m0) (c := k0c0) (by decide +kernel) rfl rfl rfl (by decide +kernel)
set_option maxRecDepth 65536 in
theorem w_c4 : (Jvm.Cond.code ({ cls := "java/util/Objects", name := "requireNonNull", desc := "(Ljava/lang/Object;Ljava/lang/String;)Ljava/lang/Object;" } : Jvm.MethodName) jdk_31_method_11_code (2 : Nat) (Option.some (Jvm.ClassFile.FieldType.object "java/lang/Object"))).before args0 about1 = true := code_word (m := ⟨10, 1⟩) (meth := k10m1) (c := k10c1) (by decide +kernel) rfl rfl rfl (by decide +kernel)
set_option maxRecDepth 65536 in
theorem w_c5 : (Jvm.Cond.code ({ cls := "com/example/wireform/wireform/mapping/Conversions", name := "requireDepthLimit", desc := "(I)I" } : Jvm.MethodName) prog_36_method_5_code (1 : Nat) (Option.some Jvm.ClassFile.FieldType.int)).before args0 about1 = true := code_word (m := ⟨11, 0⟩) (meth := k11m0) (c := k11c0) (by decide +kernel) rfl rfl rfl (by decide +kernel)
set_option maxRecDepth 65536 in
theorem w_c6 : (Jvm.Cond.code ({ cls := "com/example/wireform/wireform/amf3/AmfInput", name := "isAtEnd", desc := "()Z" } : Jvm.MethodName) prog_14_method_4_code (1 : Nat) (Option.some Jvm.ClassFile.FieldType.boolean)).before args0 about1 = true := code_word (m := ⟨2, 1⟩) (meth := k2m1) (c := k2c1) (by decide +kernel) rfl rfl rfl (by decide +kernel)
set_option maxRecDepth 65536 in
theorem w_c7 : (Jvm.Cond.code ({ cls := "com/example/wireform/wireform/amf3/AmfInput", name := "readBytes", desc := "(ILjava/lang/String;)[B" } : Jvm.MethodName) prog_14_method_17_code (4 : Nat) (Option.some (Jvm.ClassFile.FieldType.array Jvm.ClassFile.FieldType.byte))).before args0 about1 = true := code_word (m := ⟨2, 3⟩) (meth := k2m3) (c := k2c3) (by decide +kernel) rfl rfl rfl (by decide +kernel)
set_option maxRecDepth 65536 in
theorem w_c8 : (Jvm.Cond.code ({ cls := "com/example/wireform/wireform/amf3/AmfInput", name := "require", desc := "(JLjava/lang/String;)V" } : Jvm.MethodName) prog_14_method_19_code (5 : Nat) (Option.none : Option Jvm.ClassFile.FieldType)).before args0 about1 = true := code_word (m := ⟨2, 4⟩) (meth := k2m4) (c := k2c4) (by decide +kernel) rfl rfl rfl (by decide +kernel)
set_option maxRecDepth 65536 in
theorem w_c9 : (Jvm.Cond.code ({ cls := "java/util/Arrays", name := "copyOfRange", desc := "([BII)[B" } : Jvm.MethodName) jdk_65_method_132_code (3 : Nat) (Option.some (Jvm.ClassFile.FieldType.array Jvm.ClassFile.FieldType.byte))).before args0 about1 = true := code_word (m := ⟨12, 2⟩) (meth := k12m2) (c := k12c2) (by decide +kernel) rfl rfl rfl (by decide +kernel)
set_option maxRecDepth 65536 in
theorem w_c10 : (Jvm.Cond.code ({ cls := "java/util/Arrays", name := "copyOfRangeByte", desc := "([BII)[B" } : Jvm.MethodName) jdk_65_method_133_code (5 : Nat) (Option.some (Jvm.ClassFile.FieldType.array Jvm.ClassFile.FieldType.byte))).before args0 about1 = true := code_word (m := ⟨12, 3⟩) (meth := k12m3) (c := k12c3) (by decide +kernel) rfl rfl rfl (by decide +kernel)
set_option maxRecDepth 65536 in
theorem w_c11 : (Jvm.Cond.code ({ cls := "java/util/Arrays", name := "checkLength", desc := "(II)V" } : Jvm.MethodName) jdk_65_method_131_code (2 : Nat) (Option.none : Option Jvm.ClassFile.FieldType)).before args0 about1 = true := code_word (m := ⟨12, 1⟩) (meth := k12m1) (c := k12c1) (by decide +kernel) rfl rfl rfl (by decide +kernel)
set_option maxRecDepth 65536 in
theorem w_c12 : (Jvm.Cond.code ({ cls := "java/lang/Math", name := "min", desc := "(II)I" } : Jvm.MethodName) jdk_29_method_69_code (2 : Nat) (Option.some Jvm.ClassFile.FieldType.int)).before args0 about1 = true := code_word (m := ⟨3, 2⟩) (meth := k3m2) (c := k3c2) (by decide +kernel) rfl rfl rfl (by decide +kernel)
set_option maxRecDepth 65536 in
theorem w_c13 : (Jvm.Cond.code ({ cls := "com/example/wireform/wireform/amf3/AmfInput", name := "readByte", desc := "(Ljava/lang/String;)I" } : Jvm.MethodName) prog_14_method_13_code (2 : Nat) (Option.some Jvm.ClassFile.FieldType.int)).before args0 about1 = true := code_word (m := ⟨2, 2⟩) (meth := k2m2) (c := k2c2) (by decide +kernel) rfl rfl rfl (by decide +kernel)
def codes1 : List Jvm.Cond := [Jvm.Cond.code x code maxLocals ret, Jvm.Cond.code ({ cls := "java/lang/Math", name := "max", desc := "(II)I" } : Jvm.MethodName) jdk_29_method_65_code (2 : Nat) (Option.some Jvm.ClassFile.FieldType.int), Jvm.Cond.code ({ cls := "com/example/wireform/wireform/amf3/AmfInput", name := "<init>", desc := "([BI)V" } : Jvm.MethodName) prog_14_method_2_code (3 : Nat) (Option.none : Option Jvm.ClassFile.FieldType), Jvm.Cond.code ({ cls := "java/lang/Object", name := "<init>", desc := "()V" } : Jvm.MethodName) object_method_1_code (1 : Nat) (Option.none : Option Jvm.ClassFile.FieldType), Jvm.Cond.code ({ cls := "java/util/Objects", name := "requireNonNull", desc := "(Ljava/lang/Object;Ljava/lang/String;)Ljava/lang/Object;" } : Jvm.MethodName) jdk_31_method_11_code (2 : Nat) (Option.some (Jvm.ClassFile.FieldType.object "java/lang/Object")), Jvm.Cond.code ({ cls := "com/example/wireform/wireform/mapping/Conversions", name := "requireDepthLimit", desc := "(I)I" } : Jvm.MethodName) prog_36_method_5_code (1 : Nat) (Option.some Jvm.ClassFile.FieldType.int), Jvm.Cond.code ({ cls := "com/example/wireform/wireform/amf3/AmfInput", name := "isAtEnd", desc := "()Z" } : Jvm.MethodName) prog_14_method_4_code (1 : Nat) (Option.some Jvm.ClassFile.FieldType.boolean), Jvm.Cond.code ({ cls := "com/example/wireform/wireform/amf3/AmfInput", name := "readBytes", desc := "(ILjava/lang/String;)[B" } : Jvm.MethodName) prog_14_method_17_code (4 : Nat) (Option.some (Jvm.ClassFile.FieldType.array Jvm.ClassFile.FieldType.byte)), Jvm.Cond.code ({ cls := "com/example/wireform/wireform/amf3/AmfInput", name := "require", desc := "(JLjava/lang/String;)V" } : Jvm.MethodName) prog_14_method_19_code (5 : Nat) (Option.none : Option Jvm.ClassFile.FieldType), Jvm.Cond.code ({ cls := "java/util/Arrays", name := "copyOfRange", desc := "([BII)[B" } : Jvm.MethodName) jdk_65_method_132_code (3 : Nat) (Option.some (Jvm.ClassFile.FieldType.array Jvm.ClassFile.FieldType.byte)), Jvm.Cond.code ({ cls := "java/util/Arrays", name := "copyOfRangeByte", desc := "([BII)[B" } : Jvm.MethodName) jdk_65_method_133_code (5 : Nat) (Option.some (Jvm.ClassFile.FieldType.array Jvm.ClassFile.FieldType.byte)), Jvm.Cond.code ({ cls := "java/util/Arrays", name := "checkLength", desc := "(II)V" } : Jvm.MethodName) jdk_65_method_131_code (2 : Nat) (Option.none : Option Jvm.ClassFile.FieldType), Jvm.Cond.code ({ cls := "java/lang/Math", name := "min", desc := "(II)I" } : Jvm.MethodName) jdk_29_method_69_code (2 : Nat) (Option.some Jvm.ClassFile.FieldType.int), Jvm.Cond.code ({ cls := "com/example/wireform/wireform/amf3/AmfInput", name := "readByte", desc := "(Ljava/lang/String;)I" } : Jvm.MethodName) prog_14_method_13_code (2 : Nat) (Option.some Jvm.ClassFile.FieldType.int)]
set_option maxRecDepth 65536 in
theorem codes_eq : words1.filter isCode = codes1 := rfl
theorem w_codes : ∀ c ∈ words1.filter isCode, c.before args0 about1 = true := by
  rw [codes_eq]
  intro c hc
  simp only [codes1, List.mem_cons, List.not_mem_nil, or_false] at hc
  rcases hc with rfl | rfl | rfl | rfl | rfl | rfl | rfl | rfl | rfl | rfl | rfl | rfl | rfl | rfl
  · exact w_c0
  · exact w_c1
  · exact w_c2
  · exact w_c3
  · exact w_c4
  · exact w_c5
  · exact w_c6
  · exact w_c7
  · exact w_c8
  · exact w_c9
  · exact w_c10
  · exact w_c11
  · exact w_c12
  · exact w_c13
set_option maxRecDepth 65536 in
theorem w_t1 : (words1.take 24).all (fun c => isCode c || c.before args0 about1) = true := by decide +kernel
set_option maxRecDepth 65536 in
theorem w_t2 : ((words1.drop 24).take 24).all (fun c => isCode c || c.before args0 about1) = true := by decide +kernel
set_option maxRecDepth 65536 in
theorem w_t3 : (((words1.drop 24).drop 24).take 24).all (fun c => isCode c || c.before args0 about1) = true := by decide +kernel
set_option maxRecDepth 65536 in
theorem w_t4 : (((words1.drop 24).drop 24).drop 24).all (fun c => isCode c || c.before args0 about1) = true := by decide +kernel
theorem w_tables : (allAtoms (Jvm.Cond.code x code maxLocals ret :: tables_1)).before args0 about1 = true := by
  rw [allAtoms_all]
  show words1.all (fun c => c.before args0 about1) = true
  refine all_split ?_ w_codes
  rw [← List.take_append_drop 24 words1, List.all_append, w_t1, ← List.take_append_drop 24 (words1.drop 24), List.all_append, w_t2, ← List.take_append_drop 24 ((words1.drop 24).drop 24), List.all_append, w_t3, w_t4]
  rfl
set_option maxRecDepth 65536 in
theorem w_case : (Jvm.Cond.and given_1 narrow_1).before args0 about1 = true := by decide +kernel
theorem w_applies : (headSpec (Jvm.Cond.code x code maxLocals ret :: tables_1) room_1).applies x e0.platform about1 = true :=
  (Spec.applies_iff w_frames).mpr ⟨w_running, w_runnable, w_alone, w_named, w_hears, w_ripe, w_room, w_tables⟩
theorem atStart : AtStart classFile x code maxLocals ret World_1 tables_1 room_1 Calls_1 rest_1 Pre_1 launch0 p0 e0 about1 theMethod args0 below0 :=
  ⟨lists_1, trivial, launch0.admits_env _ _ _, launch0.least_env, fairChoices_fair.cas, fairChoices_fair.clock, w_frames, w_args, w_heap, w_applies, trivial, trivial, w_case⟩
end start1
theorem witness_1 : WitnessClaimed_1 := ⟨start1.p0, start1.e0, start1.about1, start1.theMethod, start1.args0, start1.below0, start1.atStart⟩
end Jvm.Pilot.@@N@@
