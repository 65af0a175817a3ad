import JvmDerived
import JvmDerived.Pilot.@@N@@Statement
import JvmDerived.Pilot.@@N@@Code
set_option linter.unusedVariables false
set_option linter.unusedSimpArgs false
namespace Jvm.RoadKit
open Sem ClassFile Op Lib Jvm.Stand Jvm.Free Jvm.LawKit
section New
variable {p : Program} {l : Launch} {e : Env} {R : Room} {s : State} {m : MethodId} {args : Array Value} {below : List Frame} {meth : Method} {c : Code} {T : State} {locs : List Loc} {cells slots : Nat}
theorem retI (X : Stand p l e R s m args below meth c T locs cells slots) (hx : p.tables.exec = Jvm.exec) {pc : Nat} {Ls : Array Slot} {z : Int32} {rest : List Value} (hret : meth.sig.returnType = some .int) (hd : decode c.code pc = .ok (.ireturn, 1)) {fs : List Frame}
    (hl : ∀ (f : JFrame) (acts : List Action), f.method = m → f.locked = none → f.entered = [] → (doReturn e (T.setTop f) acts (some (.int z))).1 = T.setFrames fs) : Steps p.tables e below (T.setTop (mkF m pc Ls (.int z :: rest))) (T.setFrames fs) := by
  have hm' : T.vm.method? m = some meth := X.method'
  have hn : narrow .int (.int z) = .int z := rfl
  show Steps p.tables e below (T.setTop { method := m, pc := pc, locals := Ls, stack := _ :: rest, locked := none }) _
  jvm_step X.here [X.here.top, hx, hd, hm', hret, hn]
  first | (intro acts; rw [hl _ acts rfl rfl rfl]) | rw [hl _ _ rfl rfl rfl]
  exact Steps.refl _
end New
end Jvm.RoadKit
namespace Jvm.Pilot.@@N@@
open Jvm Jvm.ClassFile Sem Op Lib Jvm.Free Jvm.Stand Jvm.LawKit Jvm.RoadKit Bundle Jvm.Pilot.@@N@@.Jvm.D
abbrev SS (p : Program) (e : Env) (below : List Frame) (T : State) (g : JFrame) (t : State) : Prop := Steps p.tables e below (T.setTop g) t
abbrev vi (x : Int32) : Slot := .val (.int x)
abbrev vl (x : Int64) : Slot := .val (.long x)
abbrev vr (x : Addr) : Slot := .val (.ref x)
abbrev vd (x : UInt64) : Slot := .val (.double x)
abbrev uu : Slot := .unset
abbrev us : Slot := .second
theorem wd {a0 : Array Value} {Z : State} (hw : ∀ d ∈ tables_1, d.before a0 Z = true) (i : Nat) {d : Jvm.Cond} (h : tables_1[i]? = some d) : d.before a0 Z = true := hw _ (List.mem_of_getElem? h)
theorem own_hk {T : State} {h : Heap} {k : Nat} (e : T.heap = h) (q : k ≤ h.size) : k ≤ T.heap.size := e ▸ q
theorem own_szW {h h' : Heap} {a : Addr} {sl : Nat} {v : Value} {k : Nat} (W : Wr h h' a sl v) (q : k ≤ h.size) : k ≤ h'.size := by rw [W.size]; exact q
theorem own_at {T : State} {h : Heap} {a : Addr} {c : Cell} (e : T.heap = h) (q : h[a]? = some c) : T.heap[a]? = some c := e ▸ q
theorem own_rng (x : Int32) : 1 ≤ ((1 : Int32) + ((x &&& (2147483647 : Int32)) % (2147483647 : Int32))).toInt ∧ ((1 : Int32) + ((x &&& (2147483647 : Int32)) % (2147483647 : Int32))).toInt ≤ 2147483647 := by
  have h2 := (c_andS x (2147483647 : Int32)).2.2 (by decide)
  have h3 := (c_irem (x &&& (2147483647 : Int32)) (2147483647 : Int32) 2147483647 (by decide)).1 h2
  have h4 := c_iadd (1 : Int32) ((x &&& (2147483647 : Int32)) % (2147483647 : Int32))
  have h5 := rng32 ((1 : Int32) + ((x &&& (2147483647 : Int32)) % (2147483647 : Int32)))
  have h6 : ((1 : Int32)).toInt = 1 := by decide
  omega
theorem own_div (C K I : Int) (hC : 1 ≤ C) (h0 : 0 ≤ I) (h1 : I < C) : (K - I + C - 1) / C = K / C + (if I < K % C then 1 else 0) := by
  have e := Int.mul_ediv_add_emod K C
  have r0 := Int.emod_nonneg K (show C ≠ 0 by omega)
  have r1 := Int.emod_lt_of_pos K (show 0 < C by omega)
  have q : K - I + C - 1 = (K % C - I + C - 1) + C * (K / C) := by omega
  rw [q, Int.add_mul_ediv_left _ _ (show C ≠ 0 by omega)]
  by_cases h : I < K % C
  · rw [if_pos h]
    have : (K % C - I + C - 1) / C = 1 := by
      have a : K % C - I + C - 1 = (K % C - I - 1) + C * 1 := by omega
      rw [a, Int.add_mul_ediv_left _ _ (show C ≠ 0 by omega), Int.ediv_eq_zero_of_lt (by omega) (by omega)]; rfl
    omega
  · rw [if_neg h]
    have : (K % C - I + C - 1) / C = 0 := Int.ediv_eq_zero_of_lt (by omega) (by omega)
    omega
theorem own_fin (vC vK vI : Int32) (hC : 1 ≤ vC.toInt) (hK : 1 ≤ vK.toInt) (h0 : 0 ≤ vI.toInt) (h1 : vI.toInt < vC.toInt) :
    lcmpW ((if vI < (vK % vC) then ((vK / vC) + (1 : Int32)) else (vK / vC)).toInt64) ((((vK.toInt64) - (vI.toInt64)) + (vC.toInt64) - (1 : Int64)) / (vC.toInt64)) = (0 : Int32) := by
  have rC := rng32 vC
  have rK := rng32 vK
  have rI := rng32 vI
  have eC : vC.toInt64.toInt = vC.toInt := c_i2l vC
  have eK : vK.toInt64.toInt = vK.toInt := c_i2l vK
  have eI : vI.toInt64.toInt = vI.toInt := c_i2l vI
  have e1 : ((1 : Int64)).toInt = 1 := by decide
  have e1' : ((1 : Int32)).toInt = 1 := by decide
  have a1 := c_lsub vK.toInt64 vI.toInt64
  have a1r := rng64 (vK.toInt64 - vI.toInt64)
  have b1 : (vK.toInt64 - vI.toInt64).toInt = vK.toInt - vI.toInt := by omega
  have a2 := c_ladd (vK.toInt64 - vI.toInt64) vC.toInt64
  have a2r := rng64 (vK.toInt64 - vI.toInt64 + vC.toInt64)
  have b2 : (vK.toInt64 - vI.toInt64 + vC.toInt64).toInt = vK.toInt - vI.toInt + vC.toInt := by omega
  have a3 := c_lsub (vK.toInt64 - vI.toInt64 + vC.toInt64) (1 : Int64)
  have a3r := rng64 (vK.toInt64 - vI.toInt64 + vC.toInt64 - (1 : Int64))
  have b3 : (vK.toInt64 - vI.toInt64 + vC.toInt64 - (1 : Int64)).toInt = vK.toInt - vI.toInt + vC.toInt - 1 := by omega
  have ne1 : vC.toInt64 ≠ -1 := by
    intro h
    rw [h] at eC
    have q : ((-1 : Int64)).toInt = -1 := by decide
    omega
  have ne2 : vC ≠ -1 := fun h => by rw [h] at hC; exact absurd hC (by decide)
  have d1 := (c_ldiv (vK.toInt64 - vI.toInt64 + vC.toInt64 - (1 : Int64)) vC.toInt64 vC.toInt eC ne1).1 (by omega)
  have d2 := (c_idiv vK vC vC.toInt rfl ne2).1 (by omega)
  have d3 := (c_irem vK vC vC.toInt rfl).1 (by omega)
  have key := own_div vC.toInt vK.toInt vI.toInt hC h0 h1
  rw [b3, key] at d1
  have q0 : 0 ≤ vK.toInt / vC.toInt := Int.ediv_nonneg (by omega) (by omega)
  have q1 : vK.toInt / vC.toInt ≤ vK.toInt := Int.ediv_le_self _ (by omega)
  rw [lw_eq]
  apply Int64.toInt_inj.mp
  rw [d1, c_i2l]
  by_cases h : vI < vK % vC
  · have h' := Int32.lt_iff_toInt_lt.mp h
    rw [d3] at h'
    rw [if_pos h, if_pos h']
    have m0 := Int.mul_ediv_add_emod vK.toInt vC.toInt
    have m1 := Int.emod_lt_of_pos vK.toInt (show 0 < vC.toInt by omega)
    have m2 : vC.toInt * (vK.toInt / vC.toInt) ≥ vK.toInt / vC.toInt := by
      have := Int.mul_le_mul_of_nonneg_right hC q0
      omega
    have a5 := c_iadd (vK / vC) (1 : Int32)
    have r5 := rng32 (vK / vC + (1 : Int32))
    omega
  · have h' : ¬ vI.toInt < vK.toInt % vC.toInt := fun q => h (Int32.lt_iff_toInt_lt.mpr (by rw [d3]; exact q))
    rw [if_neg h, if_neg h', d2]
    omega
theorem own_i {vC : Int32} (x : Int32) (hC : 1 ≤ vC.toInt) : 0 ≤ ((x &&& (2147483647 : Int32)) % vC).toInt ∧ ((x &&& (2147483647 : Int32)) % vC).toInt < vC.toInt := by
  have h2 := (c_andS x (2147483647 : Int32)).2.2 (by decide)
  have q := (c_iremV (x &&& (2147483647 : Int32)) vC).1 h2 (by omega)
  exact ⟨q.1, q.2.1⟩
theorem own_s (x : Int64) : ¬ (lcmpW ((1 : Int64) + (x &&& (4294967295 : Int64))) (1 : Int64) < (0 : Int32)) := by
  have h1 := c_maskL x (4294967295 : Int64) 32 (by decide) (by decide)
  have h2 := c_ladd (1 : Int64) (x &&& (4294967295 : Int64))
  have h3 := rng64 ((1 : Int64) + (x &&& (4294967295 : Int64)))
  have h4 : ((1 : Int64)).toInt = 1 := by decide
  rw [lw_lt, Int64.lt_iff_toInt_lt]
  omega
theorem own_lt1 {v : Int32} (h : 1 ≤ v.toInt) : ¬ (v < (1 : Int32)) ∧ v ≠ 0 ∧ v.toInt64 ≠ 0 := by
  have h4 : ((1 : Int32)).toInt = 1 := by decide
  refine ⟨by rw [Int32.lt_iff_toInt_lt]; omega, fun e => ?_, fun e => ?_⟩
  · rw [e] at h; exact absurd h (by decide)
  · have := c_i2l v
    rw [e] at this
    have h5 : ((0 : Int64)).toInt = 0 := by decide
    omega
theorem ef_0 (m : MethodId)  : entryFrame m #[] 1 = mkF m 0 #[uu] [] := by first | (simp [entryFrame, mkF, argsToLocals, Value.category]; done) | rfl
theorem pn_0 : plainName "java/util/Optional" = true := by first | (simp [plainName, overriddenIn]; done) | decide +kernel
theorem d1_0 : decode jdk_32_method_1_code 0 = .ok (.getstatic 1, 3) := by decide +kernel
theorem d1_3 : decode jdk_32_method_1_code 3 = .ok (.astore_n 0, 1) := by decide +kernel
theorem d1_4 : decode jdk_32_method_1_code 4 = .ok (.aload_n 0, 1) := by decide +kernel
theorem d1_5 : decode jdk_32_method_1_code 5 = .ok (.areturn, 1) := by decide +kernel
def Q_rmE (Z : State) (em : Addr) (h0 : Heap) (n0 : Nat) (v : Option Value) (h : Heap) (L : List Loc) : Prop := (v = some (.ref em) ∧ Fr n0 L ∧ h = h0)
set_option maxRecDepth 65536 in
set_option maxHeartbeats 40000000 in
theorem rmE (l : Launch) (Z : State) (a0 : Array Value) (hw : ∀ d ∈ tables_1, d.before a0 Z = true) (ws : List Jvm.Cond) (em : Addr) (h0 : Heap) (n0 : Nat) (Z0 : n0 ≤ h0.size) (S : Sta Z h0 "java/util/Optional" "EMPTY" "Ljava/util/Optional;" (.ref em)) :
    MetFree l (⟨"java/util/Optional", "empty", "()Ljava/util/Optional;"⟩ : MethodName) (head1 (Jvm.Cond.code (⟨"java/util/Optional", "empty", "()Ljava/util/Optional;"⟩ : MethodName) jdk_32_method_1_code 1 (some (.object "java/util/Optional")) :: ws) ({ frames := 0, cells := 0, slots := 0, locals := 0 } : Room)) (fun a U => a = #[] ∧ Z.Warmed39 U.vm ∧ U.heap = h0) (fun _ _ _ _ _ => True) (fun _ U o U' => ∃ v L, o = .returned v ∧ Q_rmE Z em h0 n0 v U'.heap L ∧ FrameEnd U o U' L ({ frames := 0, cells := 0, slots := 0, locals := 0 } : Room).cells ({ frames := 0, cells := 0, slots := 0, locals := 0 } : Room).slots) := by
  refine MetFree.of_bodySF (plainFor_of_name pn_0) hisR ?_
  intro p e s m args below meth c s₁ Bd hml0 hP hK
  obtain ⟨rfl, hZ, hh⟩ := hP
  have hx := Bd.exec
  have hby := Bd.bytes
  have hml : c.maxLocals = 1 := hml0
  have hown : s.vm.findClass "java/util/Optional" = some m.cls := findClass_of_methodNamed Bd.named
  have hnm := (name_of_methodNamed Bd.named Bd.method).1
  have X0 : Stand p l e ({ frames := 0, cells := 0, slots := 0, locals := 0 } : Room) s m #[] below meth c s₁ [] 0 0 := Stand.of_body Bd
  have e0 : s₁.heap = h0 := by rw [← hh, Bd.state]; rfl
  have N0 := Fr.nil n0
  have pre0 : ∀ t, Steps p.tables e below (s₁.setTop (mkF m 0 #[uu] [])) t → Steps p.tables e below (s₁.setTop (entryFrame m #[] 1)) t := fun t k => castTop (ef_0 m ) k
  obtain ⟨T1, X1, e1, st1⟩ := getS2 X0 hx hZ hown (host := "") (Or.inl (wd hw 6 rfl)) Via.refl e0 S (g := (mkF m 0 #[uu] [])) rfl (hb hby d1_0)
  obtain ⟨fs, hr, hrun, hended, hW, hsame⟩ := X1.leave (v := some (.ref em)) (fun h => by rw [Bd.returns] at h; cases h)
  refine ⟨_, _, pre0 _ ?_, hrun, hended, _, _, rfl, ?_, ⟨_, rfl⟩, hW, hsame.mono (by decide) (by decide)⟩
  · show SS p e below s₁ (mkF m 0 #[uu] []) _
    refine st1 _ ?_
    show SS p e below T1 (mkF m 3 #[uu] [(.ref em)]) _
    refine XS.astoreN X1.here hx rfl (hb hby d1_3) rfl rfl (l' := #[vr em]) rfl ?_
    show SS p e below T1 (mkF m 4 #[vr em] []) _
    refine XS.aloadN X1.here hx rfl (hb hby d1_4) rfl rfl ?_
    show SS p e below T1 (mkF m 5 #[vr em] [(.ref em)]) _
    exact retOut X1 hx Bd.returns rfl (Or.inr (Or.inr (Or.inr (Or.inr ⟨rfl, rfl, rfl⟩)))) (hb hby d1_5) hr
  · show Q_rmE Z em h0 n0 _ T1.heap _
    rw [e1]
    exact ⟨rfl, N0, rfl⟩
theorem ef_1 (m : MethodId) (x0 : Addr) (x1 : Addr) : entryFrame m #[(.ref x0), (.ref x1)] 2 = mkF m 0 #[vr x0, vr x1] [] := by first | (simp [entryFrame, mkF, argsToLocals, Value.category]; done) | rfl
theorem pn_1 : plainName "java/util/Objects" = true := by first | (simp [plainName, overriddenIn]; done) | decide +kernel
theorem d4_0 : decode jdk_31_method_11_code 0 = .ok (.aload_n 0, 1) := by decide +kernel
theorem d4_1 : decode jdk_31_method_11_code 1 = .ok (.ifnonnull 12, 3) := by decide +kernel
theorem d4_13 : decode jdk_31_method_11_code 13 = .ok (.aload_n 0, 1) := by decide +kernel
theorem d4_14 : decode jdk_31_method_11_code 14 = .ok (.areturn, 1) := by decide +kernel
def Q_rmR (Z : State) (r0 : Addr) (r1 : Addr) (h0 : Heap) (n0 : Nat) (v : Option Value) (h : Heap) (L : List Loc) : Prop := (v = some (.ref r0) ∧ Fr n0 L ∧ h = h0)
set_option maxRecDepth 65536 in
set_option maxHeartbeats 40000000 in
theorem rmR (l : Launch) (Z : State) (a0 : Array Value) (hw : ∀ d ∈ tables_1, d.before a0 Z = true) (ws : List Jvm.Cond) (r0 : Addr) (r1 : Addr) (h0 : Heap) (n0 : Nat) (Z0 : n0 ≤ h0.size) :
    MetFree l (⟨"java/util/Objects", "requireNonNull", "(Ljava/lang/Object;Ljava/lang/String;)Ljava/lang/Object;"⟩ : MethodName) (head1 (Jvm.Cond.code (⟨"java/util/Objects", "requireNonNull", "(Ljava/lang/Object;Ljava/lang/String;)Ljava/lang/Object;"⟩ : MethodName) jdk_31_method_11_code 2 (some (.object "java/lang/Object")) :: ws) ({ frames := 0, cells := 0, slots := 0, locals := 0 } : Room)) (fun a U => a = #[(.ref r0), (.ref r1)] ∧ Z.Warmed39 U.vm ∧ U.heap = h0) (fun _ _ _ _ _ => True) (fun _ U o U' => ∃ v L, o = .returned v ∧ Q_rmR Z r0 r1 h0 n0 v U'.heap L ∧ FrameEnd U o U' L ({ frames := 0, cells := 0, slots := 0, locals := 0 } : Room).cells ({ frames := 0, cells := 0, slots := 0, locals := 0 } : Room).slots) := by
  refine MetFree.of_bodySF (plainFor_of_name pn_1) hisR ?_
  intro p e s m args below meth c s₁ Bd hml0 hP hK
  obtain ⟨rfl, hZ, hh⟩ := hP
  have hx := Bd.exec
  have hby := Bd.bytes
  have hml : c.maxLocals = 2 := hml0
  have hown : s.vm.findClass "java/util/Objects" = some m.cls := findClass_of_methodNamed Bd.named
  have hnm := (name_of_methodNamed Bd.named Bd.method).1
  have X0 : Stand p l e ({ frames := 0, cells := 0, slots := 0, locals := 0 } : Room) s m #[(.ref r0), (.ref r1)] below meth c s₁ [] 0 0 := Stand.of_body Bd
  have e0 : s₁.heap = h0 := by rw [← hh, Bd.state]; rfl
  have N0 := Fr.nil n0
  have pre0 : ∀ t, Steps p.tables e below (s₁.setTop (mkF m 0 #[vr r0, vr r1] [])) t → Steps p.tables e below (s₁.setTop (entryFrame m #[(.ref r0), (.ref r1)] 2)) t := fun t k => castTop (ef_1 m r0 r1) k
  obtain ⟨fs, hr, hrun, hended, hW, hsame⟩ := X0.leave (v := some (.ref r0)) (fun h => by rw [Bd.returns] at h; cases h)
  refine ⟨_, _, pre0 _ ?_, hrun, hended, _, _, rfl, ?_, ⟨_, rfl⟩, hW, hsame.mono (by decide) (by decide)⟩
  · show SS p e below s₁ (mkF m 0 #[vr r0, vr r1] []) _
    refine XS.aloadN X0.here hx rfl (hb hby d4_0) rfl rfl ?_
    show SS p e below s₁ (mkF m 1 #[vr r0, vr r1] [(.ref r0)]) _
    refine XS.ifnonnullYes X0.here hx rfl (pc0 := 1) (pc' := 13) rfl (hb hby d4_1) rfl (by decide) (by decide) ?_
    show SS p e below s₁ (mkF m 13 #[vr r0, vr r1] []) _
    refine XS.aloadN X0.here hx rfl (hb hby d4_13) rfl rfl ?_
    show SS p e below s₁ (mkF m 14 #[vr r0, vr r1] [(.ref r0)]) _
    exact retOut X0 hx Bd.returns rfl (Or.inr (Or.inr (Or.inr (Or.inr ⟨rfl, rfl, rfl⟩)))) (hb hby d4_14) hr
  · show Q_rmR Z r0 r1 h0 n0 _ s₁.heap _
    rw [e0]
    exact ⟨rfl, N0, rfl⟩
theorem ef_2 (m : MethodId) (x0 : Addr) : entryFrame m #[(.ref x0)] 1 = mkF m 0 #[vr x0] [] := by first | (simp [entryFrame, mkF, argsToLocals, Value.category]; done) | rfl
theorem d5_0 : decode jdk_32_method_6_code 0 = .ok (.aload_n 0, 1) := by decide +kernel
theorem d5_1 : decode jdk_32_method_6_code 1 = .ok (.getfield 13, 3) := by decide +kernel
theorem d5_4 : decode jdk_32_method_6_code 4 = .ok (.ifnull 7, 3) := by decide +kernel
theorem d5_11 : decode jdk_32_method_6_code 11 = .ok (.iconst 0, 1) := by decide +kernel
theorem d5_12 : decode jdk_32_method_6_code 12 = .ok (.ireturn, 1) := by decide +kernel
def Q_rmP (Z : State) (r0 : Addr) (h0 : Heap) (n0 : Nat) (v : Option Value) (h : Heap) (L : List Loc) : Prop := (v = some (.int (0 : Int32)) ∧ Fr n0 L ∧ h = h0)
set_option maxRecDepth 65536 in
set_option maxHeartbeats 40000000 in
theorem rmP (l : Launch) (Z : State) (a0 : Array Value) (hw : ∀ d ∈ tables_1, d.before a0 Z = true) (ws : List Jvm.Cond) (r0 : Addr) (h0 : Heap) (n0 : Nat) (Z0 : n0 ≤ h0.size) (F : Fld Z h0 r0 "java/util/Optional" "value" "Ljava/lang/Object;" .null) :
    MetFree l (⟨"java/util/Optional", "isPresent", "()Z"⟩ : MethodName) (head1 (Jvm.Cond.code (⟨"java/util/Optional", "isPresent", "()Z"⟩ : MethodName) jdk_32_method_6_code 1 (some .boolean) :: ws) ({ frames := 0, cells := 0, slots := 0, locals := 0 } : Room)) (fun a U => a = #[(.ref r0)] ∧ Z.Warmed39 U.vm ∧ U.heap = h0) (fun _ _ _ _ _ => True) (fun _ U o U' => ∃ v L, o = .returned v ∧ Q_rmP Z r0 h0 n0 v U'.heap L ∧ FrameEnd U o U' L ({ frames := 0, cells := 0, slots := 0, locals := 0 } : Room).cells ({ frames := 0, cells := 0, slots := 0, locals := 0 } : Room).slots) := by
  refine MetFree.of_bodySF (plainFor_of_name pn_0) hisR ?_
  intro p e s m args below meth c s₁ Bd hml0 hP hK
  obtain ⟨rfl, hZ, hh⟩ := hP
  have hx := Bd.exec
  have hby := Bd.bytes
  have hml : c.maxLocals = 1 := hml0
  have hown : s.vm.findClass "java/util/Optional" = some m.cls := findClass_of_methodNamed Bd.named
  have hnm := (name_of_methodNamed Bd.named Bd.method).1
  have X0 : Stand p l e ({ frames := 0, cells := 0, slots := 0, locals := 0 } : Room) s m #[(.ref r0)] below meth c s₁ [] 0 0 := Stand.of_body Bd
  have e0 : s₁.heap = h0 := by rw [← hh, Bd.state]; rfl
  have N0 := Fr.nil n0
  have pre0 : ∀ t, Steps p.tables e below (s₁.setTop (mkF m 0 #[vr r0] [])) t → Steps p.tables e below (s₁.setTop (entryFrame m #[(.ref r0)] 1)) t := fun t k => castTop (ef_2 m r0) k
  obtain ⟨T1, X1, e1, st1⟩ := getF X0 hx hZ hown (host := "") (Or.inl (wd hw 43 rfl)) Via.refl e0 F (g := (mkF m 1 #[vr r0] [(.ref r0)])) rfl rfl (hb hby d5_1)
  obtain ⟨fs, hr, hrun, hended, hW, hsame⟩ := X1.leave (v := some (.int (nar .boolean (0 : Int32)))) (fun h => by rw [Bd.returns] at h; cases h)
  refine ⟨_, _, pre0 _ ?_, hrun, hended, _, _, rfl, ?_, ⟨_, rfl⟩, hW, hsame.mono (by decide) (by decide)⟩
  · show SS p e below s₁ (mkF m 0 #[vr r0] []) _
    refine XS.aloadN X0.here hx rfl (hb hby d5_0) rfl rfl ?_
    show SS p e below s₁ (mkF m 1 #[vr r0] [(.ref r0)]) _
    refine st1 _ ?_
    show SS p e below T1 (mkF m 4 #[vr r0] [.null]) _
    refine XS.ifnullYes X1.here hx rfl (pc0 := 4) (pc' := 11) rfl (hb hby d5_4) rfl (by decide) (by decide) ?_
    show SS p e below T1 (mkF m 11 #[vr r0] []) _
    refine XS.iconst X1.here hx rfl (hb hby d5_11) ?_
    show SS p e below T1 (mkF m 12 #[vr r0] [(.int (0 : Int32))]) _
    exact retN X1 hx (t := .boolean) Bd.returns (by simp) (hb hby d5_12) hr
  · show Q_rmP Z r0 h0 n0 _ T1.heap _
    rw [e1]
    exact ⟨rfl, N0, rfl⟩
theorem ef_3 (m : MethodId) (x0 : Addr) (x1 : Int32) (x2 : Int32) (x3 : Int64) (x4 : Addr) : entryFrame m #[(.ref x0), (.int x1), (.int x2), (.long x3), (.ref x4)] 6 = mkF m 0 #[vr x0, vi x1, vi x2, vl x3, us, vr x4] [] := by first | (simp [entryFrame, mkF, argsToLocals, Value.category]; done) | rfl
theorem pn_2 : plainName "com/example/fast_rating/fastrating/load/LoadProfile" = true := by first | (simp [plainName, overriddenIn]; done) | decide +kernel
theorem d2_0 : decode prog_41_method_1_code 0 = .ok (.aload_n 0, 1) := by decide +kernel
theorem d2_1 : decode prog_41_method_1_code 1 = .ok (.invokespecial 1, 3) := by decide +kernel
theorem d2_4 : decode prog_41_method_1_code 4 = .ok (.aload_n 0, 1) := by decide +kernel
theorem d2_5 : decode prog_41_method_1_code 5 = .ok (.iload_n 1, 1) := by decide +kernel
theorem d2_6 : decode prog_41_method_1_code 6 = .ok (.putfield 7, 3) := by decide +kernel
theorem d2_9 : decode prog_41_method_1_code 9 = .ok (.aload_n 0, 1) := by decide +kernel
theorem d2_10 : decode prog_41_method_1_code 10 = .ok (.iload_n 2, 1) := by decide +kernel
theorem d2_11 : decode prog_41_method_1_code 11 = .ok (.putfield 13, 3) := by decide +kernel
theorem d2_14 : decode prog_41_method_1_code 14 = .ok (.aload_n 0, 1) := by decide +kernel
theorem d2_15 : decode prog_41_method_1_code 15 = .ok (.lload_n 3, 1) := by decide +kernel
theorem d2_16 : decode prog_41_method_1_code 16 = .ok (.putfield 16, 3) := by decide +kernel
theorem d2_19 : decode prog_41_method_1_code 19 = .ok (.aload_n 0, 1) := by decide +kernel
theorem d2_20 : decode prog_41_method_1_code 20 = .ok (.aload 5, 2) := by decide +kernel
theorem d2_22 : decode prog_41_method_1_code 22 = .ok (.ldc 20, 2) := by decide +kernel
theorem own_strAtoms : ∀ d ∈ Bundle.stringAtoms, d ∈ tables_1 := by decide +kernel
theorem d2_24 : decode prog_41_method_1_code 24 = .ok (.invokestatic 22, 3) := by decide +kernel
theorem pd_0 : parseMethodDescriptor "(Ljava/lang/Object;Ljava/lang/String;)Ljava/lang/Object;" = some ⟨[(.object "java/lang/Object"), (.object "java/lang/String")], some (.object "java/lang/Object")⟩ := by decide +kernel
theorem d2_27 : decode prog_41_method_1_code 27 = .ok (.checkcast 28, 3) := by decide +kernel
theorem d2_30 : decode prog_41_method_1_code 30 = .ok (.putfield 30, 3) := by decide +kernel
theorem d2_33 : decode prog_41_method_1_code 33 = .ok (.iload_n 1, 1) := by decide +kernel
theorem d2_34 : decode prog_41_method_1_code 34 = .ok (.iconst 1, 1) := by decide +kernel
theorem d2_35 : decode prog_41_method_1_code 35 = .ok (.if_icmp .lt 14, 3) := by decide +kernel
theorem d2_38 : decode prog_41_method_1_code 38 = .ok (.iload_n 2, 1) := by decide +kernel
theorem d2_39 : decode prog_41_method_1_code 39 = .ok (.iconst 1, 1) := by decide +kernel
theorem d2_40 : decode prog_41_method_1_code 40 = .ok (.if_icmp .lt 9, 3) := by decide +kernel
theorem d2_43 : decode prog_41_method_1_code 43 = .ok (.lload_n 3, 1) := by decide +kernel
theorem d2_44 : decode prog_41_method_1_code 44 = .ok (.lconst 1, 1) := by decide +kernel
theorem d2_45 : decode prog_41_method_1_code 45 = .ok (.lcmp, 1) := by decide +kernel
theorem d2_46 : decode prog_41_method_1_code 46 = .ok (.ifCond .ge 13, 3) := by decide +kernel
theorem d2_59 : decode prog_41_method_1_code 59 = .ok (.aload 5, 2) := by decide +kernel
theorem d2_61 : decode prog_41_method_1_code 61 = .ok (.invokevirtual 40, 3) := by decide +kernel
theorem pd_1 : parseMethodDescriptor "()Z" = some ⟨[], some .boolean⟩ := by decide +kernel
theorem d2_64 : decode prog_41_method_1_code 64 = .ok (.ifCond .eq 52, 3) := by decide +kernel
theorem d2_116 : decode prog_41_method_1_code 116 = .ok (.return_, 1) := by decide +kernel
def Q_rmI (Z : State) (r0 : Addr) (p1 : Int32) (p2 : Int32) (q3 : Int64) (r4 : Addr) (h0 : Heap) (n0 : Nat) (v : Option Value) (h : Heap) (L : List Loc) : Prop := (v = none ∧ Fr n0 L ∧ Keep h0 h [r0] ∧ Exa Z h r0 "com/example/fast_rating/fastrating/load/LoadProfile" ∧ Fld Z h r0 "com/example/fast_rating/fastrating/load/LoadProfile" "connections" "I" (.int p1) ∧ Fld Z h r0 "com/example/fast_rating/fastrating/load/LoadProfile" "concurrency" "I" (.int p2))
set_option maxRecDepth 65536 in
set_option maxHeartbeats 40000000 in
theorem rmI (l : Launch) (Z : State) (a0 : Array Value) (hw : ∀ d ∈ tables_1, d.before a0 Z = true) (ws : List Jvm.Cond) (r0 : Addr) (p1 : Int32) (p2 : Int32) (q3 : Int64) (r4 : Addr) (h0 : Heap) (n0 : Nat) (Z0 : n0 ≤ h0.size) (E : Exa Z h0 r0 "com/example/fast_rating/fastrating/load/LoadProfile") (F0 : Fld Z h0 r0 "com/example/fast_rating/fastrating/load/LoadProfile" "connections" "I" (.int (0 : Int32))) (F1 : Fld Z h0 r0 "com/example/fast_rating/fastrating/load/LoadProfile" "concurrency" "I" (.int (0 : Int32))) (F2 : Fld Z h0 r0 "com/example/fast_rating/fastrating/load/LoadProfile" "sessions" "J" (.long (0 : Int64))) (F3 : Fld Z h0 r0 "com/example/fast_rating/fastrating/load/LoadProfile" "duration" "Ljava/util/Optional;" .null) (g : n0 ≤ r0) (EO : Exa Z h0 r4 "java/util/Optional") (FO : Fld Z h0 r4 "java/util/Optional" "value" "Ljava/lang/Object;" .null) (u1 : ¬ (p1 < (1 : Int32))) (u2 : ¬ (p2 < (1 : Int32))) (u3 : ¬ (lcmpW q3 (1 : Int64) < (0 : Int32))) :
    MetFree l (⟨"com/example/fast_rating/fastrating/load/LoadProfile", "<init>", "(IIJLjava/util/Optional;)V"⟩ : MethodName) (head1 (Jvm.Cond.code (⟨"com/example/fast_rating/fastrating/load/LoadProfile", "<init>", "(IIJLjava/util/Optional;)V"⟩ : MethodName) prog_41_method_1_code 6 none :: ws) ({ frames := 1, cells := 2, slots := 36, locals := 14 } : Room)) (fun a U => a = #[(.ref r0), (.int p1), (.int p2), (.long q3), (.ref r4)] ∧ Z.Warmed39 U.vm ∧ U.heap = h0) (fun _ _ _ _ _ => True) (fun _ U o U' => ∃ v L, o = .returned v ∧ Q_rmI Z r0 p1 p2 q3 r4 h0 n0 v U'.heap L ∧ ReturnedEndW U o U' L ({ frames := 1, cells := 2, slots := 36, locals := 14 } : Room).cells ({ frames := 1, cells := 2, slots := 36, locals := 14 } : Room).slots) := by
  refine MetFree.of_bodySF (plainFor_of_name pn_2) hisR ?_
  intro p e s m args below meth c s₁ Bd hml0 hP hK
  obtain ⟨rfl, hZ, hh⟩ := hP
  have hx := Bd.exec
  have hby := Bd.bytes
  have hml : c.maxLocals = 6 := hml0
  have hown : s.vm.findClass "com/example/fast_rating/fastrating/load/LoadProfile" = some m.cls := findClass_of_methodNamed Bd.named
  have hnm := (name_of_methodNamed Bd.named Bd.method).1
  have X0 : Stand p l e ({ frames := 1, cells := 2, slots := 36, locals := 14 } : Room) (s.setVm s.vm) m #[(.ref r0), (.int p1), (.int p2), (.long q3), (.ref r4)] below meth c s₁ [] 0 0 := Stand.of_body Bd
  have e0 : s₁.heap = h0 := by rw [← hh, Bd.state]; rfl
  have N0 := Fr.nil n0
  have pre0 : ∀ t, Steps p.tables e below (s₁.setTop (mkF m 0 #[vr r0, vi p1, vi p2, vl q3, us, vr r4] [])) t → Steps p.tables e below (s₁.setTop (entryFrame m #[(.ref r0), (.int p1), (.int p2), (.long q3), (.ref r4)] 6)) t := fun t k => castTop (ef_3 m r0 p1 p2 q3 r4) k
  have hS0 : s.Since s.vm 0 := (State.WarmedH.refl s).since _
  have hk0 : 0 ≤ h0.size := Nat.zero_le _
  obtain ⟨T1, X1, e1, st1⟩ := initO X0 hx hZ hown (wd hw 13 rfl) (wd hw 14 rfl) (wd hw 15 rfl) e0 (g := (mkF m 1 #[vr r0, vi p1, vi p2, vl q3, us, vr r4] [(.ref r0)])) rfl (by rw [hml]; rfl) rfl (hb hby d2_1) (by decide) (W := 0) (by show 2 * 0 + _ ≤ _; exact Nat.le_of_eq rfl) (by decide)
  obtain ⟨T2, h2, X2, e2, W2, st2⟩ := putF X1 hx hZ hown (host := "") (Or.inl (wd hw 16 rfl)) Via.refl e1 F0 E (Or.inr ⟨(wd hw 17 rfl), rfl, hnm⟩) (wd hw 8 rfl) (ty := .int) (by decide) rfl rfl (g := (mkF m 6 #[vr r0, vi p1, vi p2, vl q3, us, vr r4] [(.int p1), (.ref r0)])) rfl rfl (hb hby d2_6)
  have Fw2 := F0.same W2
  have N2 := Fr.snoc X2 N0 g
  have K2 : Keep h0 h2 [r0] := (Keep.refl h0 [r0]).wr W2 (Or.inl (List.mem_of_getElem? (i := 0) rfl))
  have Z2 : n0 ≤ h2.size := by rw [W2.size]; exact Z0
  have hk2 := own_szW W2 hk0
  have c4 := (E.wr W2)
  have c5 := (F1.other W2 (Or.inr (slot_ne (Or.inr (wd hw 19 rfl)) (Or.inr (wd hw 17 rfl)) (by decide) (t := .int) (t' := .int) (by decide) (by decide))))
  obtain ⟨T3, h3, X3, e3, W3, st3⟩ := putF X2 hx hZ hown (host := "") (Or.inl (wd hw 18 rfl)) Via.refl e2 c5 c4 (Or.inr ⟨(wd hw 19 rfl), rfl, hnm⟩) (wd hw 8 rfl) (ty := .int) (by decide) rfl rfl (g := (mkF m 11 #[vr r0, vi p1, vi p2, vl q3, us, vr r4] [(.int p2), (.ref r0)])) rfl rfl (hb hby d2_11)
  have Fw3 := c5.same W3
  have N3 := Fr.snoc X3 N2 g
  have K3 : Keep h0 h3 [r0] := K2.wr W3 (Or.inl (List.mem_of_getElem? (i := 0) rfl))
  have Z3 : n0 ≤ h3.size := by rw [W3.size]; exact Z2
  have hk3 := own_szW W3 hk2
  have c7 := (c4.wr W3)
  have c8 := ((F2.other W2 (Or.inr (slot_ne (Or.inr (wd hw 21 rfl)) (Or.inr (wd hw 17 rfl)) (by decide) (t := .long) (t' := .int) (by decide) (by decide)))).other W3 (Or.inr (slot_ne (Or.inr (wd hw 21 rfl)) (Or.inr (wd hw 19 rfl)) (by decide) (t := .long) (t' := .int) (by decide) (by decide))))
  obtain ⟨T6, h6, X6, e6, W6, st6⟩ := putF X3 hx hZ hown (host := "") (Or.inl (wd hw 20 rfl)) Via.refl e3 c8 c7 (Or.inr ⟨(wd hw 21 rfl), rfl, hnm⟩) (wd hw 8 rfl) (ty := .long) (by decide) rfl rfl (g := (mkF m 16 #[vr r0, vi p1, vi p2, vl q3, us, vr r4] [(.long q3), (.ref r0)])) rfl rfl (hb hby d2_16)
  have Fw6 := c8.same W6
  have N6 := Fr.snoc X6 N3 g
  have K6 : Keep h0 h6 [r0] := K3.wr W6 (Or.inl (List.mem_of_getElem? (i := 0) rfl))
  have Z6 : n0 ≤ h6.size := by rw [W6.size]; exact Z3
  have hk6 := own_szW W6 hk3
  obtain ⟨b9, T9, h9, kk9, X9, e9, E9, hS9, hk9, hZ9, hown9, st9⟩ := ldcS X6 hx hZ hown (wd hw 22 rfl) (fun d hd => hw d (own_strAtoms d hd)) e6 hS0 hk6 (g := (mkF m 22 #[vr r0, vi p1, vi p2, vl q3, us, vr r4] [(.ref r4), (.ref r0)])) rfl (hb hby d2_22) (n := 32) (by decide) (by decide) (by decide) (by decide)
  have K9 : Keep h0 h9 [r0] := K6.ext E9
  have Z9 : n0 ≤ h9.size := Nat.le_trans Z6 E9.1
  obtain ⟨_, _, ⟨T10, L10, k10, n10⟩, -, X10, ⟨Lc10, hQ10, l10, y10, z10⟩, st10⟩ := Jvm.LawKit.callS X9 hx (y := (⟨"java/util/Objects", "requireNonNull", "(Ljava/lang/Object;Ljava/lang/String;)Ljava/lang/Object;"⟩ : MethodName)) hown9 (mvT hZ9 (wd hw 30 rfl)) (mvT hZ9 (wd hw 31 rfl)) (mvT hZ9 (wd hw 32 rfl)) (mvT hZ9 (wd hw 33 rfl)) (by decide) (backOf (W := 1) (rmR l Z a0 hw [] r4 b9 h9 n0 Z9) hZ9 (wd hw 33 rfl) (wd hw 32 rfl) (by decide) (by decide)) (g := (mkF m 24 #[vr r0, vi p1, vi p2, vl q3, us, vr r4] [(.ref b9), (.ref r4), (.ref r0)])) rfl (by rw [hml]; rfl) (argsL := [(.ref r4), (.ref b9)]) (rest := [(.ref r0)]) (lenOf pd_0 rfl) rfl (by show 2 * 0 + _ ≤ _; exact Nat.le_of_eq rfl) (hb hby d2_24) (fun _ _ => ⟨rfl, e9, (by decide : 2 + 0 ≤ _), (by decide : 36 + 0 ≤ _)⟩)
  dsimp only [Pt.U, Pt.locs, Pt.cells, Pt.slots] at X10 l10 y10 z10 st10 hQ10
  subst l10 y10 z10
  obtain ⟨rfl, Nq10, eh10⟩ := hQ10
  have N10 := Fr.app N6 Nq10
  have c12 := ((((EO.wr W2).wr W3).wr W6).ext E9)
  obtain ⟨T11, X11, e11, st11⟩ := castY X10 hx hZ9 hown9 (wd hw 34 rfl) eh10 (Ins.self c12) (g := (mkF m 27 #[vr r0, vi p1, vi p2, vl q3, us, vr r4] [(.ref r4), (.ref r0)])) rfl rfl (hb hby d2_27)
  have c14 := ((c7.wr W6).ext E9)
  have c15 := ((((F3.other W2 (Or.inr (slot_ne (Or.inr (wd hw 37 rfl)) (Or.inr (wd hw 17 rfl)) (by decide) (t := (.object "java/util/Optional")) (t' := .int) (by decide) (by decide)))).other W3 (Or.inr (slot_ne (Or.inr (wd hw 37 rfl)) (Or.inr (wd hw 19 rfl)) (by decide) (t := (.object "java/util/Optional")) (t' := .int) (by decide) (by decide)))).other W6 (Or.inr (slot_ne (Or.inr (wd hw 37 rfl)) (Or.inr (wd hw 21 rfl)) (by decide) (t := (.object "java/util/Optional")) (t' := .long) (by decide) (by decide)))).ext E9)
  obtain ⟨T13, h13, X13, e13, W13, st13⟩ := putF X11 hx hZ9 hown9 (host := "") (Or.inl (wd hw 36 rfl)) Via.refl e11 c15 c14 (Or.inr ⟨(wd hw 37 rfl), rfl, hnm⟩) (wd hw 8 rfl) (ty := (.object "java/util/Optional")) (by decide) rfl rfl (g := (mkF m 30 #[vr r0, vi p1, vi p2, vl q3, us, vr r4] [(.ref r4), (.ref r0)])) rfl rfl (hb hby d2_30)
  have Fw13 := c15.same W13
  have N13 := Fr.snoc X13 N10 g
  have K13 : Keep h0 h13 [r0] := K9.wr W13 (Or.inl (List.mem_of_getElem? (i := 0) rfl))
  have Z13 : n0 ≤ h13.size := by rw [W13.size]; exact Z9
  have hk13 := own_szW W13 hk9
  have c17 := (((((FO.other W2 (Or.inl (Exa.ne EO E (by decide)))).other W3 (Or.inl (Exa.ne EO E (by decide)))).other W6 (Or.inl (Exa.ne EO E (by decide)))).ext E9).other W13 (Or.inl (Exa.ne EO E (by decide))))
  have c18 := (c12.wr W13)
  obtain ⟨cq16, kq16, q16a, q16b, q16c⟩ := isOf hZ9 e13 c18
  obtain ⟨_, _, ⟨T16, L16, k16, n16⟩, -, X16, ⟨Lc16, hQ16, l16, y16, z16⟩, st16⟩ := X13.virtualBack hx (y := (⟨"java/util/Optional", "isPresent", "()Z"⟩ : MethodName)) (z := (⟨"java/util/Optional", "isPresent", "()Z"⟩ : MethodName)) hown9 (mvT hZ9 (wd hw 38 rfl)) (mvT hZ9 (wd hw 39 rfl)) (notFace_of_selects (args := #[]) (mvT hZ9 (wd hw 41 rfl))) (mvT hZ9 (wd hw 41 rfl)) (mvT hZ9 (wd hw 40 rfl)) (by decide) (backOf (W := 0) (rmP l Z a0 hw [] r4 h13 n0 Z13 c17) hZ9 (wd hw 42 rfl) (wd hw 4 rfl) (by decide) (by decide)) q16a q16c (g := (mkF m 61 #[vr r0, vi p1, vi p2, vl q3, us, vr r4] [(.ref r4)])) rfl (by rw [hml]; rfl) (Steps.refl _) (argsL := []) (rest := []) (lenOf pd_1 rfl) rfl (by show 2 * 0 + _ ≤ _; exact Nat.le_of_eq rfl) (hb hby d2_61) (fun _ _ => ⟨rfl, e13, (by decide : 2 + 0 ≤ _), (by decide : 36 + 0 ≤ _)⟩)
  dsimp only [Pt.U, Pt.locs, Pt.cells, Pt.slots] at X16 l16 y16 z16 st16 hQ16
  subst l16 y16 z16
  obtain ⟨rfl, Nq16, eh16⟩ := hQ16
  have N16 := Fr.app N13 Nq16
  have c19 := (c14.wr W13)
  have c20 := ((((Fw2.other W3 (Or.inr (slot_ne (Or.inr (wd hw 17 rfl)) (Or.inr (wd hw 19 rfl)) (by decide) (t := .int) (t' := .int) (by decide) (by decide)))).other W6 (Or.inr (slot_ne (Or.inr (wd hw 17 rfl)) (Or.inr (wd hw 21 rfl)) (by decide) (t := .int) (t' := .long) (by decide) (by decide)))).ext E9).other W13 (Or.inr (slot_ne (Or.inr (wd hw 17 rfl)) (Or.inr (wd hw 37 rfl)) (by decide) (t := .int) (t' := (.object "java/util/Optional")) (by decide) (by decide))))
  have c21 := (((Fw3.other W6 (Or.inr (slot_ne (Or.inr (wd hw 19 rfl)) (Or.inr (wd hw 21 rfl)) (by decide) (t := .int) (t' := .long) (by decide) (by decide)))).ext E9).other W13 (Or.inr (slot_ne (Or.inr (wd hw 19 rfl)) (Or.inr (wd hw 37 rfl)) (by decide) (t := .int) (t' := (.object "java/util/Optional")) (by decide) (by decide))))
  obtain ⟨fs, hr, hrun, hended, en1, en2, en3, en4⟩ := X16.leaveW hS9 (own_hk eh16 hk13) (v := none) (fun _ => rfl)
  refine ⟨_, _, pre0 _ ?_, hrun, hended, _, _, rfl, ?_, en1, en2, en3, en4.mono (by decide) (by decide)⟩
  · show SS p e below s₁ (mkF m 0 #[vr r0, vi p1, vi p2, vl q3, us, vr r4] []) _
    refine XS.aloadN X0.here hx rfl (hb hby d2_0) rfl rfl ?_
    show SS p e below s₁ (mkF m 1 #[vr r0, vi p1, vi p2, vl q3, us, vr r4] [(.ref r0)]) _
    refine st1 _ ?_
    show SS p e below T1 (mkF m 4 #[vr r0, vi p1, vi p2, vl q3, us, vr r4] []) _
    refine XS.aloadN X1.here hx rfl (hb hby d2_4) rfl rfl ?_
    show SS p e below T1 (mkF m 5 #[vr r0, vi p1, vi p2, vl q3, us, vr r4] [(.ref r0)]) _
    refine XS.iloadN X1.here hx rfl (hb hby d2_5) rfl ?_
    show SS p e below T1 (mkF m 6 #[vr r0, vi p1, vi p2, vl q3, us, vr r4] [(.int p1), (.ref r0)]) _
    refine st2 _ ?_
    show SS p e below T2 (mkF m 9 #[vr r0, vi p1, vi p2, vl q3, us, vr r4] []) _
    refine XS.aloadN X2.here hx rfl (hb hby d2_9) rfl rfl ?_
    show SS p e below T2 (mkF m 10 #[vr r0, vi p1, vi p2, vl q3, us, vr r4] [(.ref r0)]) _
    refine XS.iloadN X2.here hx rfl (hb hby d2_10) rfl ?_
    show SS p e below T2 (mkF m 11 #[vr r0, vi p1, vi p2, vl q3, us, vr r4] [(.int p2), (.ref r0)]) _
    refine st3 _ ?_
    show SS p e below T3 (mkF m 14 #[vr r0, vi p1, vi p2, vl q3, us, vr r4] []) _
    refine XS.aloadN X3.here hx rfl (hb hby d2_14) rfl rfl ?_
    show SS p e below T3 (mkF m 15 #[vr r0, vi p1, vi p2, vl q3, us, vr r4] [(.ref r0)]) _
    refine XS.lloadN X3.here hx rfl (hb hby d2_15) rfl ?_
    show SS p e below T3 (mkF m 16 #[vr r0, vi p1, vi p2, vl q3, us, vr r4] [(.long q3), (.ref r0)]) _
    refine st6 _ ?_
    show SS p e below T6 (mkF m 19 #[vr r0, vi p1, vi p2, vl q3, us, vr r4] []) _
    refine XS.aloadN X6.here hx rfl (hb hby d2_19) rfl rfl ?_
    show SS p e below T6 (mkF m 20 #[vr r0, vi p1, vi p2, vl q3, us, vr r4] [(.ref r0)]) _
    refine XS.aload X6.here hx rfl (hb hby d2_20) rfl rfl ?_
    show SS p e below T6 (mkF m 22 #[vr r0, vi p1, vi p2, vl q3, us, vr r4] [(.ref r4), (.ref r0)]) _
    refine st9 _ ?_
    show SS p e below T9 (mkF m 24 #[vr r0, vi p1, vi p2, vl q3, us, vr r4] [(.ref b9), (.ref r4), (.ref r0)]) _
    refine st10 _ ?_
    show SS p e below T10 (mkF m 27 #[vr r0, vi p1, vi p2, vl q3, us, vr r4] [(.ref r4), (.ref r0)]) _
    refine st11 _ ?_
    show SS p e below T11 (mkF m 30 #[vr r0, vi p1, vi p2, vl q3, us, vr r4] [(.ref r4), (.ref r0)]) _
    refine st13 _ ?_
    show SS p e below T13 (mkF m 33 #[vr r0, vi p1, vi p2, vl q3, us, vr r4] []) _
    refine XS.iloadN X13.here hx rfl (hb hby d2_33) rfl ?_
    show SS p e below T13 (mkF m 34 #[vr r0, vi p1, vi p2, vl q3, us, vr r4] [(.int p1)]) _
    refine XS.iconst X13.here hx rfl (hb hby d2_34) ?_
    show SS p e below T13 (mkF m 35 #[vr r0, vi p1, vi p2, vl q3, us, vr r4] [(.int (1 : Int32)), (.int p1)]) _
    refine XS.icmpNo X13.here hx rfl (hb hby d2_35) rfl (flt (u1 : ¬ (p1 < (1 : Int32)))).1 ?_
    show SS p e below T13 (mkF m 38 #[vr r0, vi p1, vi p2, vl q3, us, vr r4] []) _
    refine XS.iloadN X13.here hx rfl (hb hby d2_38) rfl ?_
    show SS p e below T13 (mkF m 39 #[vr r0, vi p1, vi p2, vl q3, us, vr r4] [(.int p2)]) _
    refine XS.iconst X13.here hx rfl (hb hby d2_39) ?_
    show SS p e below T13 (mkF m 40 #[vr r0, vi p1, vi p2, vl q3, us, vr r4] [(.int (1 : Int32)), (.int p2)]) _
    refine XS.icmpNo X13.here hx rfl (hb hby d2_40) rfl (flt (u2 : ¬ (p2 < (1 : Int32)))).1 ?_
    show SS p e below T13 (mkF m 43 #[vr r0, vi p1, vi p2, vl q3, us, vr r4] []) _
    refine XS.lloadN X13.here hx rfl (hb hby d2_43) rfl ?_
    show SS p e below T13 (mkF m 44 #[vr r0, vi p1, vi p2, vl q3, us, vr r4] [(.long q3)]) _
    refine XS.lconst X13.here hx rfl (hb hby d2_44) ?_
    show SS p e below T13 (mkF m 45 #[vr r0, vi p1, vi p2, vl q3, us, vr r4] [(.long (1 : Int64)), (.long q3)]) _
    refine XS.lcmp X13.here hx rfl (hb hby d2_45) rfl ?_
    show SS p e below T13 (mkF m 46 #[vr r0, vi p1, vi p2, vl q3, us, vr r4] [(.int (lcmpW q3 (1 : Int64)))]) _
    refine XS.ifYes X13.here hx rfl (pc0 := 46) (pc' := 59) rfl (hb hby d2_46) rfl ((if0 _ _).trans (flt (u3 : ¬ ((lcmpW q3 (1 : Int64)) < (0 : Int32)))).2.1) (by decide) (by decide) ?_
    show SS p e below T13 (mkF m 59 #[vr r0, vi p1, vi p2, vl q3, us, vr r4] []) _
    refine XS.aload X13.here hx rfl (hb hby d2_59) rfl rfl ?_
    show SS p e below T13 (mkF m 61 #[vr r0, vi p1, vi p2, vl q3, us, vr r4] [(.ref r4)]) _
    refine st16.trans ?_
    show SS p e below T16 (mkF m 64 #[vr r0, vi p1, vi p2, vl q3, us, vr r4] [(.int (0 : Int32))]) _
    refine XS.ifYes X16.here hx rfl (pc0 := 64) (pc' := 116) rfl (hb hby d2_64) rfl ((if0 _ _).trans (teq (rfl : (0 : Int32) = (0 : Int32))).1) (by decide) (by decide) ?_
    show SS p e below T16 (mkF m 116 #[vr r0, vi p1, vi p2, vl q3, us, vr r4] []) _
    exact X16.returnOut hx Bd.returns (hb hby d2_116) hr
  · show Q_rmI Z r0 p1 p2 q3 r4 h0 n0 _ T16.heap _
    rw [eh16]
    exact ⟨rfl, N16, K13, c19, c20, c21⟩
theorem ef_4 (m : MethodId) (x0 : Addr) (x1 : Int32) : entryFrame m #[(.ref x0), (.int x1)] 4 = mkF m 0 #[vr x0, vi x1, uu, uu] [] := by first | (simp [entryFrame, mkF, argsToLocals, Value.category]; done) | rfl
theorem d6_0 : decode prog_41_method_5_code 0 = .ok (.aload_n 0, 1) := by decide +kernel
theorem d6_1 : decode prog_41_method_5_code 1 = .ok (.getfield 13, 3) := by decide +kernel
theorem d6_4 : decode prog_41_method_5_code 4 = .ok (.aload_n 0, 1) := by decide +kernel
theorem d6_5 : decode prog_41_method_5_code 5 = .ok (.getfield 7, 3) := by decide +kernel
theorem d6_8 : decode prog_41_method_5_code 8 = .ok (.idiv, 1) := by decide +kernel
theorem d6_9 : decode prog_41_method_5_code 9 = .ok (.istore_n 2, 1) := by decide +kernel
theorem d6_10 : decode prog_41_method_5_code 10 = .ok (.iload_n 1, 1) := by decide +kernel
theorem d6_11 : decode prog_41_method_5_code 11 = .ok (.aload_n 0, 1) := by decide +kernel
theorem d6_12 : decode prog_41_method_5_code 12 = .ok (.getfield 13, 3) := by decide +kernel
theorem d6_15 : decode prog_41_method_5_code 15 = .ok (.aload_n 0, 1) := by decide +kernel
theorem d6_16 : decode prog_41_method_5_code 16 = .ok (.getfield 7, 3) := by decide +kernel
theorem d6_19 : decode prog_41_method_5_code 19 = .ok (.irem, 1) := by decide +kernel
theorem d6_20 : decode prog_41_method_5_code 20 = .ok (.if_icmp .ge 10, 3) := by decide +kernel
theorem d6_23 : decode prog_41_method_5_code 23 = .ok (.iload_n 2, 1) := by decide +kernel
theorem d6_24 : decode prog_41_method_5_code 24 = .ok (.iconst 1, 1) := by decide +kernel
theorem d6_25 : decode prog_41_method_5_code 25 = .ok (.iadd, 1) := by decide +kernel
theorem d6_26 : decode prog_41_method_5_code 26 = .ok (.istore_n 3, 1) := by decide +kernel
theorem d6_27 : decode prog_41_method_5_code 27 = .ok (.goto 5, 3) := by decide +kernel
theorem d6_32 : decode prog_41_method_5_code 32 = .ok (.iload_n 3, 1) := by decide +kernel
theorem d6_33 : decode prog_41_method_5_code 33 = .ok (.ireturn, 1) := by decide +kernel
theorem d6_30 : decode prog_41_method_5_code 30 = .ok (.iload_n 2, 1) := by decide +kernel
theorem d6_31 : decode prog_41_method_5_code 31 = .ok (.istore_n 3, 1) := by decide +kernel
def Q_rmS (Z : State) (r0 : Addr) (p1 : Int32) (cn : Int32) (ck : Int32) (h0 : Heap) (n0 : Nat) (v : Option Value) (h : Heap) (L : List Loc) : Prop := (v = some (.int (if p1 < (ck % cn) then ((ck / cn) + (1 : Int32)) else (ck / cn))) ∧ Fr n0 L ∧ h = h0)
set_option maxRecDepth 65536 in
set_option maxHeartbeats 40000000 in
theorem rmS (l : Launch) (Z : State) (a0 : Array Value) (hw : ∀ d ∈ tables_1, d.before a0 Z = true) (ws : List Jvm.Cond) (r0 : Addr) (p1 : Int32) (cn : Int32) (ck : Int32) (h0 : Heap) (n0 : Nat) (Z0 : n0 ≤ h0.size) (F1 : Fld Z h0 r0 "com/example/fast_rating/fastrating/load/LoadProfile" "connections" "I" (.int cn)) (F2 : Fld Z h0 r0 "com/example/fast_rating/fastrating/load/LoadProfile" "concurrency" "I" (.int ck)) (nz : cn ≠ 0) :
    MetFree l (⟨"com/example/fast_rating/fastrating/load/LoadProfile", "slots", "(I)I"⟩ : MethodName) (head1 (Jvm.Cond.code (⟨"com/example/fast_rating/fastrating/load/LoadProfile", "slots", "(I)I"⟩ : MethodName) prog_41_method_5_code 4 (some .int) :: ws) ({ frames := 0, cells := 0, slots := 0, locals := 0 } : Room)) (fun a U => a = #[(.ref r0), (.int p1)] ∧ Z.Warmed39 U.vm ∧ U.heap = h0) (fun _ _ _ _ _ => True) (fun _ U o U' => ∃ v L, o = .returned v ∧ Q_rmS Z r0 p1 cn ck h0 n0 v U'.heap L ∧ FrameEnd U o U' L ({ frames := 0, cells := 0, slots := 0, locals := 0 } : Room).cells ({ frames := 0, cells := 0, slots := 0, locals := 0 } : Room).slots) := by
  refine MetFree.of_bodySF (plainFor_of_name pn_2) hisR ?_
  intro p e s m args below meth c s₁ Bd hml0 hP hK
  obtain ⟨rfl, hZ, hh⟩ := hP
  have hx := Bd.exec
  have hby := Bd.bytes
  have hml : c.maxLocals = 4 := hml0
  have hown : s.vm.findClass "com/example/fast_rating/fastrating/load/LoadProfile" = some m.cls := findClass_of_methodNamed Bd.named
  have hnm := (name_of_methodNamed Bd.named Bd.method).1
  have X0 : Stand p l e ({ frames := 0, cells := 0, slots := 0, locals := 0 } : Room) s m #[(.ref r0), (.int p1)] below meth c s₁ [] 0 0 := Stand.of_body Bd
  have e0 : s₁.heap = h0 := by rw [← hh, Bd.state]; rfl
  have N0 := Fr.nil n0
  have pre0 : ∀ t, Steps p.tables e below (s₁.setTop (mkF m 0 #[vr r0, vi p1, uu, uu] [])) t → Steps p.tables e below (s₁.setTop (entryFrame m #[(.ref r0), (.int p1)] 4)) t := fun t k => castTop (ef_4 m r0 p1) k
  obtain ⟨T1, X1, e1, st1⟩ := getF X0 hx hZ hown (host := "") (Or.inl (wd hw 18 rfl)) Via.refl e0 F2 (g := (mkF m 1 #[vr r0, vi p1, uu, uu] [(.ref r0)])) rfl rfl (hb hby d6_1)
  obtain ⟨T2, X2, e2, st2⟩ := getF X1 hx hZ hown (host := "") (Or.inl (wd hw 16 rfl)) Via.refl e1 F1 (g := (mkF m 5 #[vr r0, vi p1, uu, uu] [(.ref r0), (.int ck)])) rfl rfl (hb hby d6_5)
  obtain ⟨T3, X3, e3, st3⟩ := getF X2 hx hZ hown (host := "") (Or.inl (wd hw 18 rfl)) Via.refl e2 F2 (g := (mkF m 12 #[vr r0, vi p1, vi (ck / cn), uu] [(.ref r0), (.int p1)])) rfl rfl (hb hby d6_12)
  obtain ⟨T4, X4, e4, st4⟩ := getF X3 hx hZ hown (host := "") (Or.inl (wd hw 16 rfl)) Via.refl e3 F1 (g := (mkF m 16 #[vr r0, vi p1, vi (ck / cn), uu] [(.ref r0), (.int ck), (.int p1)])) rfl rfl (hb hby d6_16)
  have sg5 : ∀ target, SS p e below T4 (mkF m 20 #[vr r0, vi p1, vi (ck / cn), uu] [(.int (ck % cn)), (.int p1)]) target → SS p e below s₁ (mkF m 0 #[vr r0, vi p1, uu, uu] []) target := by
    intro target kt
    show SS p e below s₁ (mkF m 0 #[vr r0, vi p1, uu, uu] []) _
    refine XS.aloadN X0.here hx rfl (hb hby d6_0) rfl rfl ?_
    show SS p e below s₁ (mkF m 1 #[vr r0, vi p1, uu, uu] [(.ref r0)]) _
    refine st1 _ ?_
    show SS p e below T1 (mkF m 4 #[vr r0, vi p1, uu, uu] [(.int ck)]) _
    refine XS.aloadN X1.here hx rfl (hb hby d6_4) rfl rfl ?_
    show SS p e below T1 (mkF m 5 #[vr r0, vi p1, uu, uu] [(.ref r0), (.int ck)]) _
    refine st2 _ ?_
    show SS p e below T2 (mkF m 8 #[vr r0, vi p1, uu, uu] [(.int cn), (.int ck)]) _
    refine XS.idiv X2.here hx rfl (hb hby d6_8) rfl nz ?_
    show SS p e below T2 (mkF m 9 #[vr r0, vi p1, uu, uu] [(.int (ck / cn))]) _
    refine XS.istoreN X2.here hx rfl (hb hby d6_9) rfl (l' := #[vr r0, vi p1, vi (ck / cn), uu]) rfl ?_
    show SS p e below T2 (mkF m 10 #[vr r0, vi p1, vi (ck / cn), uu] []) _
    refine XS.iloadN X2.here hx rfl (hb hby d6_10) rfl ?_
    show SS p e below T2 (mkF m 11 #[vr r0, vi p1, vi (ck / cn), uu] [(.int p1)]) _
    refine XS.aloadN X2.here hx rfl (hb hby d6_11) rfl rfl ?_
    show SS p e below T2 (mkF m 12 #[vr r0, vi p1, vi (ck / cn), uu] [(.ref r0), (.int p1)]) _
    refine st3 _ ?_
    show SS p e below T3 (mkF m 15 #[vr r0, vi p1, vi (ck / cn), uu] [(.int ck), (.int p1)]) _
    refine XS.aloadN X3.here hx rfl (hb hby d6_15) rfl rfl ?_
    show SS p e below T3 (mkF m 16 #[vr r0, vi p1, vi (ck / cn), uu] [(.ref r0), (.int ck), (.int p1)]) _
    refine st4 _ ?_
    show SS p e below T4 (mkF m 19 #[vr r0, vi p1, vi (ck / cn), uu] [(.int cn), (.int ck), (.int p1)]) _
    refine iremM X4 hx rfl (hb hby d6_19) rfl nz ?_
    exact kt
  by_cases hc20 : p1 < (ck % cn)
  · obtain ⟨fs, hr, hrun, hended, hW, hsame⟩ := X4.leave (v := some (.int ((ck / cn) + (1 : Int32)))) (fun h => by rw [Bd.returns] at h; cases h)
    refine ⟨_, _, pre0 _ ?_, hrun, hended, _, _, rfl, ?_, ⟨_, rfl⟩, hW, hsame.mono (by decide) (by decide)⟩
    · refine sg5 _ ?_
      show SS p e below T4 (mkF m 20 #[vr r0, vi p1, vi (ck / cn), uu] [(.int (ck % cn)), (.int p1)]) _
      refine XS.icmpNo X4.here hx rfl (hb hby d6_20) rfl (tlt (hc20 : p1 < (ck % cn))).2.1 ?_
      show SS p e below T4 (mkF m 23 #[vr r0, vi p1, vi (ck / cn), uu] []) _
      refine XS.iloadN X4.here hx rfl (hb hby d6_23) rfl ?_
      show SS p e below T4 (mkF m 24 #[vr r0, vi p1, vi (ck / cn), uu] [(.int (ck / cn))]) _
      refine XS.iconst X4.here hx rfl (hb hby d6_24) ?_
      show SS p e below T4 (mkF m 25 #[vr r0, vi p1, vi (ck / cn), uu] [(.int (1 : Int32)), (.int (ck / cn))]) _
      refine XS.iadd X4.here hx rfl (hb hby d6_25) rfl ?_
      show SS p e below T4 (mkF m 26 #[vr r0, vi p1, vi (ck / cn), uu] [(.int ((ck / cn) + (1 : Int32)))]) _
      refine XS.istoreN X4.here hx rfl (hb hby d6_26) rfl (l' := #[vr r0, vi p1, vi (ck / cn), vi ((ck / cn) + (1 : Int32))]) rfl ?_
      show SS p e below T4 (mkF m 27 #[vr r0, vi p1, vi (ck / cn), vi ((ck / cn) + (1 : Int32))] []) _
      refine XS.goto X4.here hx rfl (pc0 := 27) (pc' := 32) rfl (hb hby d6_27) (by decide) (by decide) ?_
      show SS p e below T4 (mkF m 32 #[vr r0, vi p1, vi (ck / cn), vi ((ck / cn) + (1 : Int32))] []) _
      refine XS.iloadN X4.here hx rfl (hb hby d6_32) rfl ?_
      show SS p e below T4 (mkF m 33 #[vr r0, vi p1, vi (ck / cn), vi ((ck / cn) + (1 : Int32))] [(.int ((ck / cn) + (1 : Int32)))]) _
      exact retI X4 hx Bd.returns (hb hby d6_33) hr
    · show Q_rmS Z r0 p1 cn ck h0 n0 _ T4.heap _
      rw [e4]
      exact ⟨(by rw [if_pos hc20]), N0, rfl⟩
  · obtain ⟨fs, hr, hrun, hended, hW, hsame⟩ := X4.leave (v := some (.int (ck / cn))) (fun h => by rw [Bd.returns] at h; cases h)
    refine ⟨_, _, pre0 _ ?_, hrun, hended, _, _, rfl, ?_, ⟨_, rfl⟩, hW, hsame.mono (by decide) (by decide)⟩
    · refine sg5 _ ?_
      show SS p e below T4 (mkF m 20 #[vr r0, vi p1, vi (ck / cn), uu] [(.int (ck % cn)), (.int p1)]) _
      refine XS.icmpYes X4.here hx rfl (pc0 := 20) (pc' := 30) rfl (hb hby d6_20) rfl (flt (hc20 : ¬ (p1 < (ck % cn)))).2.1 (by decide) (by decide) ?_
      show SS p e below T4 (mkF m 30 #[vr r0, vi p1, vi (ck / cn), uu] []) _
      refine XS.iloadN X4.here hx rfl (hb hby d6_30) rfl ?_
      show SS p e below T4 (mkF m 31 #[vr r0, vi p1, vi (ck / cn), uu] [(.int (ck / cn))]) _
      refine XS.istoreN X4.here hx rfl (hb hby d6_31) rfl (l' := #[vr r0, vi p1, vi (ck / cn), vi (ck / cn)]) rfl ?_
      show SS p e below T4 (mkF m 32 #[vr r0, vi p1, vi (ck / cn), vi (ck / cn)] []) _
      refine XS.iloadN X4.here hx rfl (hb hby d6_32) rfl ?_
      show SS p e below T4 (mkF m 33 #[vr r0, vi p1, vi (ck / cn), vi (ck / cn)] [(.int (ck / cn))]) _
      exact retI X4 hx Bd.returns (hb hby d6_33) hr
    · show Q_rmS Z r0 p1 cn ck h0 n0 _ T4.heap _
      rw [e4]
      exact ⟨(by rw [if_neg hc20]), N0, rfl⟩
theorem ef_5 (m : MethodId) (x0 : Int32) (x1 : Int32) (x2 : Int32) (x3 : Int64) : entryFrame m #[(.int x0), (.int x1), (.int x2), (.long x3)] maxLocals = mkF m 0 #[vi x0, vi x1, vi x2, vl x3, us, uu, uu, uu, uu, uu, uu, uu, uu, uu] [] := by first | (simp [entryFrame, mkF, argsToLocals, Value.category, maxLocals]; done) | rfl
theorem pn_3 : plainName "com/example/fast_rating/fastrating/load/LoadProfileSlotsPinLaw" = true := by first | (simp [plainName, overriddenIn]; done) | decide +kernel
theorem pd_2 : parseMethodDescriptor "()Ljava/util/Optional;" = some ⟨[], some (.object "java/util/Optional")⟩ := by decide +kernel
theorem pd_3 : parseMethodDescriptor "(IIJLjava/util/Optional;)V" = some ⟨[.int, .int, .long, (.object "java/util/Optional")], none⟩ := by decide +kernel
theorem pd_4 : parseMethodDescriptor "(I)I" = some ⟨[.int], some .int⟩ := by decide +kernel
def Q_rm0 (Z : State) (p0 : Int32) (p1 : Int32) (p2 : Int32) (q3 : Int64) (em : Addr) (vC : Int32) (vK : Int32) (vI : Int32) (vS : Int64) (h0 : Heap) (n0 : Nat) (v : Option Value) (h : Heap) (L : List Loc) : Prop := (v = some (.int 1) ∧ Fr n0 L)
set_option maxRecDepth 65536 in
set_option maxHeartbeats 40000000 in
theorem rm0 (l : Launch) (Z : State) (a0 : Array Value) (hw : ∀ d ∈ tables_1, d.before a0 Z = true) (ws : List Jvm.Cond) (p0 : Int32) (p1 : Int32) (p2 : Int32) (q3 : Int64) (em : Addr) (vC : Int32) (vK : Int32) (vI : Int32) (vS : Int64) (h0 : Heap) (n0 : Nat) (Z0 : n0 ≤ h0.size) (S : Sta Z h0 "java/util/Optional" "EMPTY" "Ljava/util/Optional;" (.ref em)) (EO : Exa Z h0 em "java/util/Optional") (FO : Fld Z h0 em "java/util/Optional" "value" "Ljava/lang/Object;" .null) (uC : ((1 : Int32) + ((p0 &&& (2147483647 : Int32)) % (2147483647 : Int32))) = vC) (uK : ((1 : Int32) + ((p1 &&& (2147483647 : Int32)) % (2147483647 : Int32))) = vK) (uI : ((p2 &&& (2147483647 : Int32)) % vC) = vI) (uS : ((1 : Int64) + (q3 &&& (4294967295 : Int64))) = vS) (nz : vC ≠ 0) (nzL : vC.toInt64 ≠ 0) (u1 : ¬ (vC < (1 : Int32))) (u2 : ¬ (vK < (1 : Int32))) (u3 : ¬ (lcmpW vS (1 : Int64) < (0 : Int32))) (uf : lcmpW ((if vI < (vK % vC) then ((vK / vC) + (1 : Int32)) else (vK / vC)).toInt64) ((((vK.toInt64) - (vI.toInt64)) + (vC.toInt64) - (1 : Int64)) / (vC.toInt64)) = (0 : Int32)) :
    MetFree l x (head1 (Jvm.Cond.code x code maxLocals ret :: ws) room_1) (fun a U => a = #[(.int p0), (.int p1), (.int p2), (.long q3)] ∧ Z.Warmed39 U.vm ∧ U.heap = h0) (fun _ _ _ _ _ => True) (fun _ U o U' => ∃ v L, o = .returned v ∧ Q_rm0 Z p0 p1 p2 q3 em vC vK vI vS h0 n0 v U'.heap L ∧ ReturnedEndW U o U' L room_1.cells room_1.slots) := by
  refine MetFree.of_bodySF (plainFor_of_name pn_3) hisR ?_
  intro p e s m args below meth c s₁ Bd hml0 hP hK
  obtain ⟨rfl, hZ, hh⟩ := hP
  have hx := Bd.exec
  have hby := Bd.bytes
  have hml : c.maxLocals = 14 := hml0
  have hown : s.vm.findClass "com/example/fast_rating/fastrating/load/LoadProfileSlotsPinLaw" = some m.cls := findClass_of_methodNamed Bd.named
  have hnm := (name_of_methodNamed Bd.named Bd.method).1
  have X0 : Stand p l e room_1 (s.setVm s.vm) m #[(.int p0), (.int p1), (.int p2), (.long q3)] below meth c s₁ [] 0 0 := Stand.of_body Bd
  have e0 : s₁.heap = h0 := by rw [← hh, Bd.state]; rfl
  have N0 := Fr.nil n0
  have pre0 : ∀ t, Steps p.tables e below (s₁.setTop (mkF m 0 #[vi p0, vi p1, vi p2, vl q3, us, uu, uu, uu, uu, uu, uu, uu, uu, uu] [])) t → Steps p.tables e below (s₁.setTop (entryFrame m #[(.int p0), (.int p1), (.int p2), (.long q3)] maxLocals)) t := fun t k => castTop (ef_5 m p0 p1 p2 q3) k
  have hS0 : s.Since s.vm 0 := (State.WarmedH.refl s).since _
  have hk0 : 0 ≤ h0.size := Nat.zero_le _
  obtain ⟨_, _, ⟨T1, L1, k1, n1⟩, -, X1, ⟨Lc1, hQ1, l1, y1, z1⟩, st1⟩ := Jvm.LawKit.callS X0 hx (y := (⟨"java/util/Optional", "empty", "()Ljava/util/Optional;"⟩ : MethodName)) hown (mvT hZ (wd hw 2 rfl)) (mvT hZ (wd hw 3 rfl)) (mvT hZ (wd hw 4 rfl)) (mvT hZ (wd hw 5 rfl)) (by decide) (backOf (W := 0) (rmE l Z a0 hw [] em h0 n0 Z0 S) hZ (wd hw 5 rfl) (wd hw 4 rfl) (by decide) (by decide)) (g := (mkF m 40 #[vi p0, vi p1, vi p2, vl q3, us, vi vC, vi vK, vi vI, vl vS, us, uu, uu, uu, uu] [])) rfl (by rw [hml]; rfl) (argsL := []) (rest := []) (lenOf pd_2 rfl) rfl (by show 2 * 0 + _ ≤ _; exact Nat.le_of_eq rfl) (hb hby at_40) (fun _ _ => ⟨rfl, e0, (by decide : 0 + 0 ≤ _), (by decide : 0 + 0 ≤ _)⟩)
  dsimp only [Pt.U, Pt.locs, Pt.cells, Pt.slots] at X1 l1 y1 z1 st1 hQ1
  subst l1 y1 z1
  obtain ⟨rfl, Nq1, eh1⟩ := hQ1
  have N1 := Fr.app N0 Nq1
  obtain ⟨T2, h2, X2, e2, E2, A2, D2, Un2, st2⟩ := newO X1 hx hZ hown (wd hw 7 rfl) (wd hw 8 rfl) (wd hw 9 rfl) eh1 (g := (mkF m 45 #[vi p0, vi p1, vi p2, vl q3, us, vi vC, vi vK, vi vI, vl vS, us, vr em, uu, uu, uu] [])) rfl (hb hby at_45) (by decide) (by decide)
  obtain ⟨b2, g2⟩ : ∃ z, z = h0.size := ⟨_, rfl⟩
  rw [← g2] at A2 D2 Un2 st2
  have ne_em_b2 : em ≠ b2 := Nat.ne_of_lt (Nat.lt_of_lt_of_le EO.lt (Nat.le_of_eq g2.symm))
  have F2_connections : Fld Z h2 b2 "com/example/fast_rating/fastrating/load/LoadProfile" "connections" "I" (.int (0 : Int32)) := D2 (Or.inr (wd hw 17 rfl)) (ty := .int) (by decide)
  have F2_concurrency : Fld Z h2 b2 "com/example/fast_rating/fastrating/load/LoadProfile" "concurrency" "I" (.int (0 : Int32)) := D2 (Or.inr (wd hw 19 rfl)) (ty := .int) (by decide)
  have F2_sessions : Fld Z h2 b2 "com/example/fast_rating/fastrating/load/LoadProfile" "sessions" "J" (.long (0 : Int64)) := D2 (Or.inr (wd hw 21 rfl)) (ty := .long) (by decide)
  have F2_duration : Fld Z h2 b2 "com/example/fast_rating/fastrating/load/LoadProfile" "duration" "Ljava/util/Optional;" .null := D2 (Or.inr (wd hw 37 rfl)) (ty := (.object "java/util/Optional")) (by decide)
  have g_b2 : n0 ≤ b2 := Nat.le_trans Z0 (Nat.le_of_eq g2.symm)
  have sz_b2 : h0.size ≤ b2 := Nat.le_trans (Keep.refl h0 []).1 (Nat.le_of_eq g2.symm)
  have K2 : Keep h0 h2 [] := (Keep.refl h0 []).ext E2
  have Z2 : n0 ≤ h2.size := Nat.le_trans Z0 E2.1
  have hk2 : _ ≤ h2.size := Nat.le_trans hk0 E2.1
  have c4 := (EO.ext E2)
  have c5 := (FO.ext E2)
  obtain ⟨_, _, ⟨T3, L3, k3, n3⟩, -, X3', hS3', hg3, ⟨Lc3, hQ3, l3, y3, z3⟩, st3⟩ := X2.specialBackS hx (y := (⟨"com/example/fast_rating/fastrating/load/LoadProfile", "<init>", "(IIJLjava/util/Optional;)V"⟩ : MethodName)) rfl hown (mvT hZ (wd hw 10 rfl)) (mvT hZ (wd hw 11 rfl)) (mvT hZ (wd hw 12 rfl)) (by decide) (backOfS (W := 1) (rmI l Z a0 hw [] b2 vC vK vS em h2 n0 Z2 A2 F2_connections F2_concurrency F2_sessions F2_duration g_b2 c4 c5 u1 u2 u3) hZ (wd hw 12 rfl) (wd hw 9 rfl) (by decide) (by decide)) (g := (mkF m 57 #[vi p0, vi p1, vi p2, vl q3, us, vi vC, vi vK, vi vI, vl vS, us, vr em, uu, uu, uu] [(.ref em), (.long vS), (.int vK), (.int vC), (.ref b2), (.ref b2)])) rfl (by rw [hml]; rfl) (Steps.refl _) (a := b2) (argsL := [(.int vC), (.int vK), (.long vS), (.ref em)]) (rest := [(.ref b2)]) (lenOf pd_3 rfl) rfl (by show 2 * 0 + _ ≤ _; exact Nat.le_of_eq rfl) (hb hby at_57) (fun _ _ => ⟨rfl, e2, (by decide : 1 + 2 ≤ _), (by decide : 4 + 36 ≤ _)⟩)
  dsimp only [Pt.U, Pt.locs, Pt.cells, Pt.slots] at X3' hS3' hg3 l3 y3 z3 st3 hQ3
  subst l3 y3 z3
  obtain ⟨X3, hS3, hZ3, hown3⟩ := rebS hS0 (own_hk e2 hk2) X3' hS3' hg3 hZ hown
  obtain ⟨rfl, Nq3, Kq3, f3_0, f3_1, f3_2⟩ := hQ3
  have N3 := Fr.app N1 Nq3
  have K3 : Keep h0 T3.heap [] := K2.trans Kq3 (allS (Or.inr sz_b2) all0)
  have Z3 : n0 ≤ T3.heap.size := Nat.le_trans Z2 Kq3.1
  have hk3 : T3.heap.size ≤ T3.heap.size := Nat.le_refl _
  obtain ⟨cq6, kq6, q6a, q6b, q6c⟩ := isOf hZ3 rfl f3_0
  obtain ⟨_, _, ⟨T6, L6, k6, n6⟩, -, X6, ⟨Lc6, hQ6, l6, y6, z6⟩, st6⟩ := X3.virtualBack hx (y := (⟨"com/example/fast_rating/fastrating/load/LoadProfile", "slots", "(I)I"⟩ : MethodName)) (z := (⟨"com/example/fast_rating/fastrating/load/LoadProfile", "slots", "(I)I"⟩ : MethodName)) hown3 (mvT hZ3 (wd hw 45 rfl)) (mvT hZ3 (wd hw 46 rfl)) (notFace_of_selects (args := #[]) (mvT hZ3 (wd hw 48 rfl))) (mvT hZ3 (wd hw 48 rfl)) (mvT hZ3 (wd hw 47 rfl)) (by decide) (backOf (W := 0) (rmS l Z a0 hw [] b2 vI vC vK T3.heap n0 Z3 f3_1 f3_2 nz) hZ3 (wd hw 49 rfl) (wd hw 9 rfl) (by decide) (by decide)) q6a q6c (g := (mkF m 85 #[vi p0, vi p1, vi p2, vl q3, us, vi vC, vi vK, vi vI, vl vS, us, vr em, vr b2, vl (((((vK.toInt64) - (vI.toInt64)) + (vC.toInt64)) - (1 : Int64)) / (vC.toInt64)), us] [(.int vI), (.ref b2)])) rfl (by rw [hml]; rfl) (Steps.refl _) (argsL := [(.int vI)]) (rest := []) (lenOf pd_4 rfl) rfl (by show 2 * 0 + _ ≤ _; exact Nat.le_of_eq rfl) (hb hby at_85) (fun _ _ => ⟨rfl, rfl, (by decide : 3 + 0 ≤ _), (by decide : 40 + 0 ≤ _)⟩)
  dsimp only [Pt.U, Pt.locs, Pt.cells, Pt.slots] at X6 l6 y6 z6 st6 hQ6
  subst l6 y6 z6
  obtain ⟨rfl, Nq6, eh6⟩ := hQ6
  have N6 := Fr.app N3 Nq6
  obtain ⟨fs, hr, hrun, hended, en1, en2, en3, en4⟩ := X6.leaveW hS3 (own_hk eh6 hk3) (v := some (.int (nar .boolean (1 : Int32)))) (fun h => by rw [Bd.returns] at h; cases h)
  refine ⟨_, _, pre0 _ ?_, hrun, hended, _, _, rfl, ?_, en1, en2, en3, en4.mono (by decide) (by decide)⟩
  · show SS p e below s₁ (mkF m 0 #[vi p0, vi p1, vi p2, vl q3, us, uu, uu, uu, uu, uu, uu, uu, uu, uu] []) _
    refine XS.iconst X0.here hx rfl (hb hby at_0) ?_
    show SS p e below s₁ (mkF m 1 #[vi p0, vi p1, vi p2, vl q3, us, uu, uu, uu, uu, uu, uu, uu, uu, uu] [(.int (1 : Int32))]) _
    refine XS.iloadN X0.here hx rfl (hb hby at_1) rfl ?_
    show SS p e below s₁ (mkF m 2 #[vi p0, vi p1, vi p2, vl q3, us, uu, uu, uu, uu, uu, uu, uu, uu, uu] [(.int p0), (.int (1 : Int32))]) _
    refine X0.ldcInt hx hown (mvT hZ (wd hw 0 rfl)) (g := (mkF m 2 #[vi p0, vi p1, vi p2, vl q3, us, uu, uu, uu, uu, uu, uu, uu, uu, uu] [(.int p0), (.int (1 : Int32))])) rfl (hb hby at_2) _ ?_
    show SS p e below s₁ (mkF m 4 #[vi p0, vi p1, vi p2, vl q3, us, uu, uu, uu, uu, uu, uu, uu, uu, uu] [(.int (2147483647 : Int32)), (.int p0), (.int (1 : Int32))]) _
    refine XS.iand X0.here hx rfl (hb hby at_4) rfl ?_
    show SS p e below s₁ (mkF m 5 #[vi p0, vi p1, vi p2, vl q3, us, uu, uu, uu, uu, uu, uu, uu, uu, uu] [(.int (p0 &&& (2147483647 : Int32))), (.int (1 : Int32))]) _
    refine X0.ldcInt hx hown (mvT hZ (wd hw 0 rfl)) (g := (mkF m 5 #[vi p0, vi p1, vi p2, vl q3, us, uu, uu, uu, uu, uu, uu, uu, uu, uu] [(.int (p0 &&& (2147483647 : Int32))), (.int (1 : Int32))])) rfl (hb hby at_5) _ ?_
    show SS p e below s₁ (mkF m 7 #[vi p0, vi p1, vi p2, vl q3, us, uu, uu, uu, uu, uu, uu, uu, uu, uu] [(.int (2147483647 : Int32)), (.int (p0 &&& (2147483647 : Int32))), (.int (1 : Int32))]) _
    refine iremM X0 hx rfl (hb hby at_7) rfl (by decide) ?_
    show SS p e below s₁ (mkF m 8 #[vi p0, vi p1, vi p2, vl q3, us, uu, uu, uu, uu, uu, uu, uu, uu, uu] [(.int ((p0 &&& (2147483647 : Int32)) % (2147483647 : Int32))), (.int (1 : Int32))]) _
    refine XS.iadd X0.here hx rfl (hb hby at_8) rfl ?_
    show SS p e below s₁ (mkF m 9 #[vi p0, vi p1, vi p2, vl q3, us, uu, uu, uu, uu, uu, uu, uu, uu, uu] [(.int ((1 : Int32) + ((p0 &&& (2147483647 : Int32)) % (2147483647 : Int32))))]) _
    rw [uC]
    show SS p e below s₁ (mkF m 9 #[vi p0, vi p1, vi p2, vl q3, us, uu, uu, uu, uu, uu, uu, uu, uu, uu] [(.int vC)]) _
    refine XS.istore X0.here hx rfl (hb hby at_9) rfl (l' := #[vi p0, vi p1, vi p2, vl q3, us, vi vC, uu, uu, uu, uu, uu, uu, uu, uu]) rfl ?_
    show SS p e below s₁ (mkF m 11 #[vi p0, vi p1, vi p2, vl q3, us, vi vC, uu, uu, uu, uu, uu, uu, uu, uu] []) _
    refine XS.iconst X0.here hx rfl (hb hby at_11) ?_
    show SS p e below s₁ (mkF m 12 #[vi p0, vi p1, vi p2, vl q3, us, vi vC, uu, uu, uu, uu, uu, uu, uu, uu] [(.int (1 : Int32))]) _
    refine XS.iloadN X0.here hx rfl (hb hby at_12) rfl ?_
    show SS p e below s₁ (mkF m 13 #[vi p0, vi p1, vi p2, vl q3, us, vi vC, uu, uu, uu, uu, uu, uu, uu, uu] [(.int p1), (.int (1 : Int32))]) _
    refine X0.ldcInt hx hown (mvT hZ (wd hw 0 rfl)) (g := (mkF m 13 #[vi p0, vi p1, vi p2, vl q3, us, vi vC, uu, uu, uu, uu, uu, uu, uu, uu] [(.int p1), (.int (1 : Int32))])) rfl (hb hby at_13) _ ?_
    show SS p e below s₁ (mkF m 15 #[vi p0, vi p1, vi p2, vl q3, us, vi vC, uu, uu, uu, uu, uu, uu, uu, uu] [(.int (2147483647 : Int32)), (.int p1), (.int (1 : Int32))]) _
    refine XS.iand X0.here hx rfl (hb hby at_15) rfl ?_
    show SS p e below s₁ (mkF m 16 #[vi p0, vi p1, vi p2, vl q3, us, vi vC, uu, uu, uu, uu, uu, uu, uu, uu] [(.int (p1 &&& (2147483647 : Int32))), (.int (1 : Int32))]) _
    refine X0.ldcInt hx hown (mvT hZ (wd hw 0 rfl)) (g := (mkF m 16 #[vi p0, vi p1, vi p2, vl q3, us, vi vC, uu, uu, uu, uu, uu, uu, uu, uu] [(.int (p1 &&& (2147483647 : Int32))), (.int (1 : Int32))])) rfl (hb hby at_16) _ ?_
    show SS p e below s₁ (mkF m 18 #[vi p0, vi p1, vi p2, vl q3, us, vi vC, uu, uu, uu, uu, uu, uu, uu, uu] [(.int (2147483647 : Int32)), (.int (p1 &&& (2147483647 : Int32))), (.int (1 : Int32))]) _
    refine iremM X0 hx rfl (hb hby at_18) rfl (by decide) ?_
    show SS p e below s₁ (mkF m 19 #[vi p0, vi p1, vi p2, vl q3, us, vi vC, uu, uu, uu, uu, uu, uu, uu, uu] [(.int ((p1 &&& (2147483647 : Int32)) % (2147483647 : Int32))), (.int (1 : Int32))]) _
    refine XS.iadd X0.here hx rfl (hb hby at_19) rfl ?_
    show SS p e below s₁ (mkF m 20 #[vi p0, vi p1, vi p2, vl q3, us, vi vC, uu, uu, uu, uu, uu, uu, uu, uu] [(.int ((1 : Int32) + ((p1 &&& (2147483647 : Int32)) % (2147483647 : Int32))))]) _
    rw [uK]
    show SS p e below s₁ (mkF m 20 #[vi p0, vi p1, vi p2, vl q3, us, vi vC, uu, uu, uu, uu, uu, uu, uu, uu] [(.int vK)]) _
    refine XS.istore X0.here hx rfl (hb hby at_20) rfl (l' := #[vi p0, vi p1, vi p2, vl q3, us, vi vC, vi vK, uu, uu, uu, uu, uu, uu, uu]) rfl ?_
    show SS p e below s₁ (mkF m 22 #[vi p0, vi p1, vi p2, vl q3, us, vi vC, vi vK, uu, uu, uu, uu, uu, uu, uu] []) _
    refine XS.iloadN X0.here hx rfl (hb hby at_22) rfl ?_
    show SS p e below s₁ (mkF m 23 #[vi p0, vi p1, vi p2, vl q3, us, vi vC, vi vK, uu, uu, uu, uu, uu, uu, uu] [(.int p2)]) _
    refine X0.ldcInt hx hown (mvT hZ (wd hw 0 rfl)) (g := (mkF m 23 #[vi p0, vi p1, vi p2, vl q3, us, vi vC, vi vK, uu, uu, uu, uu, uu, uu, uu] [(.int p2)])) rfl (hb hby at_23) _ ?_
    show SS p e below s₁ (mkF m 25 #[vi p0, vi p1, vi p2, vl q3, us, vi vC, vi vK, uu, uu, uu, uu, uu, uu, uu] [(.int (2147483647 : Int32)), (.int p2)]) _
    refine XS.iand X0.here hx rfl (hb hby at_25) rfl ?_
    show SS p e below s₁ (mkF m 26 #[vi p0, vi p1, vi p2, vl q3, us, vi vC, vi vK, uu, uu, uu, uu, uu, uu, uu] [(.int (p2 &&& (2147483647 : Int32)))]) _
    refine XS.iload X0.here hx rfl (hb hby at_26) rfl ?_
    show SS p e below s₁ (mkF m 28 #[vi p0, vi p1, vi p2, vl q3, us, vi vC, vi vK, uu, uu, uu, uu, uu, uu, uu] [(.int vC), (.int (p2 &&& (2147483647 : Int32)))]) _
    refine iremM X0 hx rfl (hb hby at_28) rfl nz ?_
    show SS p e below s₁ (mkF m 29 #[vi p0, vi p1, vi p2, vl q3, us, vi vC, vi vK, uu, uu, uu, uu, uu, uu, uu] [(.int ((p2 &&& (2147483647 : Int32)) % vC))]) _
    rw [uI]
    show SS p e below s₁ (mkF m 29 #[vi p0, vi p1, vi p2, vl q3, us, vi vC, vi vK, uu, uu, uu, uu, uu, uu, uu] [(.int vI)]) _
    refine XS.istore X0.here hx rfl (hb hby at_29) rfl (l' := #[vi p0, vi p1, vi p2, vl q3, us, vi vC, vi vK, vi vI, uu, uu, uu, uu, uu, uu]) rfl ?_
    show SS p e below s₁ (mkF m 31 #[vi p0, vi p1, vi p2, vl q3, us, vi vC, vi vK, vi vI, uu, uu, uu, uu, uu, uu] []) _
    refine XS.lconst X0.here hx rfl (hb hby at_31) ?_
    show SS p e below s₁ (mkF m 32 #[vi p0, vi p1, vi p2, vl q3, us, vi vC, vi vK, vi vI, uu, uu, uu, uu, uu, uu] [(.long (1 : Int64))]) _
    refine XS.lloadN X0.here hx rfl (hb hby at_32) rfl ?_
    show SS p e below s₁ (mkF m 33 #[vi p0, vi p1, vi p2, vl q3, us, vi vC, vi vK, vi vI, uu, uu, uu, uu, uu, uu] [(.long q3), (.long (1 : Int64))]) _
    refine X0.ldc2Long hx hown (mvT hZ (wd hw 1 rfl)) (g := (mkF m 33 #[vi p0, vi p1, vi p2, vl q3, us, vi vC, vi vK, vi vI, uu, uu, uu, uu, uu, uu] [(.long q3), (.long (1 : Int64))])) rfl (hb hby at_33) _ ?_
    show SS p e below s₁ (mkF m 36 #[vi p0, vi p1, vi p2, vl q3, us, vi vC, vi vK, vi vI, uu, uu, uu, uu, uu, uu] [(.long (4294967295 : Int64)), (.long q3), (.long (1 : Int64))]) _
    refine XS.land X0.here hx rfl (hb hby at_36) rfl ?_
    show SS p e below s₁ (mkF m 37 #[vi p0, vi p1, vi p2, vl q3, us, vi vC, vi vK, vi vI, uu, uu, uu, uu, uu, uu] [(.long (q3 &&& (4294967295 : Int64))), (.long (1 : Int64))]) _
    refine XS.ladd X0.here hx rfl (hb hby at_37) rfl ?_
    show SS p e below s₁ (mkF m 38 #[vi p0, vi p1, vi p2, vl q3, us, vi vC, vi vK, vi vI, uu, uu, uu, uu, uu, uu] [(.long ((1 : Int64) + (q3 &&& (4294967295 : Int64))))]) _
    rw [uS]
    show SS p e below s₁ (mkF m 38 #[vi p0, vi p1, vi p2, vl q3, us, vi vC, vi vK, vi vI, uu, uu, uu, uu, uu, uu] [(.long vS)]) _
    refine XS.lstore X0.here hx rfl (hb hby at_38) rfl (l' := #[vi p0, vi p1, vi p2, vl q3, us, vi vC, vi vK, vi vI, vl vS, us, uu, uu, uu, uu]) rfl ?_
    show SS p e below s₁ (mkF m 40 #[vi p0, vi p1, vi p2, vl q3, us, vi vC, vi vK, vi vI, vl vS, us, uu, uu, uu, uu] []) _
    refine st1 _ ?_
    show SS p e below T1 (mkF m 43 #[vi p0, vi p1, vi p2, vl q3, us, vi vC, vi vK, vi vI, vl vS, us, uu, uu, uu, uu] [(.ref em)]) _
    refine XS.astore X1.here hx rfl (hb hby at_43) rfl rfl (l' := #[vi p0, vi p1, vi p2, vl q3, us, vi vC, vi vK, vi vI, vl vS, us, vr em, uu, uu, uu]) rfl ?_
    show SS p e below T1 (mkF m 45 #[vi p0, vi p1, vi p2, vl q3, us, vi vC, vi vK, vi vI, vl vS, us, vr em, uu, uu, uu] []) _
    refine st2 _ ?_
    show SS p e below T2 (mkF m 48 #[vi p0, vi p1, vi p2, vl q3, us, vi vC, vi vK, vi vI, vl vS, us, vr em, uu, uu, uu] [(.ref b2)]) _
    refine XS.dup X2.here hx rfl (hb hby at_48) rfl rfl ?_
    show SS p e below T2 (mkF m 49 #[vi p0, vi p1, vi p2, vl q3, us, vi vC, vi vK, vi vI, vl vS, us, vr em, uu, uu, uu] [(.ref b2), (.ref b2)]) _
    refine XS.iload X2.here hx rfl (hb hby at_49) rfl ?_
    show SS p e below T2 (mkF m 51 #[vi p0, vi p1, vi p2, vl q3, us, vi vC, vi vK, vi vI, vl vS, us, vr em, uu, uu, uu] [(.int vC), (.ref b2), (.ref b2)]) _
    refine XS.iload X2.here hx rfl (hb hby at_51) rfl ?_
    show SS p e below T2 (mkF m 53 #[vi p0, vi p1, vi p2, vl q3, us, vi vC, vi vK, vi vI, vl vS, us, vr em, uu, uu, uu] [(.int vK), (.int vC), (.ref b2), (.ref b2)]) _
    refine XS.lload X2.here hx rfl (hb hby at_53) rfl ?_
    show SS p e below T2 (mkF m 55 #[vi p0, vi p1, vi p2, vl q3, us, vi vC, vi vK, vi vI, vl vS, us, vr em, uu, uu, uu] [(.long vS), (.int vK), (.int vC), (.ref b2), (.ref b2)]) _
    refine XS.aload X2.here hx rfl (hb hby at_55) rfl rfl ?_
    show SS p e below T2 (mkF m 57 #[vi p0, vi p1, vi p2, vl q3, us, vi vC, vi vK, vi vI, vl vS, us, vr em, uu, uu, uu] [(.ref em), (.long vS), (.int vK), (.int vC), (.ref b2), (.ref b2)]) _
    refine st3.trans ?_
    show SS p e below T3 (mkF m 60 #[vi p0, vi p1, vi p2, vl q3, us, vi vC, vi vK, vi vI, vl vS, us, vr em, uu, uu, uu] [(.ref b2)]) _
    refine XS.astore X3.here hx rfl (hb hby at_60) rfl rfl (l' := #[vi p0, vi p1, vi p2, vl q3, us, vi vC, vi vK, vi vI, vl vS, us, vr em, vr b2, uu, uu]) rfl ?_
    show SS p e below T3 (mkF m 62 #[vi p0, vi p1, vi p2, vl q3, us, vi vC, vi vK, vi vI, vl vS, us, vr em, vr b2, uu, uu] []) _
    refine XS.iload X3.here hx rfl (hb hby at_62) rfl ?_
    show SS p e below T3 (mkF m 64 #[vi p0, vi p1, vi p2, vl q3, us, vi vC, vi vK, vi vI, vl vS, us, vr em, vr b2, uu, uu] [(.int vK)]) _
    refine XS.i2l X3.here hx rfl (hb hby at_64) rfl ?_
    show SS p e below T3 (mkF m 65 #[vi p0, vi p1, vi p2, vl q3, us, vi vC, vi vK, vi vI, vl vS, us, vr em, vr b2, uu, uu] [(.long (vK.toInt64))]) _
    refine XS.iload X3.here hx rfl (hb hby at_65) rfl ?_
    show SS p e below T3 (mkF m 67 #[vi p0, vi p1, vi p2, vl q3, us, vi vC, vi vK, vi vI, vl vS, us, vr em, vr b2, uu, uu] [(.int vI), (.long (vK.toInt64))]) _
    refine XS.i2l X3.here hx rfl (hb hby at_67) rfl ?_
    show SS p e below T3 (mkF m 68 #[vi p0, vi p1, vi p2, vl q3, us, vi vC, vi vK, vi vI, vl vS, us, vr em, vr b2, uu, uu] [(.long (vI.toInt64)), (.long (vK.toInt64))]) _
    refine XS.lsub X3.here hx rfl (hb hby at_68) rfl ?_
    show SS p e below T3 (mkF m 69 #[vi p0, vi p1, vi p2, vl q3, us, vi vC, vi vK, vi vI, vl vS, us, vr em, vr b2, uu, uu] [(.long ((vK.toInt64) - (vI.toInt64)))]) _
    refine XS.iload X3.here hx rfl (hb hby at_69) rfl ?_
    show SS p e below T3 (mkF m 71 #[vi p0, vi p1, vi p2, vl q3, us, vi vC, vi vK, vi vI, vl vS, us, vr em, vr b2, uu, uu] [(.int vC), (.long ((vK.toInt64) - (vI.toInt64)))]) _
    refine XS.i2l X3.here hx rfl (hb hby at_71) rfl ?_
    show SS p e below T3 (mkF m 72 #[vi p0, vi p1, vi p2, vl q3, us, vi vC, vi vK, vi vI, vl vS, us, vr em, vr b2, uu, uu] [(.long (vC.toInt64)), (.long ((vK.toInt64) - (vI.toInt64)))]) _
    refine XS.ladd X3.here hx rfl (hb hby at_72) rfl ?_
    show SS p e below T3 (mkF m 73 #[vi p0, vi p1, vi p2, vl q3, us, vi vC, vi vK, vi vI, vl vS, us, vr em, vr b2, uu, uu] [(.long (((vK.toInt64) - (vI.toInt64)) + (vC.toInt64)))]) _
    refine XS.lconst X3.here hx rfl (hb hby at_73) ?_
    show SS p e below T3 (mkF m 74 #[vi p0, vi p1, vi p2, vl q3, us, vi vC, vi vK, vi vI, vl vS, us, vr em, vr b2, uu, uu] [(.long (1 : Int64)), (.long (((vK.toInt64) - (vI.toInt64)) + (vC.toInt64)))]) _
    refine XS.lsub X3.here hx rfl (hb hby at_74) rfl ?_
    show SS p e below T3 (mkF m 75 #[vi p0, vi p1, vi p2, vl q3, us, vi vC, vi vK, vi vI, vl vS, us, vr em, vr b2, uu, uu] [(.long ((((vK.toInt64) - (vI.toInt64)) + (vC.toInt64)) - (1 : Int64)))]) _
    refine XS.iload X3.here hx rfl (hb hby at_75) rfl ?_
    show SS p e below T3 (mkF m 77 #[vi p0, vi p1, vi p2, vl q3, us, vi vC, vi vK, vi vI, vl vS, us, vr em, vr b2, uu, uu] [(.int vC), (.long ((((vK.toInt64) - (vI.toInt64)) + (vC.toInt64)) - (1 : Int64)))]) _
    refine XS.i2l X3.here hx rfl (hb hby at_77) rfl ?_
    show SS p e below T3 (mkF m 78 #[vi p0, vi p1, vi p2, vl q3, us, vi vC, vi vK, vi vI, vl vS, us, vr em, vr b2, uu, uu] [(.long (vC.toInt64)), (.long ((((vK.toInt64) - (vI.toInt64)) + (vC.toInt64)) - (1 : Int64)))]) _
    refine XS.ldiv X3.here hx rfl (hb hby at_78) rfl nzL ?_
    show SS p e below T3 (mkF m 79 #[vi p0, vi p1, vi p2, vl q3, us, vi vC, vi vK, vi vI, vl vS, us, vr em, vr b2, uu, uu] [(.long (((((vK.toInt64) - (vI.toInt64)) + (vC.toInt64)) - (1 : Int64)) / (vC.toInt64)))]) _
    refine XS.lstore X3.here hx rfl (hb hby at_79) rfl (l' := #[vi p0, vi p1, vi p2, vl q3, us, vi vC, vi vK, vi vI, vl vS, us, vr em, vr b2, vl (((((vK.toInt64) - (vI.toInt64)) + (vC.toInt64)) - (1 : Int64)) / (vC.toInt64)), us]) rfl ?_
    show SS p e below T3 (mkF m 81 #[vi p0, vi p1, vi p2, vl q3, us, vi vC, vi vK, vi vI, vl vS, us, vr em, vr b2, vl (((((vK.toInt64) - (vI.toInt64)) + (vC.toInt64)) - (1 : Int64)) / (vC.toInt64)), us] []) _
    refine XS.aload X3.here hx rfl (hb hby at_81) rfl rfl ?_
    show SS p e below T3 (mkF m 83 #[vi p0, vi p1, vi p2, vl q3, us, vi vC, vi vK, vi vI, vl vS, us, vr em, vr b2, vl (((((vK.toInt64) - (vI.toInt64)) + (vC.toInt64)) - (1 : Int64)) / (vC.toInt64)), us] [(.ref b2)]) _
    refine XS.iload X3.here hx rfl (hb hby at_83) rfl ?_
    show SS p e below T3 (mkF m 85 #[vi p0, vi p1, vi p2, vl q3, us, vi vC, vi vK, vi vI, vl vS, us, vr em, vr b2, vl (((((vK.toInt64) - (vI.toInt64)) + (vC.toInt64)) - (1 : Int64)) / (vC.toInt64)), us] [(.int vI), (.ref b2)]) _
    refine st6.trans ?_
    show SS p e below T6 (mkF m 88 #[vi p0, vi p1, vi p2, vl q3, us, vi vC, vi vK, vi vI, vl vS, us, vr em, vr b2, vl (((((vK.toInt64) - (vI.toInt64)) + (vC.toInt64)) - (1 : Int64)) / (vC.toInt64)), us] [(.int (if vI < (vK % vC) then ((vK / vC) + (1 : Int32)) else (vK / vC)))]) _
    refine XS.i2l X6.here hx rfl (hb hby at_88) rfl ?_
    show SS p e below T6 (mkF m 89 #[vi p0, vi p1, vi p2, vl q3, us, vi vC, vi vK, vi vI, vl vS, us, vr em, vr b2, vl (((((vK.toInt64) - (vI.toInt64)) + (vC.toInt64)) - (1 : Int64)) / (vC.toInt64)), us] [(.long ((if vI < (vK % vC) then ((vK / vC) + (1 : Int32)) else (vK / vC)).toInt64))]) _
    refine XS.lload X6.here hx rfl (hb hby at_89) rfl ?_
    show SS p e below T6 (mkF m 91 #[vi p0, vi p1, vi p2, vl q3, us, vi vC, vi vK, vi vI, vl vS, us, vr em, vr b2, vl (((((vK.toInt64) - (vI.toInt64)) + (vC.toInt64)) - (1 : Int64)) / (vC.toInt64)), us] [(.long (((((vK.toInt64) - (vI.toInt64)) + (vC.toInt64)) - (1 : Int64)) / (vC.toInt64))), (.long ((if vI < (vK % vC) then ((vK / vC) + (1 : Int32)) else (vK / vC)).toInt64))]) _
    refine XS.lcmp X6.here hx rfl (hb hby at_91) rfl ?_
    show SS p e below T6 (mkF m 92 #[vi p0, vi p1, vi p2, vl q3, us, vi vC, vi vK, vi vI, vl vS, us, vr em, vr b2, vl (((((vK.toInt64) - (vI.toInt64)) + (vC.toInt64)) - (1 : Int64)) / (vC.toInt64)), us] [(.int (lcmpW ((if vI < (vK % vC) then ((vK / vC) + (1 : Int32)) else (vK / vC)).toInt64) (((((vK.toInt64) - (vI.toInt64)) + (vC.toInt64)) - (1 : Int64)) / (vC.toInt64))))]) _
    refine XS.ifNo X6.here hx rfl (hb hby at_92) rfl ((if0 _ _).trans (teq (uf : (lcmpW ((if vI < (vK % vC) then ((vK / vC) + (1 : Int32)) else (vK / vC)).toInt64) (((((vK.toInt64) - (vI.toInt64)) + (vC.toInt64)) - (1 : Int64)) / (vC.toInt64))) = (0 : Int32))).2) ?_
    show SS p e below T6 (mkF m 95 #[vi p0, vi p1, vi p2, vl q3, us, vi vC, vi vK, vi vI, vl vS, us, vr em, vr b2, vl (((((vK.toInt64) - (vI.toInt64)) + (vC.toInt64)) - (1 : Int64)) / (vC.toInt64)), us] []) _
    refine XS.iconst X6.here hx rfl (hb hby at_95) ?_
    show SS p e below T6 (mkF m 96 #[vi p0, vi p1, vi p2, vl q3, us, vi vC, vi vK, vi vI, vl vS, us, vr em, vr b2, vl (((((vK.toInt64) - (vI.toInt64)) + (vC.toInt64)) - (1 : Int64)) / (vC.toInt64)), us] [(.int (1 : Int32))]) _
    refine XS.goto X6.here hx rfl (pc0 := 96) (pc' := 100) rfl (hb hby at_96) (by decide) (by decide) ?_
    show SS p e below T6 (mkF m 100 #[vi p0, vi p1, vi p2, vl q3, us, vi vC, vi vK, vi vI, vl vS, us, vr em, vr b2, vl (((((vK.toInt64) - (vI.toInt64)) + (vC.toInt64)) - (1 : Int64)) / (vC.toInt64)), us] [(.int (1 : Int32))]) _
    exact retN X6 hx (t := .boolean) Bd.returns (by simp) (hb hby at_100) hr
  · show Q_rm0 Z p0 p1 p2 q3 em vC vK vI vS h0 n0 _ T6.heap _
    rw [eh6]
    exact ⟨rfl, N6⟩
set_option maxRecDepth 65536 in
set_option maxHeartbeats 40000000 in
theorem comes_1 {Post : Tables → Env → Array Value → State → Outcome → State → Prop} (hpost : ∀ tb e args s v u, (limb_1_1.after args s (.returned v) u = true ∧ limb_1_2.after args s (.returned v) u = true ∧ True) → ReturnedEndW s (.returned v) u (Jvm.fieldLocs frame_1_writes args s ++ Jvm.arrayLocs frame_1_arrays args s ++ Jvm.staticLocs frame_1_statics s) 16 1152 → Post tb e args s (.returned v) u) :
    ArmFor flags0 classFile x code maxLocals ret World_1 tables_1 room_1 Calls_1 rest_1 Pre_1 Post := by
  intro l hfl _ _ p e ha hc hk s m args below hf hA hF happ hP
  obtain ⟨hcalls, hrest, hpre⟩ := hP
  obtain ⟨-, -, -, hnamed, -, -, -, hat⟩ := (Spec.applies_iff hf).mp happ
  obtain ⟨hg, hn⟩ := and_e (Cond.before_iff.mp (show (Jvm.Cond.and given_1 narrow_1).before args s = true from hpre))
  obtain ⟨g1, g2⟩ := and_e hg
  obtain ⟨g3, g4⟩ := and_e g2
  obtain ⟨g5, g6⟩ := and_e g4
  obtain ⟨g7, g8⟩ := and_e g6
  obtain ⟨w0, w1, w2, w3, rfl⟩ : ∃ w0 w1 w2 w3 : Value, args = #[w0, w1, w2, w3] := by
    have hs : args.size = 4 := by simpa [Cond.value, given_1] using g1
    obtain ⟨L⟩ := args
    match L, hs with
    | [w0, w1, w2, w3], _ => exact ⟨w0, w1, w2, w3, rfl⟩
  have hw := fun d (hd : d ∈ tables_1) => atoms_spec (ws := Jvm.Cond.code x code maxLocals ret :: tables_1) hat d (List.mem_cons_of_mem _ hd)
  have hfit : Fit s := fun {y c} hc i hi => by
    obtain ⟨ha, rfl⟩ := Array.getElem?_eq_some_iff.mp hc
    have q := List.all_eq_true.mp ((Array.all_eq_true_iff_forall_mem.mp hF) _ (Array.getElem_mem ha)) i (List.mem_range.mpr hi)
    simpa [Array.getElem?_eq_getElem hi] using q
  obtain ⟨hsets, hown0⟩ := atoms_of _ (rest_1_c_eq ▸ (show rest_1_c.before _ s = true from hrest))
  obtain ⟨i0, ei0⟩ := is_v g3
  obtain rfl : w0 = (.int i0) := Option.some.inj ei0
  obtain ⟨i1, ei1⟩ := is_v g5
  obtain rfl : w1 = (.int i1) := Option.some.inj ei1
  obtain ⟨i2, ei2⟩ := is_v g7
  obtain rfl : w2 = (.int i2) := Option.some.inj ei2
  obtain ⟨i3, ei3⟩ := isL_v g8
  obtain rfl : w3 = (.long i3) := Option.some.inj ei3
  obtain ⟨em, eem⟩ := exa_v (Cond.before_iff.mp (hsets _ (List.mem_of_getElem? (i := 2) rfl)))
  have S0 := Sta.start eem (Or.inl (hsets _ (List.mem_of_getElem? (i := 1) rfl)))
  have E0 := Exa.start eem (Cond.before_iff.mp (hsets _ (List.mem_of_getElem? (i := 2) rfl)))
  have F0 := Fld.start ((fld_at eem).symm.trans (null_v (Cond.before_iff.mp (hsets _ (List.mem_of_getElem? (i := 3) rfl)))))
  have rC := own_rng i0
  have rK := own_rng i1
  have rI := own_i (vC := (1 : Int32) + ((i0 &&& (2147483647 : Int32)) % (2147483647 : Int32))) i2 rC.1
  have lC := own_lt1 rC.1
  have lK := own_lt1 rK.1
  obtain ⟨n, o, h1, h2, h3, _, L, rfl, ⟨rfl, N⟩, hq⟩ := rm0 l s _ hw tables_1 i0 i1 i2 i3 em _ _ _ _ s.heap s.heap.size (Nat.le_refl _) S0 E0 F0 rfl rfl rfl rfl lC.2.1 lC.2.2 lC.1 lK.1 (own_s i3) (own_fin _ _ _ rC.1 rK.1 rI.1 rI.2) p e ha hc hk s m _ below hf ((Spec.applies_iff_loose hf).mp happ).1 ⟨rfl, State.Warmed39.refl s, rfl⟩ trivial
  refine ⟨n, _, h1, h2, h3, hpost _ _ _ _ _ _ ⟨Cond.after_iff.mpr rfl, Cond.after_iff.mpr (eq_i res_at (Term.int_eval (1)) rfl), trivial⟩ ⟨hq.1, hq.2.1, hq.2.2.1, (hq.2.2.2.sift fun y hy => Or.inr (N y hy)).mono (by decide) (by decide)⟩⟩
theorem main_1_1 : Claimed_1_1 := comes_1 fun _ _ _ _ _ _ h hF => ⟨h.1, hF⟩
theorem main_1_2 : Claimed_1_2 := comes_1 fun _ _ _ _ _ _ h hF => ⟨h.2.1, hF⟩
end Jvm.Pilot.@@N@@
namespace Jvm.Pilot.@@N@@
open Jvm Jvm.ClassFile Sem Op Lib Jvm.Free Jvm.Stand Jvm.Pilot.@@N@@.Jvm.D
/-! MADE BY PROGRAM (witnessworld.py) out of the Statement's table words and the real class files: 16 classes; the members and pool entries that the words name. The judged class is class 1, her method 1. -/
namespace start1
open Jvm.ClassFile
def u (s : String) : CpInfo := .utf8 (stringToUtf16 s)
/-- a pool by its gaps: so many unusable entries, then the entry; so many at the end -/
def gap : Nat → List CpInfo → List CpInfo
  | 0, r => r
  | n + 1, r => .unusable :: gap n r
def poolList (es : List (Nat × CpInfo)) (last : Nat) : List CpInfo := es.foldr (fun e r => gap e.1 (e.2 :: r)) (gap last [])
def pool (es : List (Nat × CpInfo)) (last : Nat) : Array CpInfo := ⟨poolList es last⟩
def fileOf (pool : Array CpInfo) (this : Nat) (attrs : Array Attribute := #[]) (ms : Array MethodInfo := #[]) (fl : Nat := 33) (sup : Nat := 0) (ifs : Array Nat := #[]) (fds : Array FieldInfo := #[]) : ClassFile where
  minorVersion := 0
  majorVersion := 65
  constantPool := pool
  accessFlags := fl
  thisClass := this
  superClass := sup
  interfaces := ifs
  fields := fds
  methods := ms
  attributes := attrs
def plain (name : String) (sup : Option ClassId) : Class where
  name := name
  kind := .ordinary
  loader := none
  accessFlags := 33
  super := sup
  interfaces := #[]
  cf := none
  fields := #[]
  methods := #[]
  instanceTypes := #[]
  staticTypes := #[]
  resolved := #[]
  callSites := []
  init := .initialized
  statics := none
  mirror := none

def pool0 : Array CpInfo := pool [(5, u "<init>"), (0, u "()V"), (1, .class_ 10), (1, u "java/lang/Object")] 113

def k0c0 : Code := { maxStack := 0, maxLocals := 1, code := object_method_1_code, exceptionTable := #[], attributes := #[] }
def k0m0 : Method := { name := "<init>", desc := "()V", sig := { parameters := [], returnType := none }, accessFlags := 1, code := some k0c0 }
/-- java/lang/Object -/
def k0 : Class := { plain "java/lang/Object" none with
  accessFlags := 33
  interfaces := #[]
  cf := some (fileOf pool0 8 #[] #[{ accessFlags := 1, nameIndex := 5, descriptorIndex := 6, attributes := #[] }] 33 0 #[] #[])
  fields := #[]
  methods := #[k0m0]
  instanceTypes := #[]
  staticTypes := #[]
  resolved := Array.replicate 124 none
  statics := none }

def pool1 : Array CpInfo := pool [(2, .class_ 4), (1, u "java/lang/Object"), (0, u "<init>"), (0, u "()V"), (0, .integer 2147483647), (0, .long 4294967295), (1, .methodref 11 12), (0, .class_ 13), (0, .nameAndType 14 15), (0, u "java/util/Optional"), (0, u "empty"), (0, u "()Ljava/util/Optional;"), (0, .class_ 17), (0, u "com/example/fast_rating/fastrating/load/LoadProfile"), (0, .methodref 16 19), (0, .nameAndType 5 20), (0, u "(IIJLjava/util/Optional;)V"), (0, .methodref 16 22), (0, .nameAndType 23 24), (0, u "slots"), (0, u "(I)I"), (0, .class_ 26), (0, u "com/example/fast_rating/fastrating/load/LoadProfileSlotsPinLaw"), (2, u "law"), (0, u "(IIIJ)Z")] 3

def k1m0 : Method := { name := "<init>", desc := "()V", sig := { parameters := [], returnType := none }, accessFlags := 1, code := none }
def k1c1 : Code := { maxStack := 7, maxLocals := 14, code := code, exceptionTable := #[], attributes := #[] }
def k1m1 : Method := { name := "law", desc := "(IIIJ)Z", sig := { parameters := [.int, .int, .int, .long], returnType := some .boolean }, accessFlags := 9, code := some k1c1 }
/-- com/example/fast_rating/fastrating/load/LoadProfileSlotsPinLaw -/
def k1 : Class := { plain "com/example/fast_rating/fastrating/load/LoadProfileSlotsPinLaw" (some 0) with
  accessFlags := 49
  interfaces := #[]
  cf := some (fileOf pool1 25 #[] #[{ accessFlags := 1, nameIndex := 5, descriptorIndex := 6, attributes := #[] }, { accessFlags := 9, nameIndex := 29, descriptorIndex := 30, attributes := #[] }] 49 2 #[] #[])
  fields := #[]
  methods := #[k1m0, k1m1]
  instanceTypes := #[]
  staticTypes := #[]
  resolved := Array.replicate 34 none
  statics := none }

def pool2 : Array CpInfo := pool [(1, .fieldref 2 3), (0, .class_ 4), (0, .nameAndType 5 6), (0, u "java/util/Optional"), (0, u "EMPTY"), (0, u "Ljava/util/Optional;"), (1, .class_ 10), (1, u "java/lang/Object"), (2, .fieldref 2 14), (0, .nameAndType 15 16), (0, u "value"), (0, u "Ljava/lang/Object;"), (29, u "()Z"), (8, u "empty"), (0, u "()Ljava/util/Optional;"), (11, u "isPresent")] 118

def k2c0 : Code := { maxStack := 1, maxLocals := 1, code := jdk_32_method_1_code, exceptionTable := #[], attributes := #[] }
def k2m0 : Method := { name := "empty", desc := "()Ljava/util/Optional;", sig := { parameters := [], returnType := some (.object "java/util/Optional") }, accessFlags := 9, code := some k2c0 }
def k2c1 : Code := { maxStack := 1, maxLocals := 1, code := jdk_32_method_6_code, exceptionTable := #[], attributes := #[] }
def k2m1 : Method := { name := "isPresent", desc := "()Z", sig := { parameters := [], returnType := some .boolean }, accessFlags := 1, code := some k2c1 }
/-- java/util/Optional -/
def k2 : Class := { plain "java/util/Optional" (some 0) with
  accessFlags := 49
  interfaces := #[]
  cf := some (fileOf pool2 2 #[] #[{ accessFlags := 9, nameIndex := 55, descriptorIndex := 56, attributes := #[] }, { accessFlags := 1, nameIndex := 68, descriptorIndex := 46, attributes := #[] }] 49 8 #[] #[{ accessFlags := 26, nameIndex := 5, descriptorIndex := 6, attributes := #[] }, { accessFlags := 18, nameIndex := 15, descriptorIndex := 16, attributes := #[] }])
  fields := #[{ name := "EMPTY", type := (.object "java/util/Optional"), accessFlags := 26, slot := 0, constantValue := 0 }, { name := "value", type := (.object "java/lang/Object"), accessFlags := 18, slot := 0, constantValue := 0 }]
  methods := #[k2m0, k2m1]
  instanceTypes := #[(.object "java/lang/Object")]
  staticTypes := #[(.object "java/util/Optional")]
  resolved := Array.replicate 187 none
  statics := some 0 }

def pool3 : Array CpInfo := pool [(1, .methodref 2 3), (0, .class_ 4), (0, .nameAndType 5 6), (0, u "java/lang/Object"), (0, u "<init>"), (0, u "()V"), (0, .fieldref 8 9), (0, .class_ 10), (0, .nameAndType 11 12), (0, u "com/example/fast_rating/fastrating/load/LoadProfile"), (0, u "connections"), (0, u "I"), (0, .fieldref 8 14), (0, .nameAndType 15 12), (0, u "concurrency"), (0, .fieldref 8 17), (0, .nameAndType 18 19), (0, u "sessions"), (0, u "J"), (0, .string 21), (0, u "duration"), (0, .methodref 23 24), (0, .class_ 25), (0, .nameAndType 26 27), (0, u "java/util/Objects"), (0, u "requireNonNull"), (0, u "(Ljava/lang/Object;Ljava/lang/String;)Ljava/lang/Object;"), (0, .class_ 29), (0, u "java/util/Optional"), (0, .fieldref 8 31), (0, .nameAndType 21 32), (0, u "Ljava/util/Optional;"), (7, .methodref 28 41), (0, .nameAndType 42 43), (0, u "isPresent"), (0, u "()Z"), (24, u "(IIJLjava/util/Optional;)V"), (8, u "slots"), (0, u "(I)I")] 17

def k3c0 : Code := { maxStack := 4, maxLocals := 6, code := prog_41_method_1_code, exceptionTable := #[], attributes := #[] }
def k3m0 : Method := { name := "<init>", desc := "(IIJLjava/util/Optional;)V", sig := { parameters := [.int, .int, .long, (.object "java/util/Optional")], returnType := none }, accessFlags := 1, code := some k3c0 }
def k3c1 : Code := { maxStack := 3, maxLocals := 4, code := prog_41_method_5_code, exceptionTable := #[], attributes := #[] }
def k3m1 : Method := { name := "slots", desc := "(I)I", sig := { parameters := [.int], returnType := some .int }, accessFlags := 0, code := some k3c1 }
/-- com/example/fast_rating/fastrating/load/LoadProfile -/
def k3 : Class := { plain "com/example/fast_rating/fastrating/load/LoadProfile" (some 0) with
  accessFlags := 33
  interfaces := #[]
  cf := some (fileOf pool3 8 #[] #[{ accessFlags := 1, nameIndex := 5, descriptorIndex := 68, attributes := #[] }, { accessFlags := 0, nameIndex := 77, descriptorIndex := 78, attributes := #[] }] 33 2 #[] #[{ accessFlags := 18, nameIndex := 11, descriptorIndex := 12, attributes := #[] }, { accessFlags := 18, nameIndex := 15, descriptorIndex := 12, attributes := #[] }, { accessFlags := 18, nameIndex := 18, descriptorIndex := 19, attributes := #[] }, { accessFlags := 18, nameIndex := 21, descriptorIndex := 32, attributes := #[] }])
  fields := #[{ name := "connections", type := .int, accessFlags := 18, slot := 0, constantValue := 0 }, { name := "concurrency", type := .int, accessFlags := 18, slot := 1, constantValue := 0 }, { name := "sessions", type := .long, accessFlags := 18, slot := 2, constantValue := 0 }, { name := "duration", type := (.object "java/util/Optional"), accessFlags := 18, slot := 3, constantValue := 0 }]
  methods := #[k3m0, k3m1]
  instanceTypes := #[.int, .int, .long, (.object "java/util/Optional")]
  staticTypes := #[]
  resolved := Array.replicate 96 none
  statics := none }

def pool4 : Array CpInfo := pool [(1, .class_ 2), (0, u "java/io/Serializable"), (0, .class_ 4), (0, u "java/lang/Object")] 2

/-- java/io/Serializable -/
def k4 : Class := { plain "java/io/Serializable" (some 0) with
  accessFlags := 1537
  interfaces := #[]
  cf := some (fileOf pool4 1 #[] #[] 1537 3 #[] #[])
  fields := #[]
  methods := #[]
  instanceTypes := #[]
  staticTypes := #[]
  resolved := Array.replicate 7 none
  statics := none }

def pool5 : Array CpInfo := pool [(1, .class_ 2), (0, u "java/lang/Comparable"), (0, .class_ 4), (0, u "java/lang/Object")] 7

/-- java/lang/Comparable -/
def k5 : Class := { plain "java/lang/Comparable" (some 0) with
  accessFlags := 1537
  interfaces := #[]
  cf := some (fileOf pool5 1 #[] #[] 1537 3 #[] #[])
  fields := #[]
  methods := #[]
  instanceTypes := #[]
  staticTypes := #[]
  resolved := Array.replicate 12 none
  statics := none }

def pool6 : Array CpInfo := pool [(2, .class_ 4), (1, u "java/lang/CharSequence"), (42, .class_ 48), (0, u "java/lang/CharSequence$1CodePointIterator"), (10, .class_ 60), (0, u "java/lang/CharSequence$1CharIterator"), (5, .class_ 67), (0, u "java/lang/Object")] 63

/-- java/lang/CharSequence -/
def k6 : Class := { plain "java/lang/CharSequence" (some 0) with
  accessFlags := 1537
  interfaces := #[]
  cf := some (fileOf pool6 2 #[.nestMembers #[47, 59]] #[] 1537 66 #[] #[])
  fields := #[]
  methods := #[]
  instanceTypes := #[]
  staticTypes := #[]
  resolved := Array.replicate 131 none
  statics := none }

def pool7 : Array CpInfo := pool [(1, .class_ 2), (0, u "java/lang/constant/Constable"), (0, .class_ 4), (0, u "java/lang/Object")] 6

/-- java/lang/constant/Constable -/
def k7 : Class := { plain "java/lang/constant/Constable" (some 0) with
  accessFlags := 1537
  interfaces := #[]
  cf := some (fileOf pool7 1 #[] #[] 1537 3 #[] #[])
  fields := #[]
  methods := #[]
  instanceTypes := #[]
  staticTypes := #[]
  resolved := Array.replicate 11 none
  statics := none }

def pool8 : Array CpInfo := pool [(1, .class_ 2), (0, u "java/lang/constant/ConstantDesc"), (0, .class_ 4), (0, u "java/lang/Object")] 32

/-- java/lang/constant/ConstantDesc -/
def k8 : Class := { plain "java/lang/constant/ConstantDesc" (some 0) with
  accessFlags := 1537
  interfaces := #[]
  cf := some (fileOf pool8 1 #[] #[] 1537 3 #[] #[])
  fields := #[]
  methods := #[]
  instanceTypes := #[]
  staticTypes := #[]
  resolved := Array.replicate 37 none
  statics := none }

def pool9 : Array CpInfo := pool [(2, .class_ 4), (1, u "java/lang/Object"), (0, u "<init>"), (0, u "()V"), (3, .class_ 12), (1, u "java/lang/String"), (0, u "value"), (0, u "[B"), (2, u "coder"), (0, u "B"), (2, u "hash"), (0, u "I"), (2, u "hashIsZero"), (0, u "Z"), (13, u "COMPACT_STRINGS"), (534, .class_ 576), (0, u "java/lang/CharSequence"), (22, u "CASE_INSENSITIVE_ORDER"), (0, u "Ljava/util/Comparator;"), (500, u "serialPersistentFields"), (0, u "[Ljava/io/ObjectStreamField;"), (0, .class_ 1104), (0, u "java/lang/String$CaseInsensitiveComparator"), (1, .class_ 1107), (0, u "java/io/Serializable"), (0, .class_ 1109), (0, u "java/lang/Comparable"), (0, .class_ 1111), (0, u "java/lang/constant/Constable"), (0, .class_ 1113), (0, u "java/lang/constant/ConstantDesc"), (2, u "serialVersionUID"), (0, u "J"), (3, u "REPL"), (0, u "C"), (2, u "LATIN1"), (1, u "UTF16")] 323

def k9m0 : Method := { name := "<init>", desc := "()V", sig := { parameters := [], returnType := none }, accessFlags := 1, code := none }
/-- java/lang/String -/
def k9 : Class := { plain "java/lang/String" (some 0) with
  accessFlags := 49
  interfaces := #[4, 5, 6, 7, 8]
  cf := some (fileOf pool9 10 #[.nestMembers #[1103]] #[{ accessFlags := 1, nameIndex := 5, descriptorIndex := 6, attributes := #[] }] 49 2 #[1106, 1108, 575, 1110, 1112] #[{ accessFlags := 18, nameIndex := 13, descriptorIndex := 14, attributes := #[] }, { accessFlags := 18, nameIndex := 17, descriptorIndex := 18, attributes := #[] }, { accessFlags := 2, nameIndex := 21, descriptorIndex := 22, attributes := #[] }, { accessFlags := 2, nameIndex := 25, descriptorIndex := 26, attributes := #[] }, { accessFlags := 26, nameIndex := 1116, descriptorIndex := 1117, attributes := #[] }, { accessFlags := 24, nameIndex := 40, descriptorIndex := 26, attributes := #[] }, { accessFlags := 26, nameIndex := 1101, descriptorIndex := 1102, attributes := #[] }, { accessFlags := 26, nameIndex := 1121, descriptorIndex := 1122, attributes := #[] }, { accessFlags := 25, nameIndex := 599, descriptorIndex := 600, attributes := #[] }, { accessFlags := 24, nameIndex := 1125, descriptorIndex := 18, attributes := #[] }, { accessFlags := 24, nameIndex := 1127, descriptorIndex := 18, attributes := #[] }])
  fields := #[{ name := "value", type := (.array .byte), accessFlags := 18, slot := 0, constantValue := 0 }, { name := "coder", type := .byte, accessFlags := 18, slot := 1, constantValue := 0 }, { name := "hash", type := .int, accessFlags := 2, slot := 2, constantValue := 0 }, { name := "hashIsZero", type := .boolean, accessFlags := 2, slot := 3, constantValue := 0 }, { name := "serialVersionUID", type := .long, accessFlags := 26, slot := 0, constantValue := 0 }, { name := "COMPACT_STRINGS", type := .boolean, accessFlags := 24, slot := 1, constantValue := 0 }, { name := "serialPersistentFields", type := (.array (.object "java/io/ObjectStreamField")), accessFlags := 26, slot := 2, constantValue := 0 }, { name := "REPL", type := .char, accessFlags := 26, slot := 3, constantValue := 0 }, { name := "CASE_INSENSITIVE_ORDER", type := (.object "java/util/Comparator"), accessFlags := 25, slot := 4, constantValue := 0 }, { name := "LATIN1", type := .byte, accessFlags := 24, slot := 5, constantValue := 0 }, { name := "UTF16", type := .byte, accessFlags := 24, slot := 6, constantValue := 0 }]
  methods := #[k9m0]
  instanceTypes := #[(.array .byte), .byte, .int, .boolean]
  staticTypes := #[.long, .boolean, (.array (.object "java/io/ObjectStreamField")), .char, (.object "java/util/Comparator"), .byte, .byte]
  resolved := Array.replicate 1451 none
  statics := none }

def pool10 : Array CpInfo := pool [(2, .class_ 4), (1, u "java/lang/Object"), (0, u "<init>"), (0, u "()V"), (35, .class_ 44), (1, u "java/util/Objects"), (0, u "requireNonNull"), (48, u "(Ljava/lang/Object;Ljava/lang/String;)Ljava/lang/Object;")] 89

def k10m0 : Method := { name := "<init>", desc := "()V", sig := { parameters := [], returnType := none }, accessFlags := 2, code := none }
def k10c1 : Code := { maxStack := 3, maxLocals := 2, code := jdk_31_method_11_code, exceptionTable := #[], attributes := #[] }
def k10m1 : Method := { name := "requireNonNull", desc := "(Ljava/lang/Object;Ljava/lang/String;)Ljava/lang/Object;", sig := { parameters := [(.object "java/lang/Object"), (.object "java/lang/String")], returnType := some (.object "java/lang/Object") }, accessFlags := 9, code := some k10c1 }
/-- java/util/Objects -/
def k10 : Class := { plain "java/util/Objects" (some 0) with
  accessFlags := 49
  interfaces := #[]
  cf := some (fileOf pool10 42 #[] #[{ accessFlags := 2, nameIndex := 5, descriptorIndex := 6, attributes := #[] }, { accessFlags := 9, nameIndex := 45, descriptorIndex := 94, attributes := #[] }] 49 2 #[] #[])
  fields := #[]
  methods := #[k10m0, k10m1]
  instanceTypes := #[]
  staticTypes := #[]
  resolved := Array.replicate 184 none
  statics := none }

def pool11 : Array CpInfo := pool [(1, u "java/lang/Cloneable"), (0, .class_ 1), (0, u "java/lang/Object"), (0, .class_ 3)] 3

/-- java/lang/Cloneable -/
def k11 : Class := { plain "java/lang/Cloneable" (some 0) with
  accessFlags := 1537
  interfaces := #[]
  cf := some (fileOf pool11 2 #[] #[] 1537 4 #[] #[])
  fields := #[]
  methods := #[]
  instanceTypes := #[]
  staticTypes := #[]
  resolved := Array.replicate 8 none
  statics := none }

/-- the primitive byte -/
def k12 : Class := { plain "byte" none with kind := .primitive 'B', accessFlags := 0x411 }
/-- [B -/
def k13 : Class := { plain "[B" (some 0) with kind := .array 12 .byte, interfaces := #[11, 4], accessFlags := 1041 }

/-- the primitive int -/
def k14 : Class := { plain "int" none with kind := .primitive 'I', accessFlags := 0x411 }
/-- [I -/
def k15 : Class := { plain "[I" (some 0) with kind := .array 14 .int, interfaces := #[11, 4], accessFlags := 1041 }

def heap : Heap := #[{ cls := 2, slots := #[.ref 1], vm := .statics 2 },
  { cls := 2, slots := #[.null], vm := .none }]
def classes : Array Class := #[k0, k1, k2, k3, k4, k5, k6, k7, k8, k9, k10, k11, k12, k13, k14, k15]
def interned : List (Array UInt16 × Addr) := []
def slotsUsed : Nat := 2
def theMethod : MethodId := ⟨1, 1⟩
def args0 : Array Value := #[.int 5, .int 6, .int 7, .long 8]
def aboutOver (below : List Frame) : State where
  vm := { classes := classes, interned := interned.toArray }
  heap := heap
  slotsUsed := slotsUsed
  threads := #[{ frames := .invoking theMethod args0 :: below }]
def below0 : List Frame := [.native { method := ⟨0, 0⟩, args := #[] }]
def about1 : State := aboutOver below0
def p0 : Program := .bare "" "" ""
def e0 : Env := launch0.env 0 0 0
theorem w_frames : about1.frames = Frame.invoking theMethod args0 :: below0 := rfl
set_option maxRecDepth 65536 in
theorem w_args : argsFit about1.vm theMethod args0 = true := by decide +kernel
set_option maxRecDepth 65536 in
theorem w_heap : heapFits about1 = true := by decide +kernel
set_option maxRecDepth 65536 in
theorem w_runnable : about1.curStatus? = some .runnable := by decide +kernel
set_option maxRecDepth 65536 in
theorem w_alone : about1.alone = true := by decide +kernel
set_option maxRecDepth 65536 in
theorem w_named : about1.methodNamed? x = some theMethod := by decide +kernel
set_option maxRecDepth 65536 in
theorem w_hears : about1.hears theMethod below0 = true := by decide +kernel
set_option maxRecDepth 65536 in
theorem w_ripe : about1.ripe theMethod args0 below0 = true := by decide +kernel
theorem w_running : about1.status = .running := rfl
set_option maxRecDepth 65536 in
theorem w_room : about1.hasRoom e0.platform room_1 = true :=
  launch0.hasRoom_least _ room_1 (by decide +kernel) (by decide +kernel) (by decide +kernel) (by decide +kernel) (by decide +kernel) (by decide +kernel)
theorem allAtoms_all (ts : List Jvm.Cond) (a : Array Jvm.Value) (st : Jvm.State) : (allAtoms ts).before a st = ts.all (fun c => c.before a st) := by
  induction ts with
  | nil => rfl
  | cons c t ih =>
    show (Jvm.Cond.and c (allAtoms t)).before a st = _
    rw [Jvm.Cond.before_and, ih, List.all_cons]
def words1 : List Jvm.Cond := Jvm.Cond.code x code maxLocals ret :: tables_1
/-- a 'code' word, met by the world's own term for the bytes: nothing is compared byte by byte -/
theorem code_word {y : MethodName} {bytes : ByteArray} {mx : Nat} {rt : Option FieldType} {a : Array Value} {s : State} {m : MethodId} {meth : Method} {c : Code} (h1 : s.methodNamed? y = some m) (h2 : s.vm.method? m = some meth) (h3 : meth.code = some c) (h4 : c.code = bytes)
    (h5 : (c.maxLocals == mx && c.exceptionTable.isEmpty && decide (c.maxStack ≤ mostOperands) && decide (meth.sig.returnType = rt) && !meth.locks && decide (parseMethodDescriptor y.desc = some meth.sig)) = true) : (Jvm.Cond.code y bytes mx rt).before a s = true := by
  simp only [Bool.and_eq_true, beq_iff_eq, Bool.not_eq_true', decide_eq_true_eq] at h5
  obtain ⟨⟨⟨⟨⟨g1, g2⟩, g3⟩, g4⟩, g5⟩, g6⟩ := h5
  simp [Cond.before, Cond.holds, Cond.value, h1, h2, h3, h4, g1, g2, g3, g4, g5, g6]
def isCode : Jvm.Cond → Bool
  | .code _ _ _ _ => true
  | _ => false
theorem all_split {L : List Jvm.Cond} {P : Jvm.Cond → Bool} (h1 : L.all (fun c => isCode c || P c) = true) (h2 : ∀ c ∈ L.filter isCode, P c = true) : L.all P = true := by
  refine List.all_eq_true.mpr fun c hc => ?_
  have h := List.all_eq_true.mp h1 c hc
  rcases Bool.eq_false_or_eq_true (isCode c) with hi | hi
  · exact h2 c (List.mem_filter.mpr ⟨hc, hi⟩)
  · simpa [hi] using h
set_option maxRecDepth 65536 in
theorem w_c0 : (Jvm.Cond.code x code maxLocals ret).before args0 about1 = true := code_word (m := ⟨1, 1⟩) (meth := k1m1) (c := k1c1) (by decide +kernel) rfl rfl rfl (by decide +kernel)
set_option maxRecDepth 65536 in
theorem w_c1 : (Jvm.Cond.code ({ cls := "java/util/Optional", name := "empty", desc := "()Ljava/util/Optional;" } : Jvm.MethodName) jdk_32_method_1_code (1 : Nat) (Option.some (Jvm.ClassFile.FieldType.object "java/util/Optional"))).before args0 about1 = true := code_word (m := ⟨2, 0⟩) (meth := k2m0) (c := k2c0) (by decide +kernel) rfl rfl rfl (by decide +kernel)
set_option maxRecDepth 65536 in
theorem w_c2 : (Jvm.Cond.code ({ cls := "com/example/fast_rating/fastrating/load/LoadProfile", name := "<init>", desc := "(IIJLjava/util/Optional;)V" } : Jvm.MethodName) prog_41_method_1_code (6 : Nat) (Option.none : Option Jvm.ClassFile.FieldType)).before args0 about1 = true := code_word (m := ⟨3, 0⟩) (meth := k3m0) (c := k3c0) (by decide +kernel) rfl rfl rfl (by decide +kernel)
set_option maxRecDepth 65536 in
theorem w_c3 : (Jvm.Cond.code ({ cls := "java/lang/Object", name := "<init>", desc := "()V" } : Jvm.MethodName) object_method_1_code (1 : Nat) (Option.none : Option Jvm.ClassFile.FieldType)).before args0 about1 = true := code_word (m := ⟨0, 0⟩) (meth := k0m0) (c := k0c0) (by decide +kernel) rfl rfl rfl (by decide +kernel)
set_option maxRecDepth 65536 in
theorem w_c4 : (Jvm.Cond.code ({ cls := "java/util/Objects", name := "requireNonNull", desc := "(Ljava/lang/Object;Ljava/lang/String;)Ljava/lang/Object;" } : Jvm.MethodName) jdk_31_method_11_code (2 : Nat) (Option.some (Jvm.ClassFile.FieldType.object "java/lang/Object"))).before args0 about1 = true := code_word (m := ⟨10, 1⟩) (meth := k10m1) (c := k10c1) (by decide +kernel) rfl rfl rfl (by decide +kernel)
set_option maxRecDepth 65536 in
theorem w_c5 : (Jvm.Cond.code ({ cls := "java/util/Optional", name := "isPresent", desc := "()Z" } : Jvm.MethodName) jdk_32_method_6_code (1 : Nat) (Option.some Jvm.ClassFile.FieldType.boolean)).before args0 about1 = true := code_word (m := ⟨2, 1⟩) (meth := k2m1) (c := k2c1) (by decide +kernel) rfl rfl rfl (by decide +kernel)
set_option maxRecDepth 65536 in
theorem w_c6 : (Jvm.Cond.code ({ cls := "com/example/fast_rating/fastrating/load/LoadProfile", name := "slots", desc := "(I)I" } : Jvm.MethodName) prog_41_method_5_code (4 : Nat) (Option.some Jvm.ClassFile.FieldType.int)).before args0 about1 = true := code_word (m := ⟨3, 1⟩) (meth := k3m1) (c := k3c1) (by decide +kernel) rfl rfl rfl (by decide +kernel)
def codes1 : List Jvm.Cond := [Jvm.Cond.code x code maxLocals ret, Jvm.Cond.code ({ cls := "java/util/Optional", name := "empty", desc := "()Ljava/util/Optional;" } : Jvm.MethodName) jdk_32_method_1_code (1 : Nat) (Option.some (Jvm.ClassFile.FieldType.object "java/util/Optional")), Jvm.Cond.code ({ cls := "com/example/fast_rating/fastrating/load/LoadProfile", name := "<init>", desc := "(IIJLjava/util/Optional;)V" } : Jvm.MethodName) prog_41_method_1_code (6 : Nat) (Option.none : Option Jvm.ClassFile.FieldType), Jvm.Cond.code ({ cls := "java/lang/Object", name := "<init>", desc := "()V" } : Jvm.MethodName) object_method_1_code (1 : Nat) (Option.none : Option Jvm.ClassFile.FieldType), Jvm.Cond.code ({ cls := "java/util/Objects", name := "requireNonNull", desc := "(Ljava/lang/Object;Ljava/lang/String;)Ljava/lang/Object;" } : Jvm.MethodName) jdk_31_method_11_code (2 : Nat) (Option.some (Jvm.ClassFile.FieldType.object "java/lang/Object")), Jvm.Cond.code ({ cls := "java/util/Optional", name := "isPresent", desc := "()Z" } : Jvm.MethodName) jdk_32_method_6_code (1 : Nat) (Option.some Jvm.ClassFile.FieldType.boolean), Jvm.Cond.code ({ cls := "com/example/fast_rating/fastrating/load/LoadProfile", name := "slots", desc := "(I)I" } : Jvm.MethodName) prog_41_method_5_code (4 : Nat) (Option.some Jvm.ClassFile.FieldType.int)]
set_option maxRecDepth 65536 in
theorem codes_eq : words1.filter isCode = codes1 := rfl
theorem w_codes : ∀ c ∈ words1.filter isCode, c.before args0 about1 = true := by
  rw [codes_eq]
  intro c hc
  simp only [codes1, List.mem_cons, List.not_mem_nil, or_false] at hc
  rcases hc with rfl | rfl | rfl | rfl | rfl | rfl | rfl
  · exact w_c0
  · exact w_c1
  · exact w_c2
  · exact w_c3
  · exact w_c4
  · exact w_c5
  · exact w_c6
set_option maxRecDepth 65536 in
theorem w_t1 : (words1.take 24).all (fun c => isCode c || c.before args0 about1) = true := by decide +kernel
set_option maxRecDepth 65536 in
theorem w_t2 : ((words1.drop 24).take 24).all (fun c => isCode c || c.before args0 about1) = true := by decide +kernel
set_option maxRecDepth 65536 in
theorem w_t3 : ((words1.drop 24).drop 24).all (fun c => isCode c || c.before args0 about1) = true := by decide +kernel
theorem w_tables : (allAtoms (Jvm.Cond.code x code maxLocals ret :: tables_1)).before args0 about1 = true := by
  rw [allAtoms_all]
  show words1.all (fun c => c.before args0 about1) = true
  refine all_split ?_ w_codes
  rw [← List.take_append_drop 24 words1, List.all_append, w_t1, ← List.take_append_drop 24 (words1.drop 24), List.all_append, w_t2, w_t3]
  rfl
set_option maxRecDepth 65536 in
theorem w_rest : rest_1_c.before args0 about1 = true := by decide +kernel
set_option maxRecDepth 65536 in
theorem w_case : (Jvm.Cond.and given_1 narrow_1).before args0 about1 = true := by decide +kernel
theorem w_applies : (headSpec (Jvm.Cond.code x code maxLocals ret :: tables_1) room_1).applies x e0.platform about1 = true :=
  (Spec.applies_iff w_frames).mpr ⟨w_running, w_runnable, w_alone, w_named, w_hears, w_ripe, w_room, w_tables⟩
theorem atStart : AtStart classFile x code maxLocals ret World_1 tables_1 room_1 Calls_1 rest_1 Pre_1 launch0 p0 e0 about1 theMethod args0 below0 :=
  ⟨lists_1, trivial, launch0.admits_env _ _ _, launch0.least_env, fairChoices_fair.cas, fairChoices_fair.clock, w_frames, w_args, w_heap, w_applies, trivial, w_rest, w_case⟩
end start1
theorem witness_1 : WitnessClaimed_1 := ⟨start1.p0, start1.e0, start1.about1, start1.theMethod, start1.args0, start1.below0, start1.atStart⟩
end Jvm.Pilot.@@N@@
