import JvmDerived
import JvmDerived.Pilot.@@N@@Statement
import JvmDerived.Pilot.@@N@@Code
set_option linter.unusedVariables false
set_option linter.unusedSimpArgs false
namespace Jvm.RoadKit
open Sem ClassFile Op Lib Jvm.Stand Jvm.Free Jvm.LawKit
section New
variable {p : Program} {l : Launch} {e : Env} {R : Room} {s : State} {m : MethodId} {args : Array Value} {below : List Frame} {meth : Method} {c : Code} {T : State} {locs : List Loc} {cells slots : Nat}
theorem retI (X : Stand p l e R s m args below meth c T locs cells slots) (hx : p.tables.exec = Jvm.exec) {pc : Nat} {Ls : Array Slot} {z : Int32} {rest : List Value} (hret : meth.sig.returnType = some .int) (hd : decode c.code pc = .ok (.ireturn, 1)) {fs : List Frame}
    (hl : ∀ (f : JFrame) (acts : List Action), f.method = m → f.locked = none → f.entered = [] → (doReturn e (T.setTop f) acts (some (.int z))).1 = T.setFrames fs) : Steps p.tables e below (T.setTop (mkF m pc Ls (.int z :: rest))) (T.setFrames fs) := by
  have hm' : T.vm.method? m = some meth := X.method'
  have hn : narrow .int (.int z) = .int z := rfl
  show Steps p.tables e below (T.setTop { method := m, pc := pc, locals := Ls, stack := _ :: rest, locked := none }) _
  jvm_step X.here [X.here.top, hx, hd, hm', hret, hn]
  first | (intro acts; rw [hl _ acts rfl rfl rfl]) | rw [hl _ _ rfl rfl rfl]
  exact Steps.refl _
end New
end Jvm.RoadKit
namespace Jvm.Pilot.@@N@@
open Jvm Jvm.ClassFile Sem Op Lib Jvm.Free Jvm.Stand Jvm.LawKit Jvm.RoadKit Bundle Jvm.Pilot.@@N@@.Jvm.D
abbrev SS (p : Program) (e : Env) (below : List Frame) (T : State) (g : JFrame) (t : State) : Prop := Steps p.tables e below (T.setTop g) t
abbrev vi (x : Int32) : Slot := .val (.int x)
abbrev vl (x : Int64) : Slot := .val (.long x)
abbrev vr (x : Addr) : Slot := .val (.ref x)
abbrev vd (x : UInt64) : Slot := .val (.double x)
abbrev uu : Slot := .unset
abbrev us : Slot := .second
theorem wd {a0 : Array Value} {Z : State} (hw : ∀ d ∈ tables_1, d.before a0 Z = true) (i : Nat) {d : Jvm.Cond} (h : tables_1[i]? = some d) : d.before a0 Z = true := hw _ (List.mem_of_getElem? h)
theorem own_hk {T : State} {h : Heap} {k : Nat} (e : T.heap = h) (q : k ≤ h.size) : k ≤ T.heap.size := e ▸ q
theorem own_at {T : State} {h : Heap} {a : Addr} {c : Cell} (e : T.heap = h) (q : h[a]? = some c) : T.heap[a]? = some c := e ▸ q
def own_sh (k : Int32) (z : Int64) : Int64 := (z.toUInt64 >>> (k &&& 0x3f).toInt64.toUInt64).toInt64
def own_m1 (z : Int64) : Int64 := (z ^^^ own_sh 30 z) * (-4658895280553007687)
def own_m2 (z : Int64) : Int64 := (z ^^^ own_sh 27 z) * (-7723592293110705685)
def own_m3 (z : Int64) : Int64 := z ^^^ own_sh 31 z
def own_u1 (z : Int64) : Int64 := ((z ^^^ own_sh 31 z) ^^^ own_sh 62 z) * (3573116690164977347)
def own_u2 (z : Int64) : Int64 := ((z ^^^ own_sh 27 z) ^^^ own_sh 54 z) * (-7575587736534282103)
def own_u3 (z : Int64) : Int64 := (z ^^^ own_sh 30 z) ^^^ own_sh 60 z
theorem own_bv (k : Nat) (h : 64 ≤ 3 * k) (y : BitVec 64) : ((y ^^^ (y >>> k)) ^^^ ((y ^^^ (y >>> k)) >>> k)) ^^^ ((y ^^^ (y >>> k)) >>> (2 * k)) = y := by
  apply BitVec.eq_of_getLsbD_eq
  intro i hi
  simp only [BitVec.getLsbD_xor, BitVec.getLsbD_ushiftRight]
  have e : k + (k + i) = 2 * k + i := by omega
  have e2 : y.getLsbD (k + (2 * k + i)) = false := BitVec.getLsbD_of_ge _ _ (by omega)
  rw [e, e2]
  cases y.getLsbD i <;> cases y.getLsbD (k + i) <;> cases y.getLsbD (2 * k + i) <;> rfl
theorem own_inv (k : Int32) (k2 : Int32) (n : Nat) (hn : 64 ≤ 3 * n) (h1 : ∀ z, (own_sh k z).toBitVec = z.toBitVec >>> n) (h2 : ∀ z, (own_sh k2 z).toBitVec = z.toBitVec >>> (2 * n)) (y : Int64) :
    ((y ^^^ own_sh k y) ^^^ own_sh k (y ^^^ own_sh k y)) ^^^ own_sh k2 (y ^^^ own_sh k y) = y := by
  apply Int64.toBitVec_inj.mp
  rw [Int64.toBitVec_xor, Int64.toBitVec_xor, h2, h1, Int64.toBitVec_xor, h1]
  exact own_bv n hn y.toBitVec
theorem own_s27 (z : Int64) : (own_sh 27 z).toBitVec = z.toBitVec >>> 27 := rfl
theorem own_s54 (z : Int64) : (own_sh 54 z).toBitVec = z.toBitVec >>> (2 * 27) := rfl
theorem own_s30 (z : Int64) : (own_sh 30 z).toBitVec = z.toBitVec >>> 30 := rfl
theorem own_s60 (z : Int64) : (own_sh 60 z).toBitVec = z.toBitVec >>> (2 * 30) := rfl
theorem own_s31 (z : Int64) : (own_sh 31 z).toBitVec = z.toBitVec >>> 31 := rfl
theorem own_s62 (z : Int64) : (own_sh 62 z).toBitVec = z.toBitVec >>> (2 * 31) := rfl
theorem own_mul (a b x : Int64) (h : a * b = 1) : x * a * b = x := by rw [Int64.mul_assoc, h, Int64.mul_one]
theorem own_un (x : Int64) : own_u3 (own_u2 (own_u1 (own_m3 (own_m2 (own_m1 x))))) = x := by
  have a1 : own_u1 (own_m3 (own_m2 (own_m1 x))) = own_m1 x ^^^ own_sh 27 (own_m1 x) := by
    rw [own_u1, own_m3, own_inv 31 62 31 (by decide) own_s31 own_s62, own_m2]
    exact own_mul _ _ _ (by decide)
  have a2 : own_u2 (own_m1 x ^^^ own_sh 27 (own_m1 x)) = x ^^^ own_sh 30 x := by
    rw [own_u2, own_inv 27 54 27 (by decide) own_s27 own_s54, own_m1]
    exact own_mul _ _ _ (by decide)
  rw [a1, a2, own_u3]
  exact own_inv 30 60 30 (by decide) own_s30 own_s60 x
theorem own_l1 (x : Int64) : lcmpW (own_u3 (own_u2 (own_u1 (own_m3 (own_m2 (own_m1 (x + (-7046029254386353131 : Int64)))))))) (x + (-7046029254386353131 : Int64)) = (0 : Int32) := (lw_eq _ _).mpr (own_un _)
theorem own_l2 (x : Int64) : lcmpW (own_u3 (own_u2 (own_u1 (own_m3 (own_m2 (own_m1 ((x + (-7046029254386353131 : Int64)) + (-7046029254386353131 : Int64)))))))) (x + (2 : Int64) * (-7046029254386353131 : Int64)) = (0 : Int32) :=
  (lw_eq _ _).mpr ((own_un _).trans (by rw [Int64.add_assoc]; exact congrArg (x + ·) (by decide)))
theorem own_l3 (x : Int64) : lcmpW (own_u3 (own_u2 (own_u1 (own_m3 (own_m2 (own_m1 (((x + (-7046029254386353131 : Int64)) + (-7046029254386353131 : Int64)) + (-7046029254386353131 : Int64)))))))) (x + (3 : Int64) * (-7046029254386353131 : Int64)) = (0 : Int32) :=
  (lw_eq _ _).mpr ((own_un _).trans (by rw [Int64.add_assoc, Int64.add_assoc]; exact congrArg (x + ·) (by decide)))
theorem ef_0 (m : MethodId) (x0 : Addr) (x1 : Int64) : entryFrame m #[(.ref x0), (.long x1)] 3 = mkF m 0 #[vr x0, vl x1, us] [] := by first | (simp [entryFrame, mkF, argsToLocals, Value.category]; done) | rfl
theorem pn_0 : plainName "org/quarrel/model/SeededDice" = true := by first | (simp [plainName, overriddenIn]; done) | decide +kernel
theorem d1_0 : decode prog_34_method_1_code 0 = .ok (.aload_n 0, 1) := by decide +kernel
theorem d1_1 : decode prog_34_method_1_code 1 = .ok (.invokespecial 3, 3) := by decide +kernel
theorem d1_4 : decode prog_34_method_1_code 4 = .ok (.aload_n 0, 1) := by decide +kernel
theorem d1_5 : decode prog_34_method_1_code 5 = .ok (.lload_n 1, 1) := by decide +kernel
theorem d1_6 : decode prog_34_method_1_code 6 = .ok (.putfield 9, 3) := by decide +kernel
theorem d1_9 : decode prog_34_method_1_code 9 = .ok (.return_, 1) := by decide +kernel
def Q_rmI (Z : State) (r0 : Addr) (q1 : Int64) (h0 : Heap) (n0 : Nat) (v : Option Value) (h : Heap) (L : List Loc) : Prop := (v = none ∧ Fr n0 L ∧ Keep h0 h [r0] ∧ Exa Z h r0 "org/quarrel/model/SeededDice" ∧ Fld Z h r0 "org/quarrel/model/SeededDice" "state" "J" (.long q1))
set_option maxRecDepth 65536 in
set_option maxHeartbeats 40000000 in
theorem rmI (l : Launch) (Z : State) (a0 : Array Value) (hw : ∀ d ∈ tables_1, d.before a0 Z = true) (ws : List Jvm.Cond) (r0 : Addr) (q1 : Int64) (h0 : Heap) (n0 : Nat) (Z0 : n0 ≤ h0.size) (E : Exa Z h0 r0 "org/quarrel/model/SeededDice") (F : Fld Z h0 r0 "org/quarrel/model/SeededDice" "state" "J" (.long (0 : Int64))) (g : n0 ≤ r0) :
    MetFree l (⟨"org/quarrel/model/SeededDice", "<init>", "(J)V"⟩ : MethodName) (head1 (Jvm.Cond.code (⟨"org/quarrel/model/SeededDice", "<init>", "(J)V"⟩ : MethodName) prog_34_method_1_code 3 none :: ws) ({ frames := 1, cells := 0, slots := 0, locals := 12 } : Room)) (fun a U => a = #[(.ref r0), (.long q1)] ∧ Z.Warmed39 U.vm ∧ U.heap = h0) (fun _ _ _ _ _ => True) (fun _ U o U' => ∃ v L, o = .returned v ∧ Q_rmI Z r0 q1 h0 n0 v U'.heap L ∧ FrameEnd U o U' L ({ frames := 1, cells := 0, slots := 0, locals := 12 } : Room).cells ({ frames := 1, cells := 0, slots := 0, locals := 12 } : Room).slots) := by
  refine MetFree.of_bodySF (plainFor_of_name pn_0) hisR ?_
  intro p e s m args below meth c s₁ Bd hml0 hP hK
  obtain ⟨rfl, hZ, hh⟩ := hP
  have hx := Bd.exec
  have hby := Bd.bytes
  have hml : c.maxLocals = 3 := hml0
  have hown : s.vm.findClass "org/quarrel/model/SeededDice" = some m.cls := findClass_of_methodNamed Bd.named
  have hnm := (name_of_methodNamed Bd.named Bd.method).1
  have X0 : Stand p l e ({ frames := 1, cells := 0, slots := 0, locals := 12 } : Room) s m #[(.ref r0), (.long q1)] below meth c s₁ [] 0 0 := Stand.of_body Bd
  have e0 : s₁.heap = h0 := by rw [← hh, Bd.state]; rfl
  have N0 := Fr.nil n0
  have pre0 : ∀ t, Steps p.tables e below (s₁.setTop (mkF m 0 #[vr r0, vl q1, us] [])) t → Steps p.tables e below (s₁.setTop (entryFrame m #[(.ref r0), (.long q1)] 3)) t := fun t k => castTop (ef_0 m r0 q1) k
  obtain ⟨T1, X1, e1, st1⟩ := initO X0 hx hZ hown (wd hw 6 rfl) (wd hw 7 rfl) (wd hw 8 rfl) e0 (g := (mkF m 1 #[vr r0, vl q1, us] [(.ref r0)])) rfl (by rw [hml]; rfl) rfl (hb hby d1_1) (by decide) (W := 0) (by show 2 * 0 + _ ≤ _; exact Nat.le_of_eq rfl) (by decide)
  obtain ⟨T2, h2, X2, e2, W2, st2⟩ := putF X1 hx hZ hown (host := "") (Or.inl (wd hw 9 rfl)) Via.refl e1 F E (Or.inl (wd hw 10 rfl)) (wd hw 1 rfl) (ty := .long) (by decide) rfl rfl (g := (mkF m 6 #[vr r0, vl q1, us] [(.long q1), (.ref r0)])) rfl rfl (hb hby d1_6)
  have Fw2 := F.same W2
  have N2 := Fr.snoc X2 N0 g
  have K2 : Keep h0 h2 [r0] := (Keep.refl h0 [r0]).wr W2 (Or.inl (List.mem_of_getElem? (i := 0) rfl))
  have Z2 : n0 ≤ h2.size := by rw [W2.size]; exact Z0
  have c3 := (E.wr W2)
  obtain ⟨fs, hr, hrun, hended, hW, hsame⟩ := X2.leave (v := none) (fun _ => rfl)
  refine ⟨_, _, pre0 _ ?_, hrun, hended, _, _, rfl, ?_, ⟨_, rfl⟩, hW, hsame.mono (by decide) (by decide)⟩
  · show SS p e below s₁ (mkF m 0 #[vr r0, vl q1, us] []) _
    refine XS.aloadN X0.here hx rfl (hb hby d1_0) rfl rfl ?_
    show SS p e below s₁ (mkF m 1 #[vr r0, vl q1, us] [(.ref r0)]) _
    refine st1 _ ?_
    show SS p e below T1 (mkF m 4 #[vr r0, vl q1, us] []) _
    refine XS.aloadN X1.here hx rfl (hb hby d1_4) rfl rfl ?_
    show SS p e below T1 (mkF m 5 #[vr r0, vl q1, us] [(.ref r0)]) _
    refine XS.lloadN X1.here hx rfl (hb hby d1_5) rfl ?_
    show SS p e below T1 (mkF m 6 #[vr r0, vl q1, us] [(.long q1), (.ref r0)]) _
    refine st2 _ ?_
    show SS p e below T2 (mkF m 9 #[vr r0, vl q1, us] []) _
    exact X2.returnOut hx Bd.returns (hb hby d1_9) hr
  · show Q_rmI Z r0 q1 h0 n0 _ T2.heap _
    rw [e2]
    exact ⟨rfl, N2, K2, c3, Fw2⟩
theorem ef_1 (m : MethodId) (x0 : Addr) : entryFrame m #[(.ref x0)] 3 = mkF m 0 #[vr x0, uu, uu] [] := by first | (simp [entryFrame, mkF, argsToLocals, Value.category]; done) | rfl
theorem d3_0 : decode prog_34_method_3_code 0 = .ok (.aload_n 0, 1) := by decide +kernel
theorem d3_1 : decode prog_34_method_3_code 1 = .ok (.dup, 1) := by decide +kernel
theorem d3_2 : decode prog_34_method_3_code 2 = .ok (.getfield 9, 3) := by decide +kernel
theorem d3_5 : decode prog_34_method_3_code 5 = .ok (.ldc2_w 21, 3) := by decide +kernel
theorem d3_8 : decode prog_34_method_3_code 8 = .ok (.ladd, 1) := by decide +kernel
theorem d3_9 : decode prog_34_method_3_code 9 = .ok (.putfield 9, 3) := by decide +kernel
theorem d3_12 : decode prog_34_method_3_code 12 = .ok (.aload_n 0, 1) := by decide +kernel
theorem d3_13 : decode prog_34_method_3_code 13 = .ok (.getfield 9, 3) := by decide +kernel
theorem d3_16 : decode prog_34_method_3_code 16 = .ok (.lstore_n 1, 1) := by decide +kernel
theorem d3_17 : decode prog_34_method_3_code 17 = .ok (.lload_n 1, 1) := by decide +kernel
theorem d3_18 : decode prog_34_method_3_code 18 = .ok (.lload_n 1, 1) := by decide +kernel
theorem d3_19 : decode prog_34_method_3_code 19 = .ok (.bipush 30, 2) := by decide +kernel
theorem d3_21 : decode prog_34_method_3_code 21 = .ok (.lushr, 1) := by decide +kernel
theorem d3_22 : decode prog_34_method_3_code 22 = .ok (.lxor, 1) := by decide +kernel
theorem d3_23 : decode prog_34_method_3_code 23 = .ok (.ldc2_w 23, 3) := by decide +kernel
theorem d3_26 : decode prog_34_method_3_code 26 = .ok (.lmul, 1) := by decide +kernel
theorem d3_27 : decode prog_34_method_3_code 27 = .ok (.lstore_n 1, 1) := by decide +kernel
theorem d3_28 : decode prog_34_method_3_code 28 = .ok (.lload_n 1, 1) := by decide +kernel
theorem d3_29 : decode prog_34_method_3_code 29 = .ok (.lload_n 1, 1) := by decide +kernel
theorem d3_30 : decode prog_34_method_3_code 30 = .ok (.bipush 27, 2) := by decide +kernel
theorem d3_32 : decode prog_34_method_3_code 32 = .ok (.lushr, 1) := by decide +kernel
theorem d3_33 : decode prog_34_method_3_code 33 = .ok (.lxor, 1) := by decide +kernel
theorem d3_34 : decode prog_34_method_3_code 34 = .ok (.ldc2_w 25, 3) := by decide +kernel
theorem d3_37 : decode prog_34_method_3_code 37 = .ok (.lmul, 1) := by decide +kernel
theorem d3_38 : decode prog_34_method_3_code 38 = .ok (.lstore_n 1, 1) := by decide +kernel
theorem d3_39 : decode prog_34_method_3_code 39 = .ok (.lload_n 1, 1) := by decide +kernel
theorem d3_40 : decode prog_34_method_3_code 40 = .ok (.lload_n 1, 1) := by decide +kernel
theorem d3_41 : decode prog_34_method_3_code 41 = .ok (.bipush 31, 2) := by decide +kernel
theorem d3_43 : decode prog_34_method_3_code 43 = .ok (.lushr, 1) := by decide +kernel
theorem d3_44 : decode prog_34_method_3_code 44 = .ok (.lxor, 1) := by decide +kernel
theorem d3_45 : decode prog_34_method_3_code 45 = .ok (.lreturn, 1) := by decide +kernel
def Q_rmN (Z : State) (r0 : Addr) (w : Int64) (h0 : Heap) (n0 : Nat) (v : Option Value) (h : Heap) (L : List Loc) : Prop := (v = some (.long (own_m3 (own_m2 (own_m1 (w + (-7046029254386353131 : Int64)))))) ∧ Fr n0 L ∧ Keep h0 h [r0] ∧ Exa Z h r0 "org/quarrel/model/SeededDice" ∧ Fld Z h r0 "org/quarrel/model/SeededDice" "state" "J" (.long (w + (-7046029254386353131 : Int64))))
set_option maxRecDepth 65536 in
set_option maxHeartbeats 40000000 in
theorem rmN (l : Launch) (Z : State) (a0 : Array Value) (hw : ∀ d ∈ tables_1, d.before a0 Z = true) (ws : List Jvm.Cond) (r0 : Addr) (w : Int64) (h0 : Heap) (n0 : Nat) (Z0 : n0 ≤ h0.size) (E : Exa Z h0 r0 "org/quarrel/model/SeededDice") (F : Fld Z h0 r0 "org/quarrel/model/SeededDice" "state" "J" (.long w)) (g : n0 ≤ r0) :
    MetFree l (⟨"org/quarrel/model/SeededDice", "next", "()J"⟩ : MethodName) (head1 (Jvm.Cond.code (⟨"org/quarrel/model/SeededDice", "next", "()J"⟩ : MethodName) prog_34_method_3_code 3 (some .long) :: ws) ({ frames := 0, cells := 0, slots := 0, locals := 0 } : Room)) (fun a U => a = #[(.ref r0)] ∧ Z.Warmed39 U.vm ∧ U.heap = h0) (fun _ _ _ _ _ => True) (fun _ U o U' => ∃ v L, o = .returned v ∧ Q_rmN Z r0 w h0 n0 v U'.heap L ∧ FrameEnd U o U' L ({ frames := 0, cells := 0, slots := 0, locals := 0 } : Room).cells ({ frames := 0, cells := 0, slots := 0, locals := 0 } : Room).slots) := by
  refine MetFree.of_bodySF (plainFor_of_name pn_0) hisR ?_
  intro p e s m args below meth c s₁ Bd hml0 hP hK
  obtain ⟨rfl, hZ, hh⟩ := hP
  have hx := Bd.exec
  have hby := Bd.bytes
  have hml : c.maxLocals = 3 := hml0
  have hown : s.vm.findClass "org/quarrel/model/SeededDice" = some m.cls := findClass_of_methodNamed Bd.named
  have hnm := (name_of_methodNamed Bd.named Bd.method).1
  have X0 : Stand p l e ({ frames := 0, cells := 0, slots := 0, locals := 0 } : Room) s m #[(.ref r0)] below meth c s₁ [] 0 0 := Stand.of_body Bd
  have e0 : s₁.heap = h0 := by rw [← hh, Bd.state]; rfl
  have N0 := Fr.nil n0
  have pre0 : ∀ t, Steps p.tables e below (s₁.setTop (mkF m 0 #[vr r0, uu, uu] [])) t → Steps p.tables e below (s₁.setTop (entryFrame m #[(.ref r0)] 3)) t := fun t k => castTop (ef_1 m r0) k
  obtain ⟨T1, X1, e1, st1⟩ := getF X0 hx hZ hown (host := "") (Or.inl (wd hw 9 rfl)) Via.refl e0 F (g := (mkF m 2 #[vr r0, uu, uu] [(.ref r0), (.ref r0)])) rfl rfl (hb hby d3_2)
  obtain ⟨T2, h2, X2, e2, W2, st2⟩ := putF X1 hx hZ hown (host := "") (Or.inl (wd hw 9 rfl)) Via.refl e1 F E (Or.inl (wd hw 10 rfl)) (wd hw 1 rfl) (ty := .long) (by decide) rfl rfl (g := (mkF m 9 #[vr r0, uu, uu] [(.long (w + (-7046029254386353131 : Int64))), (.ref r0)])) rfl rfl (hb hby d3_9)
  have Fw2 := F.same W2
  have N2 := Fr.snoc X2 N0 g
  have K2 : Keep h0 h2 [r0] := (Keep.refl h0 [r0]).wr W2 (Or.inl (List.mem_of_getElem? (i := 0) rfl))
  have Z2 : n0 ≤ h2.size := by rw [W2.size]; exact Z0
  obtain ⟨T3, X3, e3, st3⟩ := getF X2 hx hZ hown (host := "") (Or.inl (wd hw 9 rfl)) Via.refl e2 Fw2 (g := (mkF m 13 #[vr r0, uu, uu] [(.ref r0)])) rfl rfl (hb hby d3_13)
  have c4 := (E.wr W2)
  obtain ⟨fs, hr, hrun, hended, hW, hsame⟩ := X3.leave (v := some (.long (own_m3 (own_m2 (own_m1 (w + (-7046029254386353131 : Int64))))))) (fun h => by rw [Bd.returns] at h; cases h)
  refine ⟨_, _, pre0 _ ?_, hrun, hended, _, _, rfl, ?_, ⟨_, rfl⟩, hW, hsame.mono (by decide) (by decide)⟩
  · show SS p e below s₁ (mkF m 0 #[vr r0, uu, uu] []) _
    refine XS.aloadN X0.here hx rfl (hb hby d3_0) rfl rfl ?_
    show SS p e below s₁ (mkF m 1 #[vr r0, uu, uu] [(.ref r0)]) _
    refine XS.dup X0.here hx rfl (hb hby d3_1) rfl rfl ?_
    show SS p e below s₁ (mkF m 2 #[vr r0, uu, uu] [(.ref r0), (.ref r0)]) _
    refine st1 _ ?_
    show SS p e below T1 (mkF m 5 #[vr r0, uu, uu] [(.long w), (.ref r0)]) _
    refine X1.ldc2Long hx hown (mvT hZ (wd hw 16 rfl)) (g := (mkF m 5 #[vr r0, uu, uu] [(.long w), (.ref r0)])) rfl (hb hby d3_5) _ ?_
    show SS p e below T1 (mkF m 8 #[vr r0, uu, uu] [(.long (-7046029254386353131 : Int64)), (.long w), (.ref r0)]) _
    refine XS.ladd X1.here hx rfl (hb hby d3_8) rfl ?_
    show SS p e below T1 (mkF m 9 #[vr r0, uu, uu] [(.long (w + (-7046029254386353131 : Int64))), (.ref r0)]) _
    refine st2 _ ?_
    show SS p e below T2 (mkF m 12 #[vr r0, uu, uu] []) _
    refine XS.aloadN X2.here hx rfl (hb hby d3_12) rfl rfl ?_
    show SS p e below T2 (mkF m 13 #[vr r0, uu, uu] [(.ref r0)]) _
    refine st3 _ ?_
    show SS p e below T3 (mkF m 16 #[vr r0, uu, uu] [(.long (w + (-7046029254386353131 : Int64)))]) _
    refine XS.lstoreN X3.here hx rfl (hb hby d3_16) rfl (l' := #[vr r0, vl (w + (-7046029254386353131 : Int64)), us]) rfl ?_
    show SS p e below T3 (mkF m 17 #[vr r0, vl (w + (-7046029254386353131 : Int64)), us] []) _
    refine XS.lloadN X3.here hx rfl (hb hby d3_17) rfl ?_
    show SS p e below T3 (mkF m 18 #[vr r0, vl (w + (-7046029254386353131 : Int64)), us] [(.long (w + (-7046029254386353131 : Int64)))]) _
    refine XS.lloadN X3.here hx rfl (hb hby d3_18) rfl ?_
    show SS p e below T3 (mkF m 19 #[vr r0, vl (w + (-7046029254386353131 : Int64)), us] [(.long (w + (-7046029254386353131 : Int64))), (.long (w + (-7046029254386353131 : Int64)))]) _
    refine XS.bipush X3.here hx rfl (hb hby d3_19) ?_
    show SS p e below T3 (mkF m 21 #[vr r0, vl (w + (-7046029254386353131 : Int64)), us] [(.int (30 : Int32)), (.long (w + (-7046029254386353131 : Int64))), (.long (w + (-7046029254386353131 : Int64)))]) _
    refine XS.lushr X3.here hx rfl (hb hby d3_21) rfl ?_
    show SS p e below T3 (mkF m 22 #[vr r0, vl (w + (-7046029254386353131 : Int64)), us] [(.long (((w + (-7046029254386353131 : Int64)).toUInt64 >>> ((30 : Int32) &&& 0x3f).toInt64.toUInt64).toInt64)), (.long (w + (-7046029254386353131 : Int64)))]) _
    refine XS.lxor X3.here hx rfl (hb hby d3_22) rfl ?_
    show SS p e below T3 (mkF m 23 #[vr r0, vl (w + (-7046029254386353131 : Int64)), us] [(.long ((w + (-7046029254386353131 : Int64)) ^^^ (((w + (-7046029254386353131 : Int64)).toUInt64 >>> ((30 : Int32) &&& 0x3f).toInt64.toUInt64).toInt64)))]) _
    refine X3.ldc2Long hx hown (mvT hZ (wd hw 17 rfl)) (g := (mkF m 23 #[vr r0, vl (w + (-7046029254386353131 : Int64)), us] [(.long ((w + (-7046029254386353131 : Int64)) ^^^ (((w + (-7046029254386353131 : Int64)).toUInt64 >>> ((30 : Int32) &&& 0x3f).toInt64.toUInt64).toInt64)))])) rfl (hb hby d3_23) _ ?_
    show SS p e below T3 (mkF m 26 #[vr r0, vl (w + (-7046029254386353131 : Int64)), us] [(.long (-4658895280553007687 : Int64)), (.long ((w + (-7046029254386353131 : Int64)) ^^^ (((w + (-7046029254386353131 : Int64)).toUInt64 >>> ((30 : Int32) &&& 0x3f).toInt64.toUInt64).toInt64)))]) _
    refine XS.lmul X3.here hx rfl (hb hby d3_26) rfl ?_
    show SS p e below T3 (mkF m 27 #[vr r0, vl (w + (-7046029254386353131 : Int64)), us] [(.long (own_m1 (w + (-7046029254386353131 : Int64))))]) _
    refine XS.lstoreN X3.here hx rfl (hb hby d3_27) rfl (l' := #[vr r0, vl (own_m1 (w + (-7046029254386353131 : Int64))), us]) rfl ?_
    show SS p e below T3 (mkF m 28 #[vr r0, vl (own_m1 (w + (-7046029254386353131 : Int64))), us] []) _
    refine XS.lloadN X3.here hx rfl (hb hby d3_28) rfl ?_
    show SS p e below T3 (mkF m 29 #[vr r0, vl (own_m1 (w + (-7046029254386353131 : Int64))), us] [(.long (own_m1 (w + (-7046029254386353131 : Int64))))]) _
    refine XS.lloadN X3.here hx rfl (hb hby d3_29) rfl ?_
    show SS p e below T3 (mkF m 30 #[vr r0, vl (own_m1 (w + (-7046029254386353131 : Int64))), us] [(.long (own_m1 (w + (-7046029254386353131 : Int64)))), (.long (own_m1 (w + (-7046029254386353131 : Int64))))]) _
    refine XS.bipush X3.here hx rfl (hb hby d3_30) ?_
    show SS p e below T3 (mkF m 32 #[vr r0, vl (own_m1 (w + (-7046029254386353131 : Int64))), us] [(.int (27 : Int32)), (.long (own_m1 (w + (-7046029254386353131 : Int64)))), (.long (own_m1 (w + (-7046029254386353131 : Int64))))]) _
    refine XS.lushr X3.here hx rfl (hb hby d3_32) rfl ?_
    show SS p e below T3 (mkF m 33 #[vr r0, vl (own_m1 (w + (-7046029254386353131 : Int64))), us] [(.long (((own_m1 (w + (-7046029254386353131 : Int64))).toUInt64 >>> ((27 : Int32) &&& 0x3f).toInt64.toUInt64).toInt64)), (.long (own_m1 (w + (-7046029254386353131 : Int64))))]) _
    refine XS.lxor X3.here hx rfl (hb hby d3_33) rfl ?_
    show SS p e below T3 (mkF m 34 #[vr r0, vl (own_m1 (w + (-7046029254386353131 : Int64))), us] [(.long ((own_m1 (w + (-7046029254386353131 : Int64))) ^^^ (((own_m1 (w + (-7046029254386353131 : Int64))).toUInt64 >>> ((27 : Int32) &&& 0x3f).toInt64.toUInt64).toInt64)))]) _
    refine X3.ldc2Long hx hown (mvT hZ (wd hw 18 rfl)) (g := (mkF m 34 #[vr r0, vl (own_m1 (w + (-7046029254386353131 : Int64))), us] [(.long ((own_m1 (w + (-7046029254386353131 : Int64))) ^^^ (((own_m1 (w + (-7046029254386353131 : Int64))).toUInt64 >>> ((27 : Int32) &&& 0x3f).toInt64.toUInt64).toInt64)))])) rfl (hb hby d3_34) _ ?_
    show SS p e below T3 (mkF m 37 #[vr r0, vl (own_m1 (w + (-7046029254386353131 : Int64))), us] [(.long (-7723592293110705685 : Int64)), (.long ((own_m1 (w + (-7046029254386353131 : Int64))) ^^^ (((own_m1 (w + (-7046029254386353131 : Int64))).toUInt64 >>> ((27 : Int32) &&& 0x3f).toInt64.toUInt64).toInt64)))]) _
    refine XS.lmul X3.here hx rfl (hb hby d3_37) rfl ?_
    show SS p e below T3 (mkF m 38 #[vr r0, vl (own_m1 (w + (-7046029254386353131 : Int64))), us] [(.long (own_m2 (own_m1 (w + (-7046029254386353131 : Int64)))))]) _
    refine XS.lstoreN X3.here hx rfl (hb hby d3_38) rfl (l' := #[vr r0, vl (own_m2 (own_m1 (w + (-7046029254386353131 : Int64)))), us]) rfl ?_
    show SS p e below T3 (mkF m 39 #[vr r0, vl (own_m2 (own_m1 (w + (-7046029254386353131 : Int64)))), us] []) _
    refine XS.lloadN X3.here hx rfl (hb hby d3_39) rfl ?_
    show SS p e below T3 (mkF m 40 #[vr r0, vl (own_m2 (own_m1 (w + (-7046029254386353131 : Int64)))), us] [(.long (own_m2 (own_m1 (w + (-7046029254386353131 : Int64)))))]) _
    refine XS.lloadN X3.here hx rfl (hb hby d3_40) rfl ?_
    show SS p e below T3 (mkF m 41 #[vr r0, vl (own_m2 (own_m1 (w + (-7046029254386353131 : Int64)))), us] [(.long (own_m2 (own_m1 (w + (-7046029254386353131 : Int64))))), (.long (own_m2 (own_m1 (w + (-7046029254386353131 : Int64)))))]) _
    refine XS.bipush X3.here hx rfl (hb hby d3_41) ?_
    show SS p e below T3 (mkF m 43 #[vr r0, vl (own_m2 (own_m1 (w + (-7046029254386353131 : Int64)))), us] [(.int (31 : Int32)), (.long (own_m2 (own_m1 (w + (-7046029254386353131 : Int64))))), (.long (own_m2 (own_m1 (w + (-7046029254386353131 : Int64)))))]) _
    refine XS.lushr X3.here hx rfl (hb hby d3_43) rfl ?_
    show SS p e below T3 (mkF m 44 #[vr r0, vl (own_m2 (own_m1 (w + (-7046029254386353131 : Int64)))), us] [(.long (((own_m2 (own_m1 (w + (-7046029254386353131 : Int64)))).toUInt64 >>> ((31 : Int32) &&& 0x3f).toInt64.toUInt64).toInt64)), (.long (own_m2 (own_m1 (w + (-7046029254386353131 : Int64)))))]) _
    refine XS.lxor X3.here hx rfl (hb hby d3_44) rfl ?_
    show SS p e below T3 (mkF m 45 #[vr r0, vl (own_m2 (own_m1 (w + (-7046029254386353131 : Int64)))), us] [(.long (own_m3 (own_m2 (own_m1 (w + (-7046029254386353131 : Int64))))))]) _
    exact retOut X3 hx Bd.returns rfl (Or.inr (Or.inl ⟨rfl, rfl, _, rfl⟩)) (hb hby d3_45) hr
  · show Q_rmN Z r0 w h0 n0 _ T3.heap _
    rw [e3]
    exact ⟨rfl, N2, K2, c4, Fw2⟩
theorem ef_2 (m : MethodId) (x0 : Int64) : entryFrame m #[(.long x0)] 2 = mkF m 0 #[vl x0, us] [] := by first | (simp [entryFrame, mkF, argsToLocals, Value.category]; done) | rfl
theorem pn_1 : plainName "org/quarrel/model/SeededDiceNextPinLaw" = true := by first | (simp [plainName, overriddenIn]; done) | decide +kernel
theorem d4_0 : decode method_3_code 0 = .ok (.lload_n 0, 1) := by decide +kernel
theorem d4_1 : decode method_3_code 1 = .ok (.lload_n 0, 1) := by decide +kernel
theorem d4_2 : decode method_3_code 2 = .ok (.bipush 31, 2) := by decide +kernel
theorem d4_4 : decode method_3_code 4 = .ok (.lushr, 1) := by decide +kernel
theorem d4_5 : decode method_3_code 5 = .ok (.lxor, 1) := by decide +kernel
theorem d4_6 : decode method_3_code 6 = .ok (.lload_n 0, 1) := by decide +kernel
theorem d4_7 : decode method_3_code 7 = .ok (.bipush 62, 2) := by decide +kernel
theorem d4_9 : decode method_3_code 9 = .ok (.lushr, 1) := by decide +kernel
theorem d4_10 : decode method_3_code 10 = .ok (.lxor, 1) := by decide +kernel
theorem d4_11 : decode method_3_code 11 = .ok (.ldc2_w 28, 3) := by decide +kernel
theorem d4_14 : decode method_3_code 14 = .ok (.lmul, 1) := by decide +kernel
theorem d4_15 : decode method_3_code 15 = .ok (.lstore_n 0, 1) := by decide +kernel
theorem d4_16 : decode method_3_code 16 = .ok (.lload_n 0, 1) := by decide +kernel
theorem d4_17 : decode method_3_code 17 = .ok (.lload_n 0, 1) := by decide +kernel
theorem d4_18 : decode method_3_code 18 = .ok (.bipush 27, 2) := by decide +kernel
theorem d4_20 : decode method_3_code 20 = .ok (.lushr, 1) := by decide +kernel
theorem d4_21 : decode method_3_code 21 = .ok (.lxor, 1) := by decide +kernel
theorem d4_22 : decode method_3_code 22 = .ok (.lload_n 0, 1) := by decide +kernel
theorem d4_23 : decode method_3_code 23 = .ok (.bipush 54, 2) := by decide +kernel
theorem d4_25 : decode method_3_code 25 = .ok (.lushr, 1) := by decide +kernel
theorem d4_26 : decode method_3_code 26 = .ok (.lxor, 1) := by decide +kernel
theorem d4_27 : decode method_3_code 27 = .ok (.ldc2_w 30, 3) := by decide +kernel
theorem d4_30 : decode method_3_code 30 = .ok (.lmul, 1) := by decide +kernel
theorem d4_31 : decode method_3_code 31 = .ok (.lstore_n 0, 1) := by decide +kernel
theorem d4_32 : decode method_3_code 32 = .ok (.lload_n 0, 1) := by decide +kernel
theorem d4_33 : decode method_3_code 33 = .ok (.lload_n 0, 1) := by decide +kernel
theorem d4_34 : decode method_3_code 34 = .ok (.bipush 30, 2) := by decide +kernel
theorem d4_36 : decode method_3_code 36 = .ok (.lushr, 1) := by decide +kernel
theorem d4_37 : decode method_3_code 37 = .ok (.lxor, 1) := by decide +kernel
theorem d4_38 : decode method_3_code 38 = .ok (.lload_n 0, 1) := by decide +kernel
theorem d4_39 : decode method_3_code 39 = .ok (.bipush 60, 2) := by decide +kernel
theorem d4_41 : decode method_3_code 41 = .ok (.lushr, 1) := by decide +kernel
theorem d4_42 : decode method_3_code 42 = .ok (.lxor, 1) := by decide +kernel
theorem d4_43 : decode method_3_code 43 = .ok (.lreturn, 1) := by decide +kernel
def Q_rmU (Z : State) (q0 : Int64) (h0 : Heap) (n0 : Nat) (v : Option Value) (h : Heap) (L : List Loc) : Prop := (v = some (.long (own_u3 (own_u2 (own_u1 q0)))) ∧ Fr n0 L ∧ h = h0)
set_option maxRecDepth 65536 in
set_option maxHeartbeats 40000000 in
theorem rmU (l : Launch) (Z : State) (a0 : Array Value) (hw : ∀ d ∈ tables_1, d.before a0 Z = true) (ws : List Jvm.Cond) (q0 : Int64) (h0 : Heap) (n0 : Nat) (Z0 : n0 ≤ h0.size) :
    MetFree l (⟨"org/quarrel/model/SeededDiceNextPinLaw", "unmix", "(J)J"⟩ : MethodName) (head1 (Jvm.Cond.code (⟨"org/quarrel/model/SeededDiceNextPinLaw", "unmix", "(J)J"⟩ : MethodName) method_3_code 2 (some .long) :: ws) ({ frames := 0, cells := 0, slots := 0, locals := 0 } : Room)) (fun a U => a = #[(.long q0)] ∧ Z.Warmed39 U.vm ∧ U.heap = h0) (fun _ _ _ _ _ => True) (fun _ U o U' => ∃ v L, o = .returned v ∧ Q_rmU Z q0 h0 n0 v U'.heap L ∧ FrameEnd U o U' L ({ frames := 0, cells := 0, slots := 0, locals := 0 } : Room).cells ({ frames := 0, cells := 0, slots := 0, locals := 0 } : Room).slots) := by
  refine MetFree.of_bodySF (plainFor_of_name pn_1) hisR ?_
  intro p e s m args below meth c s₁ Bd hml0 hP hK
  obtain ⟨rfl, hZ, hh⟩ := hP
  have hx := Bd.exec
  have hby := Bd.bytes
  have hml : c.maxLocals = 2 := hml0
  have hown : s.vm.findClass "org/quarrel/model/SeededDiceNextPinLaw" = some m.cls := findClass_of_methodNamed Bd.named
  have hnm := (name_of_methodNamed Bd.named Bd.method).1
  have X0 : Stand p l e ({ frames := 0, cells := 0, slots := 0, locals := 0 } : Room) s m #[(.long q0)] below meth c s₁ [] 0 0 := Stand.of_body Bd
  have e0 : s₁.heap = h0 := by rw [← hh, Bd.state]; rfl
  have N0 := Fr.nil n0
  have pre0 : ∀ t, Steps p.tables e below (s₁.setTop (mkF m 0 #[vl q0, us] [])) t → Steps p.tables e below (s₁.setTop (entryFrame m #[(.long q0)] 2)) t := fun t k => castTop (ef_2 m q0) k
  obtain ⟨fs, hr, hrun, hended, hW, hsame⟩ := X0.leave (v := some (.long (own_u3 (own_u2 (own_u1 q0))))) (fun h => by rw [Bd.returns] at h; cases h)
  refine ⟨_, _, pre0 _ ?_, hrun, hended, _, _, rfl, ?_, ⟨_, rfl⟩, hW, hsame.mono (by decide) (by decide)⟩
  · show SS p e below s₁ (mkF m 0 #[vl q0, us] []) _
    refine XS.lloadN X0.here hx rfl (hb hby d4_0) rfl ?_
    show SS p e below s₁ (mkF m 1 #[vl q0, us] [(.long q0)]) _
    refine XS.lloadN X0.here hx rfl (hb hby d4_1) rfl ?_
    show SS p e below s₁ (mkF m 2 #[vl q0, us] [(.long q0), (.long q0)]) _
    refine XS.bipush X0.here hx rfl (hb hby d4_2) ?_
    show SS p e below s₁ (mkF m 4 #[vl q0, us] [(.int (31 : Int32)), (.long q0), (.long q0)]) _
    refine XS.lushr X0.here hx rfl (hb hby d4_4) rfl ?_
    show SS p e below s₁ (mkF m 5 #[vl q0, us] [(.long ((q0.toUInt64 >>> ((31 : Int32) &&& 0x3f).toInt64.toUInt64).toInt64)), (.long q0)]) _
    refine XS.lxor X0.here hx rfl (hb hby d4_5) rfl ?_
    show SS p e below s₁ (mkF m 6 #[vl q0, us] [(.long (q0 ^^^ ((q0.toUInt64 >>> ((31 : Int32) &&& 0x3f).toInt64.toUInt64).toInt64)))]) _
    refine XS.lloadN X0.here hx rfl (hb hby d4_6) rfl ?_
    show SS p e below s₁ (mkF m 7 #[vl q0, us] [(.long q0), (.long (q0 ^^^ ((q0.toUInt64 >>> ((31 : Int32) &&& 0x3f).toInt64.toUInt64).toInt64)))]) _
    refine XS.bipush X0.here hx rfl (hb hby d4_7) ?_
    show SS p e below s₁ (mkF m 9 #[vl q0, us] [(.int (62 : Int32)), (.long q0), (.long (q0 ^^^ ((q0.toUInt64 >>> ((31 : Int32) &&& 0x3f).toInt64.toUInt64).toInt64)))]) _
    refine XS.lushr X0.here hx rfl (hb hby d4_9) rfl ?_
    show SS p e below s₁ (mkF m 10 #[vl q0, us] [(.long ((q0.toUInt64 >>> ((62 : Int32) &&& 0x3f).toInt64.toUInt64).toInt64)), (.long (q0 ^^^ ((q0.toUInt64 >>> ((31 : Int32) &&& 0x3f).toInt64.toUInt64).toInt64)))]) _
    refine XS.lxor X0.here hx rfl (hb hby d4_10) rfl ?_
    show SS p e below s₁ (mkF m 11 #[vl q0, us] [(.long ((q0 ^^^ ((q0.toUInt64 >>> ((31 : Int32) &&& 0x3f).toInt64.toUInt64).toInt64)) ^^^ ((q0.toUInt64 >>> ((62 : Int32) &&& 0x3f).toInt64.toUInt64).toInt64)))]) _
    refine X0.ldc2Long hx hown (mvT hZ (wd hw 24 rfl)) (g := (mkF m 11 #[vl q0, us] [(.long ((q0 ^^^ ((q0.toUInt64 >>> ((31 : Int32) &&& 0x3f).toInt64.toUInt64).toInt64)) ^^^ ((q0.toUInt64 >>> ((62 : Int32) &&& 0x3f).toInt64.toUInt64).toInt64)))])) rfl (hb hby d4_11) _ ?_
    show SS p e below s₁ (mkF m 14 #[vl q0, us] [(.long (3573116690164977347 : Int64)), (.long ((q0 ^^^ ((q0.toUInt64 >>> ((31 : Int32) &&& 0x3f).toInt64.toUInt64).toInt64)) ^^^ ((q0.toUInt64 >>> ((62 : Int32) &&& 0x3f).toInt64.toUInt64).toInt64)))]) _
    refine XS.lmul X0.here hx rfl (hb hby d4_14) rfl ?_
    show SS p e below s₁ (mkF m 15 #[vl q0, us] [(.long (own_u1 q0))]) _
    refine XS.lstoreN X0.here hx rfl (hb hby d4_15) rfl (l' := #[vl (own_u1 q0), us]) rfl ?_
    show SS p e below s₁ (mkF m 16 #[vl (own_u1 q0), us] []) _
    refine XS.lloadN X0.here hx rfl (hb hby d4_16) rfl ?_
    show SS p e below s₁ (mkF m 17 #[vl (own_u1 q0), us] [(.long (own_u1 q0))]) _
    refine XS.lloadN X0.here hx rfl (hb hby d4_17) rfl ?_
    show SS p e below s₁ (mkF m 18 #[vl (own_u1 q0), us] [(.long (own_u1 q0)), (.long (own_u1 q0))]) _
    refine XS.bipush X0.here hx rfl (hb hby d4_18) ?_
    show SS p e below s₁ (mkF m 20 #[vl (own_u1 q0), us] [(.int (27 : Int32)), (.long (own_u1 q0)), (.long (own_u1 q0))]) _
    refine XS.lushr X0.here hx rfl (hb hby d4_20) rfl ?_
    show SS p e below s₁ (mkF m 21 #[vl (own_u1 q0), us] [(.long (((own_u1 q0).toUInt64 >>> ((27 : Int32) &&& 0x3f).toInt64.toUInt64).toInt64)), (.long (own_u1 q0))]) _
    refine XS.lxor X0.here hx rfl (hb hby d4_21) rfl ?_
    show SS p e below s₁ (mkF m 22 #[vl (own_u1 q0), us] [(.long ((own_u1 q0) ^^^ (((own_u1 q0).toUInt64 >>> ((27 : Int32) &&& 0x3f).toInt64.toUInt64).toInt64)))]) _
    refine XS.lloadN X0.here hx rfl (hb hby d4_22) rfl ?_
    show SS p e below s₁ (mkF m 23 #[vl (own_u1 q0), us] [(.long (own_u1 q0)), (.long ((own_u1 q0) ^^^ (((own_u1 q0).toUInt64 >>> ((27 : Int32) &&& 0x3f).toInt64.toUInt64).toInt64)))]) _
    refine XS.bipush X0.here hx rfl (hb hby d4_23) ?_
    show SS p e below s₁ (mkF m 25 #[vl (own_u1 q0), us] [(.int (54 : Int32)), (.long (own_u1 q0)), (.long ((own_u1 q0) ^^^ (((own_u1 q0).toUInt64 >>> ((27 : Int32) &&& 0x3f).toInt64.toUInt64).toInt64)))]) _
    refine XS.lushr X0.here hx rfl (hb hby d4_25) rfl ?_
    show SS p e below s₁ (mkF m 26 #[vl (own_u1 q0), us] [(.long (((own_u1 q0).toUInt64 >>> ((54 : Int32) &&& 0x3f).toInt64.toUInt64).toInt64)), (.long ((own_u1 q0) ^^^ (((own_u1 q0).toUInt64 >>> ((27 : Int32) &&& 0x3f).toInt64.toUInt64).toInt64)))]) _
    refine XS.lxor X0.here hx rfl (hb hby d4_26) rfl ?_
    show SS p e below s₁ (mkF m 27 #[vl (own_u1 q0), us] [(.long (((own_u1 q0) ^^^ (((own_u1 q0).toUInt64 >>> ((27 : Int32) &&& 0x3f).toInt64.toUInt64).toInt64)) ^^^ (((own_u1 q0).toUInt64 >>> ((54 : Int32) &&& 0x3f).toInt64.toUInt64).toInt64)))]) _
    refine X0.ldc2Long hx hown (mvT hZ (wd hw 25 rfl)) (g := (mkF m 27 #[vl (own_u1 q0), us] [(.long (((own_u1 q0) ^^^ (((own_u1 q0).toUInt64 >>> ((27 : Int32) &&& 0x3f).toInt64.toUInt64).toInt64)) ^^^ (((own_u1 q0).toUInt64 >>> ((54 : Int32) &&& 0x3f).toInt64.toUInt64).toInt64)))])) rfl (hb hby d4_27) _ ?_
    show SS p e below s₁ (mkF m 30 #[vl (own_u1 q0), us] [(.long (-7575587736534282103 : Int64)), (.long (((own_u1 q0) ^^^ (((own_u1 q0).toUInt64 >>> ((27 : Int32) &&& 0x3f).toInt64.toUInt64).toInt64)) ^^^ (((own_u1 q0).toUInt64 >>> ((54 : Int32) &&& 0x3f).toInt64.toUInt64).toInt64)))]) _
    refine XS.lmul X0.here hx rfl (hb hby d4_30) rfl ?_
    show SS p e below s₁ (mkF m 31 #[vl (own_u1 q0), us] [(.long (own_u2 (own_u1 q0)))]) _
    refine XS.lstoreN X0.here hx rfl (hb hby d4_31) rfl (l' := #[vl (own_u2 (own_u1 q0)), us]) rfl ?_
    show SS p e below s₁ (mkF m 32 #[vl (own_u2 (own_u1 q0)), us] []) _
    refine XS.lloadN X0.here hx rfl (hb hby d4_32) rfl ?_
    show SS p e below s₁ (mkF m 33 #[vl (own_u2 (own_u1 q0)), us] [(.long (own_u2 (own_u1 q0)))]) _
    refine XS.lloadN X0.here hx rfl (hb hby d4_33) rfl ?_
    show SS p e below s₁ (mkF m 34 #[vl (own_u2 (own_u1 q0)), us] [(.long (own_u2 (own_u1 q0))), (.long (own_u2 (own_u1 q0)))]) _
    refine XS.bipush X0.here hx rfl (hb hby d4_34) ?_
    show SS p e below s₁ (mkF m 36 #[vl (own_u2 (own_u1 q0)), us] [(.int (30 : Int32)), (.long (own_u2 (own_u1 q0))), (.long (own_u2 (own_u1 q0)))]) _
    refine XS.lushr X0.here hx rfl (hb hby d4_36) rfl ?_
    show SS p e below s₁ (mkF m 37 #[vl (own_u2 (own_u1 q0)), us] [(.long (((own_u2 (own_u1 q0)).toUInt64 >>> ((30 : Int32) &&& 0x3f).toInt64.toUInt64).toInt64)), (.long (own_u2 (own_u1 q0)))]) _
    refine XS.lxor X0.here hx rfl (hb hby d4_37) rfl ?_
    show SS p e below s₁ (mkF m 38 #[vl (own_u2 (own_u1 q0)), us] [(.long ((own_u2 (own_u1 q0)) ^^^ (((own_u2 (own_u1 q0)).toUInt64 >>> ((30 : Int32) &&& 0x3f).toInt64.toUInt64).toInt64)))]) _
    refine XS.lloadN X0.here hx rfl (hb hby d4_38) rfl ?_
    show SS p e below s₁ (mkF m 39 #[vl (own_u2 (own_u1 q0)), us] [(.long (own_u2 (own_u1 q0))), (.long ((own_u2 (own_u1 q0)) ^^^ (((own_u2 (own_u1 q0)).toUInt64 >>> ((30 : Int32) &&& 0x3f).toInt64.toUInt64).toInt64)))]) _
    refine XS.bipush X0.here hx rfl (hb hby d4_39) ?_
    show SS p e below s₁ (mkF m 41 #[vl (own_u2 (own_u1 q0)), us] [(.int (60 : Int32)), (.long (own_u2 (own_u1 q0))), (.long ((own_u2 (own_u1 q0)) ^^^ (((own_u2 (own_u1 q0)).toUInt64 >>> ((30 : Int32) &&& 0x3f).toInt64.toUInt64).toInt64)))]) _
    refine XS.lushr X0.here hx rfl (hb hby d4_41) rfl ?_
    show SS p e below s₁ (mkF m 42 #[vl (own_u2 (own_u1 q0)), us] [(.long (((own_u2 (own_u1 q0)).toUInt64 >>> ((60 : Int32) &&& 0x3f).toInt64.toUInt64).toInt64)), (.long ((own_u2 (own_u1 q0)) ^^^ (((own_u2 (own_u1 q0)).toUInt64 >>> ((30 : Int32) &&& 0x3f).toInt64.toUInt64).toInt64)))]) _
    refine XS.lxor X0.here hx rfl (hb hby d4_42) rfl ?_
    show SS p e below s₁ (mkF m 43 #[vl (own_u2 (own_u1 q0)), us] [(.long (own_u3 (own_u2 (own_u1 q0))))]) _
    exact retOut X0 hx Bd.returns rfl (Or.inr (Or.inl ⟨rfl, rfl, _, rfl⟩)) (hb hby d4_43) hr
  · show Q_rmU Z q0 h0 n0 _ s₁.heap _
    rw [e0]
    exact ⟨rfl, N0, rfl⟩
theorem ef_3 (m : MethodId) (x0 : Int64) : entryFrame m #[(.long x0)] maxLocals = mkF m 0 #[vl x0, us, uu, uu, uu, uu, uu, uu, uu, uu, uu] [] := by first | (simp [entryFrame, mkF, argsToLocals, Value.category, maxLocals]; done) | rfl
theorem pd_0 : parseMethodDescriptor "(J)V" = some ⟨[.long], none⟩ := by decide +kernel
theorem pd_1 : parseMethodDescriptor "()J" = some ⟨[], some .long⟩ := by decide +kernel
theorem pd_2 : parseMethodDescriptor "(J)J" = some ⟨[.long], some .long⟩ := by decide +kernel
def Q_rm0 (Z : State) (q0 : Int64) (h0 : Heap) (n0 : Nat) (v : Option Value) (h : Heap) (L : List Loc) : Prop := (v = some (.int 1) ∧ Fr n0 L)
set_option maxRecDepth 65536 in
set_option maxHeartbeats 40000000 in
theorem rm0 (l : Launch) (Z : State) (a0 : Array Value) (hw : ∀ d ∈ tables_1, d.before a0 Z = true) (ws : List Jvm.Cond) (q0 : Int64) (h0 : Heap) (n0 : Nat) (Z0 : n0 ≤ h0.size) :
    MetFree l x (head1 (Jvm.Cond.code x code maxLocals ret :: ws) room_1) (fun a U => a = #[(.long q0)] ∧ Z.Warmed39 U.vm ∧ U.heap = h0) (fun _ _ _ _ _ => True) (fun _ U o U' => ∃ v L, o = .returned v ∧ Q_rm0 Z q0 h0 n0 v U'.heap L ∧ FrameEnd U o U' L room_1.cells room_1.slots) := by
  refine MetFree.of_bodySF (plainFor_of_name pn_1) hisR ?_
  intro p e s m args below meth c s₁ Bd hml0 hP hK
  obtain ⟨rfl, hZ, hh⟩ := hP
  have hx := Bd.exec
  have hby := Bd.bytes
  have hml : c.maxLocals = 11 := hml0
  have hown : s.vm.findClass "org/quarrel/model/SeededDiceNextPinLaw" = some m.cls := findClass_of_methodNamed Bd.named
  have hnm := (name_of_methodNamed Bd.named Bd.method).1
  have X0 : Stand p l e room_1 s m #[(.long q0)] below meth c s₁ [] 0 0 := Stand.of_body Bd
  have e0 : s₁.heap = h0 := by rw [← hh, Bd.state]; rfl
  have N0 := Fr.nil n0
  have pre0 : ∀ t, Steps p.tables e below (s₁.setTop (mkF m 0 #[vl q0, us, uu, uu, uu, uu, uu, uu, uu, uu, uu] [])) t → Steps p.tables e below (s₁.setTop (entryFrame m #[(.long q0)] maxLocals)) t := fun t k => castTop (ef_3 m q0) k
  obtain ⟨T1, h1, X1, e1, E1, A1, D1, -, st1⟩ := newO X0 hx hZ hown (wd hw 0 rfl) (wd hw 1 rfl) (wd hw 2 rfl) e0 (g := (mkF m 0 #[vl q0, us, uu, uu, uu, uu, uu, uu, uu, uu, uu] [])) rfl (hb hby at_0) (by decide) (by decide)
  obtain ⟨b1, g1⟩ : ∃ z, z = h0.size := ⟨_, rfl⟩
  rw [← g1] at A1 D1 st1
  have F1_state : Fld Z h1 b1 "org/quarrel/model/SeededDice" "state" "J" (.long (0 : Int64)) := D1 (Or.inl (wd hw 10 rfl)) (ty := .long) (by decide)
  have g_b1 : n0 ≤ b1 := Nat.le_trans Z0 (Nat.le_of_eq g1.symm)
  have sz_b1 : h0.size ≤ b1 := Nat.le_trans (Keep.refl h0 []).1 (Nat.le_of_eq g1.symm)
  have K1 : Keep h0 h1 [] := (Keep.refl h0 []).ext E1
  have Z1 : n0 ≤ h1.size := Nat.le_trans Z0 E1.1
  obtain ⟨_, _, ⟨T2, L2, k2, n2⟩, -, X2, ⟨Lc2, hQ2, l2, y2, z2⟩, st2⟩ := X1.specialBack hx (y := (⟨"org/quarrel/model/SeededDice", "<init>", "(J)V"⟩ : MethodName)) rfl hown (mvT hZ (wd hw 3 rfl)) (mvT hZ (wd hw 4 rfl)) (mvT hZ (wd hw 5 rfl)) (by decide) (backOf (W := 1) (rmI l Z a0 hw [] b1 q0 h1 n0 Z1 A1 F1_state g_b1) hZ (wd hw 5 rfl) (wd hw 2 rfl) (by decide) (by decide)) (g := (mkF m 5 #[vl q0, us, uu, uu, uu, uu, uu, uu, uu, uu, uu] [(.long q0), (.ref b1), (.ref b1)])) rfl (by rw [hml]; rfl) (Steps.refl _) (a := b1) (argsL := [(.long q0)]) (rest := [(.ref b1)]) (lenOf pd_0 rfl) rfl (by show 2 * 0 + _ ≤ _; exact Nat.le_of_eq rfl) (hb hby at_5) (fun _ _ => ⟨rfl, e1, (by decide : 1 + 0 ≤ _), (by decide : 1 + 0 ≤ _)⟩)
  dsimp only [Pt.U, Pt.locs, Pt.cells, Pt.slots] at X2 l2 y2 z2 st2 hQ2
  subst l2 y2 z2
  obtain ⟨rfl, Nq2, Kq2, f2_0, f2_1⟩ := hQ2
  have N2 := Fr.app N0 Nq2
  have K2 : Keep h0 T2.heap [] := K1.trans Kq2 (allS (Or.inr sz_b1) all0)
  have Z2 : n0 ≤ T2.heap.size := Nat.le_trans Z1 Kq2.1
  obtain ⟨cq3, kq3, q3a, q3b, q3c⟩ := isOf hZ rfl f2_0
  obtain ⟨_, _, ⟨T3, L3, k3, n3⟩, -, X3, ⟨Lc3, hQ3, l3, y3, z3⟩, st3⟩ := X2.virtualBack hx (y := (⟨"org/quarrel/model/SeededDice", "next", "()J"⟩ : MethodName)) (z := (⟨"org/quarrel/model/SeededDice", "next", "()J"⟩ : MethodName)) hown (mvT hZ (wd hw 11 rfl)) (mvT hZ (wd hw 12 rfl)) (notFace_of_selects (args := #[]) (mvT hZ (wd hw 14 rfl))) (mvT hZ (wd hw 14 rfl)) (mvT hZ (wd hw 13 rfl)) (by decide) (backOf (W := 0) (rmN l Z a0 hw [] b1 q0 T2.heap n0 Z2 f2_0 f2_1 g_b1) hZ (wd hw 15 rfl) (wd hw 2 rfl) (by decide) (by decide)) q3a q3c (g := (mkF m 10 #[vl q0, us, vr b1, uu, uu, uu, uu, uu, uu, uu, uu] [(.ref b1)])) rfl (by rw [hml]; rfl) (Steps.refl _) (argsL := []) (rest := []) (lenOf pd_1 rfl) rfl (by show 2 * 0 + _ ≤ _; exact Nat.le_of_eq rfl) (hb hby at_10) (fun _ _ => ⟨rfl, rfl, (by decide : 1 + 0 ≤ _), (by decide : 1 + 0 ≤ _)⟩)
  dsimp only [Pt.U, Pt.locs, Pt.cells, Pt.slots] at X3 l3 y3 z3 st3 hQ3
  subst l3 y3 z3
  obtain ⟨rfl, Nq3, Kq3, f3_0, f3_1⟩ := hQ3
  have N3 := Fr.app N2 Nq3
  have K3 : Keep h0 T3.heap [] := K2.trans Kq3 (allS (Or.inr sz_b1) all0)
  have Z3 : n0 ≤ T3.heap.size := Nat.le_trans Z2 Kq3.1
  obtain ⟨cq4, kq4, q4a, q4b, q4c⟩ := isOf hZ rfl f3_0
  obtain ⟨_, _, ⟨T4, L4, k4, n4⟩, -, X4, ⟨Lc4, hQ4, l4, y4, z4⟩, st4⟩ := X3.virtualBack hx (y := (⟨"org/quarrel/model/SeededDice", "next", "()J"⟩ : MethodName)) (z := (⟨"org/quarrel/model/SeededDice", "next", "()J"⟩ : MethodName)) hown (mvT hZ (wd hw 11 rfl)) (mvT hZ (wd hw 12 rfl)) (notFace_of_selects (args := #[]) (mvT hZ (wd hw 14 rfl))) (mvT hZ (wd hw 14 rfl)) (mvT hZ (wd hw 13 rfl)) (by decide) (backOf (W := 0) (rmN l Z a0 hw [] b1 (q0 + (-7046029254386353131 : Int64)) T3.heap n0 Z3 f3_0 f3_1 g_b1) hZ (wd hw 15 rfl) (wd hw 2 rfl) (by decide) (by decide)) q4a q4c (g := (mkF m 15 #[vl q0, us, vr b1, vl (own_m3 (own_m2 (own_m1 (q0 + (-7046029254386353131 : Int64))))), us, uu, uu, uu, uu, uu, uu] [(.ref b1)])) rfl (by rw [hml]; rfl) (Steps.refl _) (argsL := []) (rest := []) (lenOf pd_1 rfl) rfl (by show 2 * 0 + _ ≤ _; exact Nat.le_of_eq rfl) (hb hby at_15) (fun _ _ => ⟨rfl, rfl, (by decide : 1 + 0 ≤ _), (by decide : 1 + 0 ≤ _)⟩)
  dsimp only [Pt.U, Pt.locs, Pt.cells, Pt.slots] at X4 l4 y4 z4 st4 hQ4
  subst l4 y4 z4
  obtain ⟨rfl, Nq4, Kq4, f4_0, f4_1⟩ := hQ4
  have N4 := Fr.app N3 Nq4
  have K4 : Keep h0 T4.heap [] := K3.trans Kq4 (allS (Or.inr sz_b1) all0)
  have Z4 : n0 ≤ T4.heap.size := Nat.le_trans Z3 Kq4.1
  obtain ⟨cq5, kq5, q5a, q5b, q5c⟩ := isOf hZ rfl f4_0
  obtain ⟨_, _, ⟨T5, L5, k5, n5⟩, -, X5, ⟨Lc5, hQ5, l5, y5, z5⟩, st5⟩ := X4.virtualBack hx (y := (⟨"org/quarrel/model/SeededDice", "next", "()J"⟩ : MethodName)) (z := (⟨"org/quarrel/model/SeededDice", "next", "()J"⟩ : MethodName)) hown (mvT hZ (wd hw 11 rfl)) (mvT hZ (wd hw 12 rfl)) (notFace_of_selects (args := #[]) (mvT hZ (wd hw 14 rfl))) (mvT hZ (wd hw 14 rfl)) (mvT hZ (wd hw 13 rfl)) (by decide) (backOf (W := 0) (rmN l Z a0 hw [] b1 ((q0 + (-7046029254386353131 : Int64)) + (-7046029254386353131 : Int64)) T4.heap n0 Z4 f4_0 f4_1 g_b1) hZ (wd hw 15 rfl) (wd hw 2 rfl) (by decide) (by decide)) q5a q5c (g := (mkF m 21 #[vl q0, us, vr b1, vl (own_m3 (own_m2 (own_m1 (q0 + (-7046029254386353131 : Int64))))), us, vl (own_m3 (own_m2 (own_m1 ((q0 + (-7046029254386353131 : Int64)) + (-7046029254386353131 : Int64))))), us, uu, uu, uu, uu] [(.ref b1)])) rfl (by rw [hml]; rfl) (Steps.refl _) (argsL := []) (rest := []) (lenOf pd_1 rfl) rfl (by show 2 * 0 + _ ≤ _; exact Nat.le_of_eq rfl) (hb hby at_21) (fun _ _ => ⟨rfl, rfl, (by decide : 1 + 0 ≤ _), (by decide : 1 + 0 ≤ _)⟩)
  dsimp only [Pt.U, Pt.locs, Pt.cells, Pt.slots] at X5 l5 y5 z5 st5 hQ5
  subst l5 y5 z5
  obtain ⟨rfl, Nq5, Kq5, f5_0, f5_1⟩ := hQ5
  have N5 := Fr.app N4 Nq5
  have K5 : Keep h0 T5.heap [] := K4.trans Kq5 (allS (Or.inr sz_b1) all0)
  have Z5 : n0 ≤ T5.heap.size := Nat.le_trans Z4 Kq5.1
  obtain ⟨_, _, ⟨T6, L6, k6, n6⟩, -, X6, ⟨Lc6, hQ6, l6, y6, z6⟩, st6⟩ := Jvm.LawKit.callS X5 hx (y := (⟨"org/quarrel/model/SeededDiceNextPinLaw", "unmix", "(J)J"⟩ : MethodName)) hown (mvT hZ (wd hw 20 rfl)) (mvT hZ (wd hw 21 rfl)) (mvT hZ (wd hw 22 rfl)) (mvT hZ (wd hw 23 rfl)) (by decide) (backOf (W := 0) (rmU l Z a0 hw [] (own_m3 (own_m2 (own_m1 (q0 + (-7046029254386353131 : Int64))))) T5.heap n0 Z5) hZ (wd hw 23 rfl) (wd hw 22 rfl) (by decide) (by decide)) (g := (mkF m 32 #[vl q0, us, vr b1, vl (own_m3 (own_m2 (own_m1 (q0 + (-7046029254386353131 : Int64))))), us, vl (own_m3 (own_m2 (own_m1 ((q0 + (-7046029254386353131 : Int64)) + (-7046029254386353131 : Int64))))), us, vl (own_m3 (own_m2 (own_m1 (((q0 + (-7046029254386353131 : Int64)) + (-7046029254386353131 : Int64)) + (-7046029254386353131 : Int64))))), us, vl (-7046029254386353131 : Int64), us] [(.long (own_m3 (own_m2 (own_m1 (q0 + (-7046029254386353131 : Int64))))))])) rfl (by rw [hml]; rfl) (argsL := [(.long (own_m3 (own_m2 (own_m1 (q0 + (-7046029254386353131 : Int64))))))]) (rest := []) (lenOf pd_2 rfl) rfl (by show 2 * 0 + _ ≤ _; exact Nat.le_of_eq rfl) (hb hby at_32) (fun _ _ => ⟨rfl, rfl, (by decide : 1 + 0 ≤ _), (by decide : 1 + 0 ≤ _)⟩)
  dsimp only [Pt.U, Pt.locs, Pt.cells, Pt.slots] at X6 l6 y6 z6 st6 hQ6
  subst l6 y6 z6
  obtain ⟨rfl, Nq6, eh6⟩ := hQ6
  have N6 := Fr.app N5 Nq6
  obtain ⟨_, _, ⟨T7, L7, k7, n7⟩, -, X7, ⟨Lc7, hQ7, l7, y7, z7⟩, st7⟩ := Jvm.LawKit.callS X6 hx (y := (⟨"org/quarrel/model/SeededDiceNextPinLaw", "unmix", "(J)J"⟩ : MethodName)) hown (mvT hZ (wd hw 20 rfl)) (mvT hZ (wd hw 21 rfl)) (mvT hZ (wd hw 22 rfl)) (mvT hZ (wd hw 23 rfl)) (by decide) (backOf (W := 0) (rmU l Z a0 hw [] (own_m3 (own_m2 (own_m1 ((q0 + (-7046029254386353131 : Int64)) + (-7046029254386353131 : Int64))))) T5.heap n0 Z5) hZ (wd hw 23 rfl) (wd hw 22 rfl) (by decide) (by decide)) (g := (mkF m 45 #[vl q0, us, vr b1, vl (own_m3 (own_m2 (own_m1 (q0 + (-7046029254386353131 : Int64))))), us, vl (own_m3 (own_m2 (own_m1 ((q0 + (-7046029254386353131 : Int64)) + (-7046029254386353131 : Int64))))), us, vl (own_m3 (own_m2 (own_m1 (((q0 + (-7046029254386353131 : Int64)) + (-7046029254386353131 : Int64)) + (-7046029254386353131 : Int64))))), us, vl (-7046029254386353131 : Int64), us] [(.long (own_m3 (own_m2 (own_m1 ((q0 + (-7046029254386353131 : Int64)) + (-7046029254386353131 : Int64))))))])) rfl (by rw [hml]; rfl) (argsL := [(.long (own_m3 (own_m2 (own_m1 ((q0 + (-7046029254386353131 : Int64)) + (-7046029254386353131 : Int64))))))]) (rest := []) (lenOf pd_2 rfl) rfl (by show 2 * 0 + _ ≤ _; exact Nat.le_of_eq rfl) (hb hby at_45) (fun _ _ => ⟨rfl, eh6, (by decide : 1 + 0 ≤ _), (by decide : 1 + 0 ≤ _)⟩)
  dsimp only [Pt.U, Pt.locs, Pt.cells, Pt.slots] at X7 l7 y7 z7 st7 hQ7
  subst l7 y7 z7
  obtain ⟨rfl, Nq7, eh7⟩ := hQ7
  have N7 := Fr.app N6 Nq7
  obtain ⟨_, _, ⟨T8, L8, k8, n8⟩, -, X8, ⟨Lc8, hQ8, l8, y8, z8⟩, st8⟩ := Jvm.LawKit.callS X7 hx (y := (⟨"org/quarrel/model/SeededDiceNextPinLaw", "unmix", "(J)J"⟩ : MethodName)) hown (mvT hZ (wd hw 20 rfl)) (mvT hZ (wd hw 21 rfl)) (mvT hZ (wd hw 22 rfl)) (mvT hZ (wd hw 23 rfl)) (by decide) (backOf (W := 0) (rmU l Z a0 hw [] (own_m3 (own_m2 (own_m1 (((q0 + (-7046029254386353131 : Int64)) + (-7046029254386353131 : Int64)) + (-7046029254386353131 : Int64))))) T5.heap n0 Z5) hZ (wd hw 23 rfl) (wd hw 22 rfl) (by decide) (by decide)) (g := (mkF m 62 #[vl q0, us, vr b1, vl (own_m3 (own_m2 (own_m1 (q0 + (-7046029254386353131 : Int64))))), us, vl (own_m3 (own_m2 (own_m1 ((q0 + (-7046029254386353131 : Int64)) + (-7046029254386353131 : Int64))))), us, vl (own_m3 (own_m2 (own_m1 (((q0 + (-7046029254386353131 : Int64)) + (-7046029254386353131 : Int64)) + (-7046029254386353131 : Int64))))), us, vl (-7046029254386353131 : Int64), us] [(.long (own_m3 (own_m2 (own_m1 (((q0 + (-7046029254386353131 : Int64)) + (-7046029254386353131 : Int64)) + (-7046029254386353131 : Int64))))))])) rfl (by rw [hml]; rfl) (argsL := [(.long (own_m3 (own_m2 (own_m1 (((q0 + (-7046029254386353131 : Int64)) + (-7046029254386353131 : Int64)) + (-7046029254386353131 : Int64))))))]) (rest := []) (lenOf pd_2 rfl) rfl (by show 2 * 0 + _ ≤ _; exact Nat.le_of_eq rfl) (hb hby at_62) (fun _ _ => ⟨rfl, eh7, (by decide : 1 + 0 ≤ _), (by decide : 1 + 0 ≤ _)⟩)
  dsimp only [Pt.U, Pt.locs, Pt.cells, Pt.slots] at X8 l8 y8 z8 st8 hQ8
  subst l8 y8 z8
  obtain ⟨rfl, Nq8, eh8⟩ := hQ8
  have N8 := Fr.app N7 Nq8
  obtain ⟨fs, hr, hrun, hended, hW, hsame⟩ := X8.leave (v := some (.int (nar .boolean (1 : Int32)))) (fun h => by rw [Bd.returns] at h; cases h)
  refine ⟨_, _, pre0 _ ?_, hrun, hended, _, _, rfl, ?_, ⟨_, rfl⟩, hW, hsame.mono (by decide) (by decide)⟩
  · show SS p e below s₁ (mkF m 0 #[vl q0, us, uu, uu, uu, uu, uu, uu, uu, uu, uu] []) _
    refine st1 _ ?_
    show SS p e below T1 (mkF m 3 #[vl q0, us, uu, uu, uu, uu, uu, uu, uu, uu, uu] [(.ref b1)]) _
    refine XS.dup X1.here hx rfl (hb hby at_3) rfl rfl ?_
    show SS p e below T1 (mkF m 4 #[vl q0, us, uu, uu, uu, uu, uu, uu, uu, uu, uu] [(.ref b1), (.ref b1)]) _
    refine XS.lloadN X1.here hx rfl (hb hby at_4) rfl ?_
    show SS p e below T1 (mkF m 5 #[vl q0, us, uu, uu, uu, uu, uu, uu, uu, uu, uu] [(.long q0), (.ref b1), (.ref b1)]) _
    refine st2.trans ?_
    show SS p e below T2 (mkF m 8 #[vl q0, us, uu, uu, uu, uu, uu, uu, uu, uu, uu] [(.ref b1)]) _
    refine XS.astoreN X2.here hx rfl (hb hby at_8) rfl rfl (l' := #[vl q0, us, vr b1, uu, uu, uu, uu, uu, uu, uu, uu]) rfl ?_
    show SS p e below T2 (mkF m 9 #[vl q0, us, vr b1, uu, uu, uu, uu, uu, uu, uu, uu] []) _
    refine XS.aloadN X2.here hx rfl (hb hby at_9) rfl rfl ?_
    show SS p e below T2 (mkF m 10 #[vl q0, us, vr b1, uu, uu, uu, uu, uu, uu, uu, uu] [(.ref b1)]) _
    refine st3.trans ?_
    show SS p e below T3 (mkF m 13 #[vl q0, us, vr b1, uu, uu, uu, uu, uu, uu, uu, uu] [(.long (own_m3 (own_m2 (own_m1 (q0 + (-7046029254386353131 : Int64))))))]) _
    refine XS.lstoreN X3.here hx rfl (hb hby at_13) rfl (l' := #[vl q0, us, vr b1, vl (own_m3 (own_m2 (own_m1 (q0 + (-7046029254386353131 : Int64))))), us, uu, uu, uu, uu, uu, uu]) rfl ?_
    show SS p e below T3 (mkF m 14 #[vl q0, us, vr b1, vl (own_m3 (own_m2 (own_m1 (q0 + (-7046029254386353131 : Int64))))), us, uu, uu, uu, uu, uu, uu] []) _
    refine XS.aloadN X3.here hx rfl (hb hby at_14) rfl rfl ?_
    show SS p e below T3 (mkF m 15 #[vl q0, us, vr b1, vl (own_m3 (own_m2 (own_m1 (q0 + (-7046029254386353131 : Int64))))), us, uu, uu, uu, uu, uu, uu] [(.ref b1)]) _
    refine st4.trans ?_
    show SS p e below T4 (mkF m 18 #[vl q0, us, vr b1, vl (own_m3 (own_m2 (own_m1 (q0 + (-7046029254386353131 : Int64))))), us, uu, uu, uu, uu, uu, uu] [(.long (own_m3 (own_m2 (own_m1 ((q0 + (-7046029254386353131 : Int64)) + (-7046029254386353131 : Int64))))))]) _
    refine XS.lstore X4.here hx rfl (hb hby at_18) rfl (l' := #[vl q0, us, vr b1, vl (own_m3 (own_m2 (own_m1 (q0 + (-7046029254386353131 : Int64))))), us, vl (own_m3 (own_m2 (own_m1 ((q0 + (-7046029254386353131 : Int64)) + (-7046029254386353131 : Int64))))), us, uu, uu, uu, uu]) rfl ?_
    show SS p e below T4 (mkF m 20 #[vl q0, us, vr b1, vl (own_m3 (own_m2 (own_m1 (q0 + (-7046029254386353131 : Int64))))), us, vl (own_m3 (own_m2 (own_m1 ((q0 + (-7046029254386353131 : Int64)) + (-7046029254386353131 : Int64))))), us, uu, uu, uu, uu] []) _
    refine XS.aloadN X4.here hx rfl (hb hby at_20) rfl rfl ?_
    show SS p e below T4 (mkF m 21 #[vl q0, us, vr b1, vl (own_m3 (own_m2 (own_m1 (q0 + (-7046029254386353131 : Int64))))), us, vl (own_m3 (own_m2 (own_m1 ((q0 + (-7046029254386353131 : Int64)) + (-7046029254386353131 : Int64))))), us, uu, uu, uu, uu] [(.ref b1)]) _
    refine st5.trans ?_
    show SS p e below T5 (mkF m 24 #[vl q0, us, vr b1, vl (own_m3 (own_m2 (own_m1 (q0 + (-7046029254386353131 : Int64))))), us, vl (own_m3 (own_m2 (own_m1 ((q0 + (-7046029254386353131 : Int64)) + (-7046029254386353131 : Int64))))), us, uu, uu, uu, uu] [(.long (own_m3 (own_m2 (own_m1 (((q0 + (-7046029254386353131 : Int64)) + (-7046029254386353131 : Int64)) + (-7046029254386353131 : Int64))))))]) _
    refine XS.lstore X5.here hx rfl (hb hby at_24) rfl (l' := #[vl q0, us, vr b1, vl (own_m3 (own_m2 (own_m1 (q0 + (-7046029254386353131 : Int64))))), us, vl (own_m3 (own_m2 (own_m1 ((q0 + (-7046029254386353131 : Int64)) + (-7046029254386353131 : Int64))))), us, vl (own_m3 (own_m2 (own_m1 (((q0 + (-7046029254386353131 : Int64)) + (-7046029254386353131 : Int64)) + (-7046029254386353131 : Int64))))), us, uu, uu]) rfl ?_
    show SS p e below T5 (mkF m 26 #[vl q0, us, vr b1, vl (own_m3 (own_m2 (own_m1 (q0 + (-7046029254386353131 : Int64))))), us, vl (own_m3 (own_m2 (own_m1 ((q0 + (-7046029254386353131 : Int64)) + (-7046029254386353131 : Int64))))), us, vl (own_m3 (own_m2 (own_m1 (((q0 + (-7046029254386353131 : Int64)) + (-7046029254386353131 : Int64)) + (-7046029254386353131 : Int64))))), us, uu, uu] []) _
    refine X5.ldc2Long hx hown (mvT hZ (wd hw 19 rfl)) (g := (mkF m 26 #[vl q0, us, vr b1, vl (own_m3 (own_m2 (own_m1 (q0 + (-7046029254386353131 : Int64))))), us, vl (own_m3 (own_m2 (own_m1 ((q0 + (-7046029254386353131 : Int64)) + (-7046029254386353131 : Int64))))), us, vl (own_m3 (own_m2 (own_m1 (((q0 + (-7046029254386353131 : Int64)) + (-7046029254386353131 : Int64)) + (-7046029254386353131 : Int64))))), us, uu, uu] [])) rfl (hb hby at_26) _ ?_
    show SS p e below T5 (mkF m 29 #[vl q0, us, vr b1, vl (own_m3 (own_m2 (own_m1 (q0 + (-7046029254386353131 : Int64))))), us, vl (own_m3 (own_m2 (own_m1 ((q0 + (-7046029254386353131 : Int64)) + (-7046029254386353131 : Int64))))), us, vl (own_m3 (own_m2 (own_m1 (((q0 + (-7046029254386353131 : Int64)) + (-7046029254386353131 : Int64)) + (-7046029254386353131 : Int64))))), us, uu, uu] [(.long (-7046029254386353131 : Int64))]) _
    refine XS.lstore X5.here hx rfl (hb hby at_29) rfl (l' := #[vl q0, us, vr b1, vl (own_m3 (own_m2 (own_m1 (q0 + (-7046029254386353131 : Int64))))), us, vl (own_m3 (own_m2 (own_m1 ((q0 + (-7046029254386353131 : Int64)) + (-7046029254386353131 : Int64))))), us, vl (own_m3 (own_m2 (own_m1 (((q0 + (-7046029254386353131 : Int64)) + (-7046029254386353131 : Int64)) + (-7046029254386353131 : Int64))))), us, vl (-7046029254386353131 : Int64), us]) rfl ?_
    show SS p e below T5 (mkF m 31 #[vl q0, us, vr b1, vl (own_m3 (own_m2 (own_m1 (q0 + (-7046029254386353131 : Int64))))), us, vl (own_m3 (own_m2 (own_m1 ((q0 + (-7046029254386353131 : Int64)) + (-7046029254386353131 : Int64))))), us, vl (own_m3 (own_m2 (own_m1 (((q0 + (-7046029254386353131 : Int64)) + (-7046029254386353131 : Int64)) + (-7046029254386353131 : Int64))))), us, vl (-7046029254386353131 : Int64), us] []) _
    refine XS.lloadN X5.here hx rfl (hb hby at_31) rfl ?_
    show SS p e below T5 (mkF m 32 #[vl q0, us, vr b1, vl (own_m3 (own_m2 (own_m1 (q0 + (-7046029254386353131 : Int64))))), us, vl (own_m3 (own_m2 (own_m1 ((q0 + (-7046029254386353131 : Int64)) + (-7046029254386353131 : Int64))))), us, vl (own_m3 (own_m2 (own_m1 (((q0 + (-7046029254386353131 : Int64)) + (-7046029254386353131 : Int64)) + (-7046029254386353131 : Int64))))), us, vl (-7046029254386353131 : Int64), us] [(.long (own_m3 (own_m2 (own_m1 (q0 + (-7046029254386353131 : Int64))))))]) _
    refine st6 _ ?_
    show SS p e below T6 (mkF m 35 #[vl q0, us, vr b1, vl (own_m3 (own_m2 (own_m1 (q0 + (-7046029254386353131 : Int64))))), us, vl (own_m3 (own_m2 (own_m1 ((q0 + (-7046029254386353131 : Int64)) + (-7046029254386353131 : Int64))))), us, vl (own_m3 (own_m2 (own_m1 (((q0 + (-7046029254386353131 : Int64)) + (-7046029254386353131 : Int64)) + (-7046029254386353131 : Int64))))), us, vl (-7046029254386353131 : Int64), us] [(.long (own_u3 (own_u2 (own_u1 (own_m3 (own_m2 (own_m1 (q0 + (-7046029254386353131 : Int64)))))))))]) _
    refine XS.lloadN X6.here hx rfl (hb hby at_35) rfl ?_
    show SS p e below T6 (mkF m 36 #[vl q0, us, vr b1, vl (own_m3 (own_m2 (own_m1 (q0 + (-7046029254386353131 : Int64))))), us, vl (own_m3 (own_m2 (own_m1 ((q0 + (-7046029254386353131 : Int64)) + (-7046029254386353131 : Int64))))), us, vl (own_m3 (own_m2 (own_m1 (((q0 + (-7046029254386353131 : Int64)) + (-7046029254386353131 : Int64)) + (-7046029254386353131 : Int64))))), us, vl (-7046029254386353131 : Int64), us] [(.long q0), (.long (own_u3 (own_u2 (own_u1 (own_m3 (own_m2 (own_m1 (q0 + (-7046029254386353131 : Int64)))))))))]) _
    refine XS.lload X6.here hx rfl (hb hby at_36) rfl ?_
    show SS p e below T6 (mkF m 38 #[vl q0, us, vr b1, vl (own_m3 (own_m2 (own_m1 (q0 + (-7046029254386353131 : Int64))))), us, vl (own_m3 (own_m2 (own_m1 ((q0 + (-7046029254386353131 : Int64)) + (-7046029254386353131 : Int64))))), us, vl (own_m3 (own_m2 (own_m1 (((q0 + (-7046029254386353131 : Int64)) + (-7046029254386353131 : Int64)) + (-7046029254386353131 : Int64))))), us, vl (-7046029254386353131 : Int64), us] [(.long (-7046029254386353131 : Int64)), (.long q0), (.long (own_u3 (own_u2 (own_u1 (own_m3 (own_m2 (own_m1 (q0 + (-7046029254386353131 : Int64)))))))))]) _
    refine XS.ladd X6.here hx rfl (hb hby at_38) rfl ?_
    show SS p e below T6 (mkF m 39 #[vl q0, us, vr b1, vl (own_m3 (own_m2 (own_m1 (q0 + (-7046029254386353131 : Int64))))), us, vl (own_m3 (own_m2 (own_m1 ((q0 + (-7046029254386353131 : Int64)) + (-7046029254386353131 : Int64))))), us, vl (own_m3 (own_m2 (own_m1 (((q0 + (-7046029254386353131 : Int64)) + (-7046029254386353131 : Int64)) + (-7046029254386353131 : Int64))))), us, vl (-7046029254386353131 : Int64), us] [(.long (q0 + (-7046029254386353131 : Int64))), (.long (own_u3 (own_u2 (own_u1 (own_m3 (own_m2 (own_m1 (q0 + (-7046029254386353131 : Int64)))))))))]) _
    refine XS.lcmp X6.here hx rfl (hb hby at_39) rfl ?_
    show SS p e below T6 (mkF m 40 #[vl q0, us, vr b1, vl (own_m3 (own_m2 (own_m1 (q0 + (-7046029254386353131 : Int64))))), us, vl (own_m3 (own_m2 (own_m1 ((q0 + (-7046029254386353131 : Int64)) + (-7046029254386353131 : Int64))))), us, vl (own_m3 (own_m2 (own_m1 (((q0 + (-7046029254386353131 : Int64)) + (-7046029254386353131 : Int64)) + (-7046029254386353131 : Int64))))), us, vl (-7046029254386353131 : Int64), us] [(.int (lcmpW (own_u3 (own_u2 (own_u1 (own_m3 (own_m2 (own_m1 (q0 + (-7046029254386353131 : Int64)))))))) (q0 + (-7046029254386353131 : Int64))))]) _
    refine XS.ifNo X6.here hx rfl (hb hby at_40) rfl ((if0 _ _).trans (teq (own_l1 _ : (lcmpW (own_u3 (own_u2 (own_u1 (own_m3 (own_m2 (own_m1 (q0 + (-7046029254386353131 : Int64)))))))) (q0 + (-7046029254386353131 : Int64))) = (0 : Int32))).2) ?_
    show SS p e below T6 (mkF m 43 #[vl q0, us, vr b1, vl (own_m3 (own_m2 (own_m1 (q0 + (-7046029254386353131 : Int64))))), us, vl (own_m3 (own_m2 (own_m1 ((q0 + (-7046029254386353131 : Int64)) + (-7046029254386353131 : Int64))))), us, vl (own_m3 (own_m2 (own_m1 (((q0 + (-7046029254386353131 : Int64)) + (-7046029254386353131 : Int64)) + (-7046029254386353131 : Int64))))), us, vl (-7046029254386353131 : Int64), us] []) _
    refine XS.lload X6.here hx rfl (hb hby at_43) rfl ?_
    show SS p e below T6 (mkF m 45 #[vl q0, us, vr b1, vl (own_m3 (own_m2 (own_m1 (q0 + (-7046029254386353131 : Int64))))), us, vl (own_m3 (own_m2 (own_m1 ((q0 + (-7046029254386353131 : Int64)) + (-7046029254386353131 : Int64))))), us, vl (own_m3 (own_m2 (own_m1 (((q0 + (-7046029254386353131 : Int64)) + (-7046029254386353131 : Int64)) + (-7046029254386353131 : Int64))))), us, vl (-7046029254386353131 : Int64), us] [(.long (own_m3 (own_m2 (own_m1 ((q0 + (-7046029254386353131 : Int64)) + (-7046029254386353131 : Int64))))))]) _
    refine st7 _ ?_
    show SS p e below T7 (mkF m 48 #[vl q0, us, vr b1, vl (own_m3 (own_m2 (own_m1 (q0 + (-7046029254386353131 : Int64))))), us, vl (own_m3 (own_m2 (own_m1 ((q0 + (-7046029254386353131 : Int64)) + (-7046029254386353131 : Int64))))), us, vl (own_m3 (own_m2 (own_m1 (((q0 + (-7046029254386353131 : Int64)) + (-7046029254386353131 : Int64)) + (-7046029254386353131 : Int64))))), us, vl (-7046029254386353131 : Int64), us] [(.long (own_u3 (own_u2 (own_u1 (own_m3 (own_m2 (own_m1 ((q0 + (-7046029254386353131 : Int64)) + (-7046029254386353131 : Int64)))))))))]) _
    refine XS.lloadN X7.here hx rfl (hb hby at_48) rfl ?_
    show SS p e below T7 (mkF m 49 #[vl q0, us, vr b1, vl (own_m3 (own_m2 (own_m1 (q0 + (-7046029254386353131 : Int64))))), us, vl (own_m3 (own_m2 (own_m1 ((q0 + (-7046029254386353131 : Int64)) + (-7046029254386353131 : Int64))))), us, vl (own_m3 (own_m2 (own_m1 (((q0 + (-7046029254386353131 : Int64)) + (-7046029254386353131 : Int64)) + (-7046029254386353131 : Int64))))), us, vl (-7046029254386353131 : Int64), us] [(.long q0), (.long (own_u3 (own_u2 (own_u1 (own_m3 (own_m2 (own_m1 ((q0 + (-7046029254386353131 : Int64)) + (-7046029254386353131 : Int64)))))))))]) _
    refine X7.ldc2Long hx hown (mvT hZ (wd hw 26 rfl)) (g := (mkF m 49 #[vl q0, us, vr b1, vl (own_m3 (own_m2 (own_m1 (q0 + (-7046029254386353131 : Int64))))), us, vl (own_m3 (own_m2 (own_m1 ((q0 + (-7046029254386353131 : Int64)) + (-7046029254386353131 : Int64))))), us, vl (own_m3 (own_m2 (own_m1 (((q0 + (-7046029254386353131 : Int64)) + (-7046029254386353131 : Int64)) + (-7046029254386353131 : Int64))))), us, vl (-7046029254386353131 : Int64), us] [(.long q0), (.long (own_u3 (own_u2 (own_u1 (own_m3 (own_m2 (own_m1 ((q0 + (-7046029254386353131 : Int64)) + (-7046029254386353131 : Int64)))))))))])) rfl (hb hby at_49) _ ?_
    show SS p e below T7 (mkF m 52 #[vl q0, us, vr b1, vl (own_m3 (own_m2 (own_m1 (q0 + (-7046029254386353131 : Int64))))), us, vl (own_m3 (own_m2 (own_m1 ((q0 + (-7046029254386353131 : Int64)) + (-7046029254386353131 : Int64))))), us, vl (own_m3 (own_m2 (own_m1 (((q0 + (-7046029254386353131 : Int64)) + (-7046029254386353131 : Int64)) + (-7046029254386353131 : Int64))))), us, vl (-7046029254386353131 : Int64), us] [(.long (2 : Int64)), (.long q0), (.long (own_u3 (own_u2 (own_u1 (own_m3 (own_m2 (own_m1 ((q0 + (-7046029254386353131 : Int64)) + (-7046029254386353131 : Int64)))))))))]) _
    refine XS.lload X7.here hx rfl (hb hby at_52) rfl ?_
    show SS p e below T7 (mkF m 54 #[vl q0, us, vr b1, vl (own_m3 (own_m2 (own_m1 (q0 + (-7046029254386353131 : Int64))))), us, vl (own_m3 (own_m2 (own_m1 ((q0 + (-7046029254386353131 : Int64)) + (-7046029254386353131 : Int64))))), us, vl (own_m3 (own_m2 (own_m1 (((q0 + (-7046029254386353131 : Int64)) + (-7046029254386353131 : Int64)) + (-7046029254386353131 : Int64))))), us, vl (-7046029254386353131 : Int64), us] [(.long (-7046029254386353131 : Int64)), (.long (2 : Int64)), (.long q0), (.long (own_u3 (own_u2 (own_u1 (own_m3 (own_m2 (own_m1 ((q0 + (-7046029254386353131 : Int64)) + (-7046029254386353131 : Int64)))))))))]) _
    refine XS.lmul X7.here hx rfl (hb hby at_54) rfl ?_
    show SS p e below T7 (mkF m 55 #[vl q0, us, vr b1, vl (own_m3 (own_m2 (own_m1 (q0 + (-7046029254386353131 : Int64))))), us, vl (own_m3 (own_m2 (own_m1 ((q0 + (-7046029254386353131 : Int64)) + (-7046029254386353131 : Int64))))), us, vl (own_m3 (own_m2 (own_m1 (((q0 + (-7046029254386353131 : Int64)) + (-7046029254386353131 : Int64)) + (-7046029254386353131 : Int64))))), us, vl (-7046029254386353131 : Int64), us] [(.long ((2 : Int64) * (-7046029254386353131 : Int64))), (.long q0), (.long (own_u3 (own_u2 (own_u1 (own_m3 (own_m2 (own_m1 ((q0 + (-7046029254386353131 : Int64)) + (-7046029254386353131 : Int64)))))))))]) _
    refine XS.ladd X7.here hx rfl (hb hby at_55) rfl ?_
    show SS p e below T7 (mkF m 56 #[vl q0, us, vr b1, vl (own_m3 (own_m2 (own_m1 (q0 + (-7046029254386353131 : Int64))))), us, vl (own_m3 (own_m2 (own_m1 ((q0 + (-7046029254386353131 : Int64)) + (-7046029254386353131 : Int64))))), us, vl (own_m3 (own_m2 (own_m1 (((q0 + (-7046029254386353131 : Int64)) + (-7046029254386353131 : Int64)) + (-7046029254386353131 : Int64))))), us, vl (-7046029254386353131 : Int64), us] [(.long (q0 + ((2 : Int64) * (-7046029254386353131 : Int64)))), (.long (own_u3 (own_u2 (own_u1 (own_m3 (own_m2 (own_m1 ((q0 + (-7046029254386353131 : Int64)) + (-7046029254386353131 : Int64)))))))))]) _
    refine XS.lcmp X7.here hx rfl (hb hby at_56) rfl ?_
    show SS p e below T7 (mkF m 57 #[vl q0, us, vr b1, vl (own_m3 (own_m2 (own_m1 (q0 + (-7046029254386353131 : Int64))))), us, vl (own_m3 (own_m2 (own_m1 ((q0 + (-7046029254386353131 : Int64)) + (-7046029254386353131 : Int64))))), us, vl (own_m3 (own_m2 (own_m1 (((q0 + (-7046029254386353131 : Int64)) + (-7046029254386353131 : Int64)) + (-7046029254386353131 : Int64))))), us, vl (-7046029254386353131 : Int64), us] [(.int (lcmpW (own_u3 (own_u2 (own_u1 (own_m3 (own_m2 (own_m1 ((q0 + (-7046029254386353131 : Int64)) + (-7046029254386353131 : Int64)))))))) (q0 + ((2 : Int64) * (-7046029254386353131 : Int64)))))]) _
    refine XS.ifNo X7.here hx rfl (hb hby at_57) rfl ((if0 _ _).trans (teq (own_l2 _ : (lcmpW (own_u3 (own_u2 (own_u1 (own_m3 (own_m2 (own_m1 ((q0 + (-7046029254386353131 : Int64)) + (-7046029254386353131 : Int64)))))))) (q0 + ((2 : Int64) * (-7046029254386353131 : Int64)))) = (0 : Int32))).2) ?_
    show SS p e below T7 (mkF m 60 #[vl q0, us, vr b1, vl (own_m3 (own_m2 (own_m1 (q0 + (-7046029254386353131 : Int64))))), us, vl (own_m3 (own_m2 (own_m1 ((q0 + (-7046029254386353131 : Int64)) + (-7046029254386353131 : Int64))))), us, vl (own_m3 (own_m2 (own_m1 (((q0 + (-7046029254386353131 : Int64)) + (-7046029254386353131 : Int64)) + (-7046029254386353131 : Int64))))), us, vl (-7046029254386353131 : Int64), us] []) _
    refine XS.lload X7.here hx rfl (hb hby at_60) rfl ?_
    show SS p e below T7 (mkF m 62 #[vl q0, us, vr b1, vl (own_m3 (own_m2 (own_m1 (q0 + (-7046029254386353131 : Int64))))), us, vl (own_m3 (own_m2 (own_m1 ((q0 + (-7046029254386353131 : Int64)) + (-7046029254386353131 : Int64))))), us, vl (own_m3 (own_m2 (own_m1 (((q0 + (-7046029254386353131 : Int64)) + (-7046029254386353131 : Int64)) + (-7046029254386353131 : Int64))))), us, vl (-7046029254386353131 : Int64), us] [(.long (own_m3 (own_m2 (own_m1 (((q0 + (-7046029254386353131 : Int64)) + (-7046029254386353131 : Int64)) + (-7046029254386353131 : Int64))))))]) _
    refine st8 _ ?_
    show SS p e below T8 (mkF m 65 #[vl q0, us, vr b1, vl (own_m3 (own_m2 (own_m1 (q0 + (-7046029254386353131 : Int64))))), us, vl (own_m3 (own_m2 (own_m1 ((q0 + (-7046029254386353131 : Int64)) + (-7046029254386353131 : Int64))))), us, vl (own_m3 (own_m2 (own_m1 (((q0 + (-7046029254386353131 : Int64)) + (-7046029254386353131 : Int64)) + (-7046029254386353131 : Int64))))), us, vl (-7046029254386353131 : Int64), us] [(.long (own_u3 (own_u2 (own_u1 (own_m3 (own_m2 (own_m1 (((q0 + (-7046029254386353131 : Int64)) + (-7046029254386353131 : Int64)) + (-7046029254386353131 : Int64)))))))))]) _
    refine XS.lloadN X8.here hx rfl (hb hby at_65) rfl ?_
    show SS p e below T8 (mkF m 66 #[vl q0, us, vr b1, vl (own_m3 (own_m2 (own_m1 (q0 + (-7046029254386353131 : Int64))))), us, vl (own_m3 (own_m2 (own_m1 ((q0 + (-7046029254386353131 : Int64)) + (-7046029254386353131 : Int64))))), us, vl (own_m3 (own_m2 (own_m1 (((q0 + (-7046029254386353131 : Int64)) + (-7046029254386353131 : Int64)) + (-7046029254386353131 : Int64))))), us, vl (-7046029254386353131 : Int64), us] [(.long q0), (.long (own_u3 (own_u2 (own_u1 (own_m3 (own_m2 (own_m1 (((q0 + (-7046029254386353131 : Int64)) + (-7046029254386353131 : Int64)) + (-7046029254386353131 : Int64)))))))))]) _
    refine X8.ldc2Long hx hown (mvT hZ (wd hw 27 rfl)) (g := (mkF m 66 #[vl q0, us, vr b1, vl (own_m3 (own_m2 (own_m1 (q0 + (-7046029254386353131 : Int64))))), us, vl (own_m3 (own_m2 (own_m1 ((q0 + (-7046029254386353131 : Int64)) + (-7046029254386353131 : Int64))))), us, vl (own_m3 (own_m2 (own_m1 (((q0 + (-7046029254386353131 : Int64)) + (-7046029254386353131 : Int64)) + (-7046029254386353131 : Int64))))), us, vl (-7046029254386353131 : Int64), us] [(.long q0), (.long (own_u3 (own_u2 (own_u1 (own_m3 (own_m2 (own_m1 (((q0 + (-7046029254386353131 : Int64)) + (-7046029254386353131 : Int64)) + (-7046029254386353131 : Int64)))))))))])) rfl (hb hby at_66) _ ?_
    show SS p e below T8 (mkF m 69 #[vl q0, us, vr b1, vl (own_m3 (own_m2 (own_m1 (q0 + (-7046029254386353131 : Int64))))), us, vl (own_m3 (own_m2 (own_m1 ((q0 + (-7046029254386353131 : Int64)) + (-7046029254386353131 : Int64))))), us, vl (own_m3 (own_m2 (own_m1 (((q0 + (-7046029254386353131 : Int64)) + (-7046029254386353131 : Int64)) + (-7046029254386353131 : Int64))))), us, vl (-7046029254386353131 : Int64), us] [(.long (3 : Int64)), (.long q0), (.long (own_u3 (own_u2 (own_u1 (own_m3 (own_m2 (own_m1 (((q0 + (-7046029254386353131 : Int64)) + (-7046029254386353131 : Int64)) + (-7046029254386353131 : Int64)))))))))]) _
    refine XS.lload X8.here hx rfl (hb hby at_69) rfl ?_
    show SS p e below T8 (mkF m 71 #[vl q0, us, vr b1, vl (own_m3 (own_m2 (own_m1 (q0 + (-7046029254386353131 : Int64))))), us, vl (own_m3 (own_m2 (own_m1 ((q0 + (-7046029254386353131 : Int64)) + (-7046029254386353131 : Int64))))), us, vl (own_m3 (own_m2 (own_m1 (((q0 + (-7046029254386353131 : Int64)) + (-7046029254386353131 : Int64)) + (-7046029254386353131 : Int64))))), us, vl (-7046029254386353131 : Int64), us] [(.long (-7046029254386353131 : Int64)), (.long (3 : Int64)), (.long q0), (.long (own_u3 (own_u2 (own_u1 (own_m3 (own_m2 (own_m1 (((q0 + (-7046029254386353131 : Int64)) + (-7046029254386353131 : Int64)) + (-7046029254386353131 : Int64)))))))))]) _
    refine XS.lmul X8.here hx rfl (hb hby at_71) rfl ?_
    show SS p e below T8 (mkF m 72 #[vl q0, us, vr b1, vl (own_m3 (own_m2 (own_m1 (q0 + (-7046029254386353131 : Int64))))), us, vl (own_m3 (own_m2 (own_m1 ((q0 + (-7046029254386353131 : Int64)) + (-7046029254386353131 : Int64))))), us, vl (own_m3 (own_m2 (own_m1 (((q0 + (-7046029254386353131 : Int64)) + (-7046029254386353131 : Int64)) + (-7046029254386353131 : Int64))))), us, vl (-7046029254386353131 : Int64), us] [(.long ((3 : Int64) * (-7046029254386353131 : Int64))), (.long q0), (.long (own_u3 (own_u2 (own_u1 (own_m3 (own_m2 (own_m1 (((q0 + (-7046029254386353131 : Int64)) + (-7046029254386353131 : Int64)) + (-7046029254386353131 : Int64)))))))))]) _
    refine XS.ladd X8.here hx rfl (hb hby at_72) rfl ?_
    show SS p e below T8 (mkF m 73 #[vl q0, us, vr b1, vl (own_m3 (own_m2 (own_m1 (q0 + (-7046029254386353131 : Int64))))), us, vl (own_m3 (own_m2 (own_m1 ((q0 + (-7046029254386353131 : Int64)) + (-7046029254386353131 : Int64))))), us, vl (own_m3 (own_m2 (own_m1 (((q0 + (-7046029254386353131 : Int64)) + (-7046029254386353131 : Int64)) + (-7046029254386353131 : Int64))))), us, vl (-7046029254386353131 : Int64), us] [(.long (q0 + ((3 : Int64) * (-7046029254386353131 : Int64)))), (.long (own_u3 (own_u2 (own_u1 (own_m3 (own_m2 (own_m1 (((q0 + (-7046029254386353131 : Int64)) + (-7046029254386353131 : Int64)) + (-7046029254386353131 : Int64)))))))))]) _
    refine XS.lcmp X8.here hx rfl (hb hby at_73) rfl ?_
    show SS p e below T8 (mkF m 74 #[vl q0, us, vr b1, vl (own_m3 (own_m2 (own_m1 (q0 + (-7046029254386353131 : Int64))))), us, vl (own_m3 (own_m2 (own_m1 ((q0 + (-7046029254386353131 : Int64)) + (-7046029254386353131 : Int64))))), us, vl (own_m3 (own_m2 (own_m1 (((q0 + (-7046029254386353131 : Int64)) + (-7046029254386353131 : Int64)) + (-7046029254386353131 : Int64))))), us, vl (-7046029254386353131 : Int64), us] [(.int (lcmpW (own_u3 (own_u2 (own_u1 (own_m3 (own_m2 (own_m1 (((q0 + (-7046029254386353131 : Int64)) + (-7046029254386353131 : Int64)) + (-7046029254386353131 : Int64)))))))) (q0 + ((3 : Int64) * (-7046029254386353131 : Int64)))))]) _
    refine XS.ifNo X8.here hx rfl (hb hby at_74) rfl ((if0 _ _).trans (teq (own_l3 _ : (lcmpW (own_u3 (own_u2 (own_u1 (own_m3 (own_m2 (own_m1 (((q0 + (-7046029254386353131 : Int64)) + (-7046029254386353131 : Int64)) + (-7046029254386353131 : Int64)))))))) (q0 + ((3 : Int64) * (-7046029254386353131 : Int64)))) = (0 : Int32))).2) ?_
    show SS p e below T8 (mkF m 77 #[vl q0, us, vr b1, vl (own_m3 (own_m2 (own_m1 (q0 + (-7046029254386353131 : Int64))))), us, vl (own_m3 (own_m2 (own_m1 ((q0 + (-7046029254386353131 : Int64)) + (-7046029254386353131 : Int64))))), us, vl (own_m3 (own_m2 (own_m1 (((q0 + (-7046029254386353131 : Int64)) + (-7046029254386353131 : Int64)) + (-7046029254386353131 : Int64))))), us, vl (-7046029254386353131 : Int64), us] []) _
    refine XS.iconst X8.here hx rfl (hb hby at_77) ?_
    show SS p e below T8 (mkF m 78 #[vl q0, us, vr b1, vl (own_m3 (own_m2 (own_m1 (q0 + (-7046029254386353131 : Int64))))), us, vl (own_m3 (own_m2 (own_m1 ((q0 + (-7046029254386353131 : Int64)) + (-7046029254386353131 : Int64))))), us, vl (own_m3 (own_m2 (own_m1 (((q0 + (-7046029254386353131 : Int64)) + (-7046029254386353131 : Int64)) + (-7046029254386353131 : Int64))))), us, vl (-7046029254386353131 : Int64), us] [(.int (1 : Int32))]) _
    refine XS.goto X8.here hx rfl (pc0 := 78) (pc' := 82) rfl (hb hby at_78) (by decide) (by decide) ?_
    show SS p e below T8 (mkF m 82 #[vl q0, us, vr b1, vl (own_m3 (own_m2 (own_m1 (q0 + (-7046029254386353131 : Int64))))), us, vl (own_m3 (own_m2 (own_m1 ((q0 + (-7046029254386353131 : Int64)) + (-7046029254386353131 : Int64))))), us, vl (own_m3 (own_m2 (own_m1 (((q0 + (-7046029254386353131 : Int64)) + (-7046029254386353131 : Int64)) + (-7046029254386353131 : Int64))))), us, vl (-7046029254386353131 : Int64), us] [(.int (1 : Int32))]) _
    exact retN X8 hx (t := .boolean) Bd.returns (by simp) (hb hby at_82) hr
  · show Q_rm0 Z q0 h0 n0 _ T8.heap _
    rw [eh8]
    exact ⟨rfl, N8⟩
set_option maxRecDepth 65536 in
set_option maxHeartbeats 40000000 in
theorem comes_1 {Post : Tables → Env → Array Value → State → Outcome → State → Prop} (hpost : ∀ tb e args s v u, (limb_1_1.after args s (.returned v) u = true ∧ limb_1_2.after args s (.returned v) u = true ∧ True) → FrameEnd s (.returned v) u (Jvm.fieldLocs frame_1_writes args s ++ Jvm.arrayLocs frame_1_arrays args s ++ Jvm.staticLocs frame_1_statics s) 16 128 → Post tb e args s (.returned v) u) :
    ArmFor flags0 classFile x code maxLocals ret World_1 tables_1 room_1 Calls_1 rest_1 Pre_1 Post := by
  intro l hfl _ _ p e ha hc hk s m args below hf hA hF happ hP
  obtain ⟨hcalls, hrest, hpre⟩ := hP
  obtain ⟨-, -, -, hnamed, -, -, -, hat⟩ := (Spec.applies_iff hf).mp happ
  obtain ⟨hg, hn⟩ := and_e (Cond.before_iff.mp (show (Jvm.Cond.and given_1 narrow_1).before args s = true from hpre))
  obtain ⟨g1, g2⟩ := and_e hg
  obtain ⟨w0, rfl⟩ : ∃ w0 : Value, args = #[w0] := by
    have hs : args.size = 1 := by simpa [Cond.value, given_1] using g1
    obtain ⟨L⟩ := args
    match L, hs with
    | [w0], _ => exact ⟨w0, rfl⟩
  have hw := fun d (hd : d ∈ tables_1) => atoms_spec (ws := Jvm.Cond.code x code maxLocals ret :: tables_1) hat d (List.mem_cons_of_mem _ hd)
  have hfit : Fit s := fun {y c} hc i hi => by
    obtain ⟨ha, rfl⟩ := Array.getElem?_eq_some_iff.mp hc
    have q := List.all_eq_true.mp ((Array.all_eq_true_iff_forall_mem.mp hF) _ (Array.getElem_mem ha)) i (List.mem_range.mpr hi)
    simpa [Array.getElem?_eq_getElem hi] using q
  obtain ⟨i0, ei0⟩ := isL_v g2
  obtain rfl : w0 = (.long i0) := Option.some.inj ei0
  obtain ⟨n, o, h1, h2, h3, _, L, rfl, ⟨rfl, N⟩, hq⟩ := rm0 l s _ hw tables_1 i0 s.heap s.heap.size (Nat.le_refl _) p e ha hc hk s m _ below hf ((Spec.applies_iff_loose hf).mp happ).1 ⟨rfl, State.Warmed39.refl s, rfl⟩ trivial
  refine ⟨n, _, h1, h2, h3, hpost _ _ _ _ _ _ ⟨Cond.after_iff.mpr rfl, Cond.after_iff.mpr (eq_i res_at (Term.int_eval (1)) rfl), trivial⟩ ⟨hq.1, hq.2.1, (hq.2.2.sift fun y hy => Or.inr (N y hy)).mono (by decide) (by decide)⟩⟩
theorem main_1_1 : Claimed_1_1 := comes_1 fun _ _ _ _ _ _ h hF => ⟨h.1, hF⟩
theorem main_1_2 : Claimed_1_2 := comes_1 fun _ _ _ _ _ _ h hF => ⟨h.2.1, hF⟩
end Jvm.Pilot.@@N@@
namespace Jvm.Pilot.@@N@@
open Jvm Jvm.ClassFile Sem Op Lib Jvm.Free Jvm.Stand Jvm.Pilot.@@N@@.Jvm.D
/-! MADE BY PROGRAM (witnessworld.py) out of the Statement's table words and the real class files: 7 classes; the members and pool entries that the words name. The judged class is class 1, her method 1. -/
namespace start1
open Jvm.ClassFile
def u (s : String) : CpInfo := .utf8 (stringToUtf16 s)
/-- a pool by its gaps: so many unusable entries, then the entry; so many at the end -/
def gap : Nat → List CpInfo → List CpInfo
  | 0, r => r
  | n + 1, r => .unusable :: gap n r
def poolList (es : List (Nat × CpInfo)) (last : Nat) : List CpInfo := es.foldr (fun e r => gap e.1 (e.2 :: r)) (gap last [])
def pool (es : List (Nat × CpInfo)) (last : Nat) : Array CpInfo := ⟨poolList es last⟩
def fileOf (pool : Array CpInfo) (this : Nat) (attrs : Array Attribute := #[]) (ms : Array MethodInfo := #[]) (fl : Nat := 33) (sup : Nat := 0) (ifs : Array Nat := #[]) (fds : Array FieldInfo := #[]) : ClassFile where
  minorVersion := 0
  majorVersion := 65
  constantPool := pool
  accessFlags := fl
  thisClass := this
  superClass := sup
  interfaces := ifs
  fields := fds
  methods := ms
  attributes := attrs
def plain (name : String) (sup : Option ClassId) : Class where
  name := name
  kind := .ordinary
  loader := none
  accessFlags := 33
  super := sup
  interfaces := #[]
  cf := none
  fields := #[]
  methods := #[]
  instanceTypes := #[]
  staticTypes := #[]
  resolved := #[]
  callSites := []
  init := .initialized
  statics := none
  mirror := none

def pool0 : Array CpInfo := pool [(5, u "<init>"), (0, u "()V"), (1, .class_ 10), (1, u "java/lang/Object")] 113

def k0c0 : Code := { maxStack := 0, maxLocals := 1, code := object_method_1_code, exceptionTable := #[], attributes := #[] }
def k0m0 : Method := { name := "<init>", desc := "()V", sig := { parameters := [], returnType := none }, accessFlags := 1, code := some k0c0 }
/-- java/lang/Object -/
def k0 : Class := { plain "java/lang/Object" none with
  accessFlags := 33
  interfaces := #[]
  cf := some (fileOf pool0 8 #[] #[{ accessFlags := 1, nameIndex := 5, descriptorIndex := 6, attributes := #[] }] 33 0 #[] #[])
  fields := #[]
  methods := #[k0m0]
  instanceTypes := #[]
  staticTypes := #[]
  resolved := Array.replicate 124 none
  statics := none }

def pool1 : Array CpInfo := pool [(2, .class_ 4), (1, u "java/lang/Object"), (0, u "<init>"), (0, u "()V"), (0, .class_ 8), (0, u "org/quarrel/model/SeededDice"), (0, .methodref 7 10), (0, .nameAndType 5 11), (0, u "(J)V"), (0, .methodref 7 13), (0, .nameAndType 14 15), (0, u "next"), (0, u "()J"), (0, .long 11400714819323198485), (1, .methodref 19 20), (0, .class_ 21), (0, .nameAndType 22 23), (0, u "org/quarrel/model/SeededDiceNextPinLaw"), (0, u "unmix"), (0, u "(J)J"), (0, .long 2), (1, .long 3), (1, .long 3573116690164977347), (1, .long 10871156337175269513), (3, u "law"), (0, u "(J)Z")] 3

def k1m0 : Method := { name := "<init>", desc := "()V", sig := { parameters := [], returnType := none }, accessFlags := 1, code := none }
def k1c1 : Code := { maxStack := 8, maxLocals := 11, code := code, exceptionTable := #[], attributes := #[] }
def k1m1 : Method := { name := "law", desc := "(J)Z", sig := { parameters := [.long], returnType := some .boolean }, accessFlags := 9, code := some k1c1 }
def k1c2 : Code := { maxStack := 5, maxLocals := 2, code := method_3_code, exceptionTable := #[], attributes := #[] }
def k1m2 : Method := { name := "unmix", desc := "(J)J", sig := { parameters := [.long], returnType := some .long }, accessFlags := 10, code := some k1c2 }
/-- org/quarrel/model/SeededDiceNextPinLaw -/
def k1 : Class := { plain "org/quarrel/model/SeededDiceNextPinLaw" (some 0) with
  accessFlags := 49
  interfaces := #[]
  cf := some (fileOf pool1 19 #[] #[{ accessFlags := 1, nameIndex := 5, descriptorIndex := 6, attributes := #[] }, { accessFlags := 9, nameIndex := 34, descriptorIndex := 35, attributes := #[] }, { accessFlags := 10, nameIndex := 22, descriptorIndex := 23, attributes := #[] }] 49 2 #[] #[])
  fields := #[]
  methods := #[k1m0, k1m1, k1m2]
  instanceTypes := #[]
  staticTypes := #[]
  resolved := Array.replicate 39 none
  statics := none }

def pool2 : Array CpInfo := pool [(3, .methodref 4 5), (0, .class_ 6), (0, .nameAndType 7 8), (0, u "java/lang/Object"), (0, u "<init>"), (0, u "()V"), (0, .fieldref 10 11), (0, .class_ 12), (0, .nameAndType 13 14), (0, u "org/quarrel/model/SeededDice"), (0, u "state"), (0, u "J"), (2, u "next"), (0, u "()J"), (2, .long 11400714819323198485), (1, .long 13787848793156543929), (1, .long 10723151780598845931), (1, u "GAMMA"), (1, u "TOP_THREE_BITS"), (0, u "I"), (1, u "(J)V")] 7

def k2c0 : Code := { maxStack := 3, maxLocals := 3, code := prog_34_method_1_code, exceptionTable := #[], attributes := #[] }
def k2m0 : Method := { name := "<init>", desc := "(J)V", sig := { parameters := [.long], returnType := none }, accessFlags := 1, code := some k2c0 }
def k2c1 : Code := { maxStack := 5, maxLocals := 3, code := prog_34_method_3_code, exceptionTable := #[], attributes := #[] }
def k2m1 : Method := { name := "next", desc := "()J", sig := { parameters := [], returnType := some .long }, accessFlags := 0, code := some k2c1 }
/-- org/quarrel/model/SeededDice -/
def k2 : Class := { plain "org/quarrel/model/SeededDice" (some 0) with
  accessFlags := 49
  interfaces := #[]
  cf := some (fileOf pool2 10 #[] #[{ accessFlags := 1, nameIndex := 7, descriptorIndex := 32, attributes := #[] }, { accessFlags := 0, nameIndex := 17, descriptorIndex := 18, attributes := #[] }] 49 4 #[] #[{ accessFlags := 26, nameIndex := 27, descriptorIndex := 14, attributes := #[] }, { accessFlags := 26, nameIndex := 29, descriptorIndex := 30, attributes := #[] }, { accessFlags := 2, nameIndex := 13, descriptorIndex := 14, attributes := #[] }])
  fields := #[{ name := "GAMMA", type := .long, accessFlags := 26, slot := 0, constantValue := 0 }, { name := "TOP_THREE_BITS", type := .int, accessFlags := 26, slot := 1, constantValue := 0 }, { name := "state", type := .long, accessFlags := 2, slot := 0, constantValue := 0 }]
  methods := #[k2m0, k2m1]
  instanceTypes := #[.long]
  staticTypes := #[.long, .int]
  resolved := Array.replicate 40 none
  statics := none }

def pool3 : Array CpInfo := pool [(1, u "java/lang/Cloneable"), (0, .class_ 1), (0, u "java/lang/Object"), (0, .class_ 3)] 3

/-- java/lang/Cloneable -/
def k3 : Class := { plain "java/lang/Cloneable" (some 0) with
  accessFlags := 1537
  interfaces := #[]
  cf := some (fileOf pool3 2 #[] #[] 1537 4 #[] #[])
  fields := #[]
  methods := #[]
  instanceTypes := #[]
  staticTypes := #[]
  resolved := Array.replicate 8 none
  statics := none }

def pool4 : Array CpInfo := pool [(1, u "java/io/Serializable"), (0, .class_ 1), (0, u "java/lang/Object"), (0, .class_ 3)] 3

/-- java/io/Serializable -/
def k4 : Class := { plain "java/io/Serializable" (some 0) with
  accessFlags := 1537
  interfaces := #[]
  cf := some (fileOf pool4 2 #[] #[] 1537 4 #[] #[])
  fields := #[]
  methods := #[]
  instanceTypes := #[]
  staticTypes := #[]
  resolved := Array.replicate 8 none
  statics := none }

/-- the primitive byte -/
def k5 : Class := { plain "byte" none with kind := .primitive 'B', accessFlags := 0x411 }
/-- [B -/
def k6 : Class := { plain "[B" (some 0) with kind := .array 5 .byte, interfaces := #[3, 4], accessFlags := 1041 }

def heap : Heap := #[]
def classes : Array Class := #[k0, k1, k2, k3, k4, k5, k6]
def interned : List (Array UInt16 × Addr) := []
def slotsUsed : Nat := 0
def theMethod : MethodId := ⟨1, 1⟩
def args0 : Array Value := #[.long 5]
def aboutOver (below : List Frame) : State where
  vm := { classes := classes, interned := interned.toArray }
  heap := heap
  slotsUsed := slotsUsed
  threads := #[{ frames := .invoking theMethod args0 :: below }]
def below0 : List Frame := [.native { method := ⟨0, 0⟩, args := #[] }]
def about1 : State := aboutOver below0
def p0 : Program := .bare "" "" ""
def e0 : Env := launch0.env 0 0 0
theorem w_frames : about1.frames = Frame.invoking theMethod args0 :: below0 := rfl
set_option maxRecDepth 65536 in
theorem w_args : argsFit about1.vm theMethod args0 = true := by decide +kernel
set_option maxRecDepth 65536 in
theorem w_heap : heapFits about1 = true := by decide +kernel
set_option maxRecDepth 65536 in
theorem w_runnable : about1.curStatus? = some .runnable := by decide +kernel
set_option maxRecDepth 65536 in
theorem w_alone : about1.alone = true := by decide +kernel
set_option maxRecDepth 65536 in
theorem w_named : about1.methodNamed? x = some theMethod := by decide +kernel
set_option maxRecDepth 65536 in
theorem w_hears : about1.hears theMethod below0 = true := by decide +kernel
set_option maxRecDepth 65536 in
theorem w_ripe : about1.ripe theMethod args0 below0 = true := by decide +kernel
theorem w_running : about1.status = .running := rfl
set_option maxRecDepth 65536 in
theorem w_room : about1.hasRoom e0.platform room_1 = true :=
  launch0.hasRoom_least _ room_1 (by decide +kernel) (by decide +kernel) (by decide +kernel) (by decide +kernel) (by decide +kernel) (by decide +kernel)
theorem allAtoms_all (ts : List Jvm.Cond) (a : Array Jvm.Value) (st : Jvm.State) : (allAtoms ts).before a st = ts.all (fun c => c.before a st) := by
  induction ts with
  | nil => rfl
  | cons c t ih =>
    show (Jvm.Cond.and c (allAtoms t)).before a st = _
    rw [Jvm.Cond.before_and, ih, List.all_cons]
def words1 : List Jvm.Cond := Jvm.Cond.code x code maxLocals ret :: tables_1
/-- a 'code' word, met by the world's own term for the bytes: nothing is compared byte by byte -/
theorem code_word {y : MethodName} {bytes : ByteArray} {mx : Nat} {rt : Option FieldType} {a : Array Value} {s : State} {m : MethodId} {meth : Method} {c : Code} (h1 : s.methodNamed? y = some m) (h2 : s.vm.method? m = some meth) (h3 : meth.code = some c) (h4 : c.code = bytes)
    (h5 : (c.maxLocals == mx && c.exceptionTable.isEmpty && decide (c.maxStack ≤ mostOperands) && decide (meth.sig.returnType = rt) && !meth.locks && decide (parseMethodDescriptor y.desc = some meth.sig)) = true) : (Jvm.Cond.code y bytes mx rt).before a s = true := by
  simp only [Bool.and_eq_true, beq_iff_eq, Bool.not_eq_true', decide_eq_true_eq] at h5
  obtain ⟨⟨⟨⟨⟨g1, g2⟩, g3⟩, g4⟩, g5⟩, g6⟩ := h5
  simp [Cond.before, Cond.holds, Cond.value, h1, h2, h3, h4, g1, g2, g3, g4, g5, g6]
def isCode : Jvm.Cond → Bool
  | .code _ _ _ _ => true
  | _ => false
theorem all_split {L : List Jvm.Cond} {P : Jvm.Cond → Bool} (h1 : L.all (fun c => isCode c || P c) = true) (h2 : ∀ c ∈ L.filter isCode, P c = true) : L.all P = true := by
  refine List.all_eq_true.mpr fun c hc => ?_
  have h := List.all_eq_true.mp h1 c hc
  rcases Bool.eq_false_or_eq_true (isCode c) with hi | hi
  · exact h2 c (List.mem_filter.mpr ⟨hc, hi⟩)
  · simpa [hi] using h
set_option maxRecDepth 65536 in
theorem w_c0 : (Jvm.Cond.code x code maxLocals ret).before args0 about1 = true := code_word (m := ⟨1, 1⟩) (meth := k1m1) (c := k1c1) (by decide +kernel) rfl rfl rfl (by decide +kernel)
set_option maxRecDepth 65536 in
theorem w_c1 : (Jvm.Cond.code ({ cls := "org/quarrel/model/SeededDice", name := "<init>", desc := "(J)V" } : Jvm.MethodName) prog_34_method_1_code (3 : Nat) (Option.none : Option Jvm.ClassFile.FieldType)).before args0 about1 = true := code_word (m := ⟨2, 0⟩) (meth := k2m0) (c := k2c0) (by decide +kernel) rfl rfl rfl (by decide +kernel)
set_option maxRecDepth 65536 in
theorem w_c2 : (Jvm.Cond.code ({ cls := "java/lang/Object", name := "<init>", desc := "()V" } : Jvm.MethodName) object_method_1_code (1 : Nat) (Option.none : Option Jvm.ClassFile.FieldType)).before args0 about1 = true := code_word (m := ⟨0, 0⟩) (meth := k0m0) (c := k0c0) (by decide +kernel) rfl rfl rfl (by decide +kernel)
set_option maxRecDepth 65536 in
theorem w_c3 : (Jvm.Cond.code ({ cls := "org/quarrel/model/SeededDice", name := "next", desc := "()J" } : Jvm.MethodName) prog_34_method_3_code (3 : Nat) (Option.some Jvm.ClassFile.FieldType.long)).before args0 about1 = true := code_word (m := ⟨2, 1⟩) (meth := k2m1) (c := k2c1) (by decide +kernel) rfl rfl rfl (by decide +kernel)
set_option maxRecDepth 65536 in
theorem w_c4 : (Jvm.Cond.code ({ cls := "org/quarrel/model/SeededDiceNextPinLaw", name := "unmix", desc := "(J)J" } : Jvm.MethodName) method_3_code (2 : Nat) (Option.some Jvm.ClassFile.FieldType.long)).before args0 about1 = true := code_word (m := ⟨1, 2⟩) (meth := k1m2) (c := k1c2) (by decide +kernel) rfl rfl rfl (by decide +kernel)
def codes1 : List Jvm.Cond := [Jvm.Cond.code x code maxLocals ret, Jvm.Cond.code ({ cls := "org/quarrel/model/SeededDice", name := "<init>", desc := "(J)V" } : Jvm.MethodName) prog_34_method_1_code (3 : Nat) (Option.none : Option Jvm.ClassFile.FieldType), Jvm.Cond.code ({ cls := "java/lang/Object", name := "<init>", desc := "()V" } : Jvm.MethodName) object_method_1_code (1 : Nat) (Option.none : Option Jvm.ClassFile.FieldType), Jvm.Cond.code ({ cls := "org/quarrel/model/SeededDice", name := "next", desc := "()J" } : Jvm.MethodName) prog_34_method_3_code (3 : Nat) (Option.some Jvm.ClassFile.FieldType.long), Jvm.Cond.code ({ cls := "org/quarrel/model/SeededDiceNextPinLaw", name := "unmix", desc := "(J)J" } : Jvm.MethodName) method_3_code (2 : Nat) (Option.some Jvm.ClassFile.FieldType.long)]
set_option maxRecDepth 65536 in
theorem codes_eq : words1.filter isCode = codes1 := rfl
theorem w_codes : ∀ c ∈ words1.filter isCode, c.before args0 about1 = true := by
  rw [codes_eq]
  intro c hc
  simp only [codes1, List.mem_cons, List.not_mem_nil, or_false] at hc
  rcases hc with rfl | rfl | rfl | rfl | rfl
  · exact w_c0
  · exact w_c1
  · exact w_c2
  · exact w_c3
  · exact w_c4
set_option maxRecDepth 65536 in
theorem w_t1 : (words1.take 24).all (fun c => isCode c || c.before args0 about1) = true := by decide +kernel
set_option maxRecDepth 65536 in
theorem w_t2 : (words1.drop 24).all (fun c => isCode c || c.before args0 about1) = true := by decide +kernel
theorem w_tables : (allAtoms (Jvm.Cond.code x code maxLocals ret :: tables_1)).before args0 about1 = true := by
  rw [allAtoms_all]
  show words1.all (fun c => c.before args0 about1) = true
  refine all_split ?_ w_codes
  rw [← List.take_append_drop 24 words1, List.all_append, w_t1, w_t2]
  rfl
set_option maxRecDepth 65536 in
theorem w_case : (Jvm.Cond.and given_1 narrow_1).before args0 about1 = true := by decide +kernel
theorem w_applies : (headSpec (Jvm.Cond.code x code maxLocals ret :: tables_1) room_1).applies x e0.platform about1 = true :=
  (Spec.applies_iff w_frames).mpr ⟨w_running, w_runnable, w_alone, w_named, w_hears, w_ripe, w_room, w_tables⟩
theorem atStart : AtStart classFile x code maxLocals ret World_1 tables_1 room_1 Calls_1 rest_1 Pre_1 launch0 p0 e0 about1 theMethod args0 below0 :=
  ⟨lists_1, trivial, launch0.admits_env _ _ _, launch0.least_env, fairChoices_fair.cas, fairChoices_fair.clock, w_frames, w_args, w_heap, w_applies, trivial, trivial, w_case⟩
end start1
theorem witness_1 : WitnessClaimed_1 := ⟨start1.p0, start1.e0, start1.about1, start1.theMethod, start1.args0, start1.below0, start1.atStart⟩
end Jvm.Pilot.@@N@@
