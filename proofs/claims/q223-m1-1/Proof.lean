import JvmDerived
import JvmDerived.Pilot.@@N@@Statement
import JvmDerived.Pilot.@@N@@Code
set_option linter.unusedVariables false
set_option linter.unusedSimpArgs false
namespace Jvm.RoadKit
open Sem ClassFile Op Lib Jvm.Stand Jvm.Free Jvm.LawKit
section New
variable {p : Program} {l : Launch} {e : Env} {R : Room} {s : State} {m : MethodId} {args : Array Value} {below : List Frame} {meth : Method} {c : Code} {T : State} {locs : List Loc} {cells slots : Nat}
theorem retI (X : Stand p l e R s m args below meth c T locs cells slots) (hx : p.tables.exec = Jvm.exec) {pc : Nat} {Ls : Array Slot} {z : Int32} {rest : List Value} (hret : meth.sig.returnType = some .int) (hd : decode c.code pc = .ok (.ireturn, 1)) {fs : List Frame}
    (hl : ∀ (f : JFrame) (acts : List Action), f.method = m → f.locked = none → f.entered = [] → (doReturn e (T.setTop f) acts (some (.int z))).1 = T.setFrames fs) : Steps p.tables e below (T.setTop (mkF m pc Ls (.int z :: rest))) (T.setFrames fs) := by
  have hm' : T.vm.method? m = some meth := X.method'
  have hn : narrow .int (.int z) = .int z := rfl
  show Steps p.tables e below (T.setTop { method := m, pc := pc, locals := Ls, stack := _ :: rest, locked := none }) _
  jvm_step X.here [X.here.top, hx, hd, hm', hret, hn]
  first | (intro acts; rw [hl _ acts rfl rfl rfl]) | rw [hl _ _ rfl rfl rfl]
  exact Steps.refl _
end New
end Jvm.RoadKit
namespace Jvm.Pilot.@@N@@
open Jvm Jvm.ClassFile Sem Op Lib Jvm.Free Jvm.Stand Jvm.LawKit Jvm.RoadKit Bundle Jvm.Pilot.@@N@@.Jvm.D
abbrev SS (p : Program) (e : Env) (below : List Frame) (T : State) (g : JFrame) (t : State) : Prop := Steps p.tables e below (T.setTop g) t
abbrev vi (x : Int32) : Slot := .val (.int x)
abbrev vl (x : Int64) : Slot := .val (.long x)
abbrev vr (x : Addr) : Slot := .val (.ref x)
abbrev vd (x : UInt64) : Slot := .val (.double x)
abbrev uu : Slot := .unset
abbrev us : Slot := .second
theorem wd {a0 : Array Value} {Z : State} (hw : ∀ d ∈ tables_1, d.before a0 Z = true) (i : Nat) {d : Jvm.Cond} (h : tables_1[i]? = some d) : d.before a0 Z = true := hw _ (List.mem_of_getElem? h)
theorem own_hk {T : State} {h : Heap} {k : Nat} (e : T.heap = h) (q : k ≤ h.size) : k ≤ T.heap.size := e ▸ q
theorem own_reb {p : Program} {l : Launch} {e : Env} {R : Room} {s : State} {m : MethodId} {args : Array Value} {below : List Frame} {meth : Method} {c : Code} {T : State} {L L' : List Loc} {k k' n n' : Nat} (X : Stand p l e R s m args below meth c T L k n) (hl : L = L') (hk : k = k') (hn : n = n') : Stand p l e R s m args below meth c T L' k' n' := by
  subst hl hk hn; exact X
theorem own_szW {h h' : Heap} {a : Addr} {sl : Nat} {v : Value} {k : Nat} (W : Wr h h' a sl v) (q : k ≤ h.size) : k ≤ h'.size := by rw [W.size]; exact q
theorem own_at {T : State} {h : Heap} {a : Addr} {c : Cell} (e : T.heap = h) (q : h[a]? = some c) : T.heap[a]? = some c := e ▸ q
def own_u2 (x y : Int32) : Int32 := ((x &&& (255 : Int32)) <<< ((8 : Int32) &&& 31)) ||| (y &&& (255 : Int32))
def own_u4 (x y x2 y2 : Int32) : Int32 := ((own_u2 x y) <<< ((16 : Int32) &&& 31)) ||| (own_u2 x2 y2)
theorem own_u2v (x y : Int32) : (own_u2 x y).toInt = x.toInt % 256 * 256 + y.toInt % 256 := by
  have h1 := c_mask x (255 : Int32) 8 (by decide) (by decide)
  have h2 := c_mask y (255 : Int32) 8 (by decide) (by decide)
  have h3 := c_ishl (x &&& (255 : Int32)) (8 : Int32) 8 (by decide)
  have h3r := rng32 ((x &&& (255 : Int32)) <<< ((8 : Int32) &&& 31))
  have h4 := c_or ((x &&& (255 : Int32)) <<< ((8 : Int32) &&& 31)) (y &&& (255 : Int32)) 8 (by decide) 256 (by decide) (by omega) (by omega) (by omega)
  have h5 := rng32 (((x &&& (255 : Int32)) <<< ((8 : Int32) &&& 31)) ||| (y &&& (255 : Int32)))
  rw [own_u2]
  omega
theorem own_nb (x : Int32) : (nar .byte (x.toInt8.toInt32)).toInt % 256 = x.toInt % 256 := by
  have h1 := c_i2b x
  have h2 := c_i2b x.toInt8.toInt32
  show (x.toInt8.toInt32.toInt8.toInt32).toInt % 256 = _
  omega
theorem own_hi (x : Int32) : (nar .byte ((((x).toUInt32 >>> ((8 : Int32) &&& 31).toUInt32).toInt32).toInt8.toInt32)).toInt % 256 = (x.toInt % 4294967296) / 256 % 256 := by
  rw [own_nb, c_iushr x (8 : Int32) 8 (by decide) (by decide)]
  rfl
theorem own_a (x : Int32) : own_u2 (nar .byte (((x.toUInt32 >>> ((8 : Int32) &&& 31).toUInt32).toInt32).toInt8.toInt32)) (nar .byte (x.toInt8.toInt32)) = (x &&& (65535 : Int32)) := by
  apply Int32.toInt_inj.mp
  rw [own_u2v, own_hi, own_nb, c_mask x (65535 : Int32) 16 (by decide) (by decide)]
  have := rng32 x
  omega
theorem own_b (x y : Int32) : own_u2 (nar .byte (x.toInt8.toInt32)) (nar .byte (((y.toUInt32 >>> ((8 : Int32) &&& 31).toUInt32).toInt32).toInt8.toInt32)) = (((x &&& (255 : Int32)) * (256 : Int32)) + (((y.toUInt32 >>> ((8 : Int32) &&& 31).toUInt32).toInt32) &&& (255 : Int32))) := by
  apply Int32.toInt_inj.mp
  rw [own_u2v, own_hi, own_nb]
  have h1 := c_mask x (255 : Int32) 8 (by decide) (by decide)
  have h2 := c_mask ((y.toUInt32 >>> ((8 : Int32) &&& 31).toUInt32).toInt32) (255 : Int32) 8 (by decide) (by decide)
  have h3 := c_iushr y (8 : Int32) 8 (by decide) (by decide)
  have h4 := c_imul (x &&& (255 : Int32)) (256 : Int32)
  have h4r := rng32 ((x &&& (255 : Int32)) * (256 : Int32))
  have h5 := c_iadd ((x &&& (255 : Int32)) * (256 : Int32)) (((y.toUInt32 >>> ((8 : Int32) &&& 31).toUInt32).toInt32) &&& (255 : Int32))
  have h5r := rng32 (((x &&& (255 : Int32)) * (256 : Int32)) + (((y.toUInt32 >>> ((8 : Int32) &&& 31).toUInt32).toInt32) &&& (255 : Int32)))
  have e : ((256 : Int32)).toInt = 256 := by decide
  rw [e] at h4
  rw [h3] at h2
  omega
theorem own_m (x : Int32) (h0 : 0 ≤ x.toInt) (h1 : x.toInt < 70) : own_u2 (nar .byte (((x.toUInt32 >>> ((8 : Int32) &&& 31).toUInt32).toInt32).toInt8.toInt32)) (nar .byte (x.toInt8.toInt32)) = x := by
  apply Int32.toInt_inj.mp
  rw [own_u2v, own_hi, own_nb]
  omega
theorem own_um (x : Int32) (h0 : 0 ≤ x.toInt) (h1 : x.toInt < 70) : ¬ ((69 : Int32) < own_u2 (nar .byte (((x.toUInt32 >>> ((8 : Int32) &&& 31).toUInt32).toInt32).toInt8.toInt32)) (nar .byte (x.toInt8.toInt32))) := by
  rw [own_m x h0 h1, Int32.lt_iff_toInt_lt]
  have : ((69 : Int32)).toInt = 69 := by decide
  omega
theorem own_major (x : Int32) : 0 ≤ ((x &&& (2147483647 : Int32)) % (70 : Int32)).toInt ∧ ((x &&& (2147483647 : Int32)) % (70 : Int32)).toInt < 70 := by
  have h2 := (c_andS x (2147483647 : Int32)).2.2 (by decide)
  have q := (c_irem (x &&& (2147483647 : Int32)) (70 : Int32) 70 (by decide)).1 h2
  omega
theorem ef_0 (m : MethodId) (x0 : Addr) : entryFrame m #[(.ref x0)] 1 = mkF m 0 #[vr x0] [] := by first | (simp [entryFrame, mkF, argsToLocals, Value.category]; done) | rfl
theorem pn_0 : plainName "com/example/bean_wiring/beanwiring/internal/ClassFile" = true := by first | (simp [plainName, overriddenIn]; done) | decide +kernel
theorem d1_0 : decode prog_88_method_1_code 0 = .ok (.aload_n 0, 1) := by decide +kernel
theorem d1_1 : decode prog_88_method_1_code 1 = .ok (.invokespecial 1, 3) := by decide +kernel
theorem d1_4 : decode prog_88_method_1_code 4 = .ok (.aload_n 0, 1) := by decide +kernel
theorem d1_5 : decode prog_88_method_1_code 5 = .ok (.iconst 0, 1) := by decide +kernel
theorem d1_6 : decode prog_88_method_1_code 6 = .ok (.newarray .int, 2) := by decide +kernel
theorem d1_8 : decode prog_88_method_1_code 8 = .ok (.putfield 7, 3) := by decide +kernel
theorem d1_11 : decode prog_88_method_1_code 11 = .ok (.return_, 1) := by decide +kernel
def Q_rmI (Z : State) (r0 : Addr) (h0 : Heap) (n0 : Nat) (v : Option Value) (h : Heap) (L : List Loc) : Prop := ∃ (en : Addr), ∃ (ke : ClassId), (v = none ∧ Fr n0 L ∧ Keep h0 h [r0] ∧ Exa Z h r0 "com/example/bean_wiring/beanwiring/internal/ClassFile" ∧ Fld Z h r0 "com/example/bean_wiring/beanwiring/internal/ClassFile" "bytes" "[B" .null ∧ Fld Z h r0 "com/example/bean_wiring/beanwiring/internal/ClassFile" "length" "I" (.int (0 : Int32)) ∧ Fld Z h r0 "com/example/bean_wiring/beanwiring/internal/ClassFile" "count" "I" (.int (0 : Int32)) ∧ Fld Z h r0 "com/example/bean_wiring/beanwiring/internal/ClassFile" "header" "I" (.int (0 : Int32)) ∧ Fld Z h r0 "com/example/bean_wiring/beanwiring/internal/ClassFile" "entries" "[I" (.ref en) ∧ h0.size ≤ en ∧ Arv Z h en ke .int (0 : Int32) [] (.int (0 : Int32)))
set_option maxRecDepth 65536 in
set_option maxHeartbeats 40000000 in
theorem rmI (l : Launch) (Z : State) (a0 : Array Value) (hw : ∀ d ∈ tables_1, d.before a0 Z = true) (ws : List Jvm.Cond) (r0 : Addr) (h0 : Heap) (n0 : Nat) (Z0 : n0 ≤ h0.size) (uE : Exa Z h0 r0 "com/example/bean_wiring/beanwiring/internal/ClassFile") (u_bytes : Fld Z h0 r0 "com/example/bean_wiring/beanwiring/internal/ClassFile" "bytes" "[B" .null) (u_length : Fld Z h0 r0 "com/example/bean_wiring/beanwiring/internal/ClassFile" "length" "I" (.int (0 : Int32))) (u_count : Fld Z h0 r0 "com/example/bean_wiring/beanwiring/internal/ClassFile" "count" "I" (.int (0 : Int32))) (u_header : Fld Z h0 r0 "com/example/bean_wiring/beanwiring/internal/ClassFile" "header" "I" (.int (0 : Int32))) (u_entries : Fld Z h0 r0 "com/example/bean_wiring/beanwiring/internal/ClassFile" "entries" "[I" .null) (ug : n0 ≤ r0) :
    MetFree l (⟨"com/example/bean_wiring/beanwiring/internal/ClassFile", "<init>", "()V"⟩ : MethodName) (head1 (Jvm.Cond.code (⟨"com/example/bean_wiring/beanwiring/internal/ClassFile", "<init>", "()V"⟩ : MethodName) prog_88_method_1_code 1 none :: ws) ({ frames := 1, cells := 1, slots := 0, locals := 12 } : Room)) (fun a U => a = #[(.ref r0)] ∧ Z.Warmed39 U.vm ∧ U.heap = h0) (fun _ _ _ _ _ => True) (fun _ U o U' => ∃ v L, o = .returned v ∧ Q_rmI Z r0 h0 n0 v U'.heap L ∧ FrameEnd U o U' L ({ frames := 1, cells := 1, slots := 0, locals := 12 } : Room).cells ({ frames := 1, cells := 1, slots := 0, locals := 12 } : Room).slots) := by
  refine MetFree.of_bodySF (plainFor_of_name pn_0) hisR ?_
  intro p e s m args below meth c s₁ Bd hml0 hP hK
  obtain ⟨rfl, hZ, hh⟩ := hP
  have hx := Bd.exec
  have hby := Bd.bytes
  have hml : c.maxLocals = 1 := hml0
  have hown : s.vm.findClass "com/example/bean_wiring/beanwiring/internal/ClassFile" = some m.cls := findClass_of_methodNamed Bd.named
  have hnm := (name_of_methodNamed Bd.named Bd.method).1
  have X0 : Stand p l e ({ frames := 1, cells := 1, slots := 0, locals := 12 } : Room) s m #[(.ref r0)] below meth c s₁ [] 0 0 := Stand.of_body Bd
  have e0 : s₁.heap = h0 := by rw [← hh, Bd.state]; rfl
  have N0 := Fr.nil n0
  have pre0 : ∀ t, Steps p.tables e below (s₁.setTop (mkF m 0 #[vr r0] [])) t → Steps p.tables e below (s₁.setTop (entryFrame m #[(.ref r0)] 1)) t := fun t k => castTop (ef_0 m r0) k
  obtain ⟨T1, X1, e1, st1⟩ := initO X0 hx hZ hown (wd hw 8 rfl) (wd hw 9 rfl) (wd hw 10 rfl) e0 (g := (mkF m 1 #[vr r0] [(.ref r0)])) rfl (by rw [hml]; rfl) rfl (hb hby d1_1) (by decide) (W := 0) (by show 2 * 0 + _ ≤ _; exact Nat.le_of_eq rfl) (by decide)
  obtain ⟨T2, h2, k2, X2, e2, E2, A2, AX2, st2⟩ := newPE X1 hx hZ (wd hw 11 rfl) e1 (g := (mkF m 6 #[vr r0] [(.int (0 : Int32)), (.ref r0)])) rfl (hb hby d1_6) rfl (by decide) (cap := 0) (by decide) (by decide) (by decide) (by decide) (ad := "[I") (by decide)
  obtain ⟨b2, g2⟩ : ∃ z, z = h0.size := ⟨_, rfl⟩
  rw [← g2] at A2 AX2 st2
  have ne_r0_b2 : r0 ≠ b2 := Nat.ne_of_lt (Nat.lt_of_lt_of_le uE.lt (Nat.le_of_eq g2.symm))
  have V2 : Arv Z h2 b2 k2 .int (0 : Int32) [] (.int (0 : Int32)) := (Arv.new A2 (by decide))
  have g_b2 : n0 ≤ b2 := Nat.le_trans Z0 (Nat.le_of_eq g2.symm)
  have sz_b2 : h0.size ≤ b2 := Nat.le_trans (Keep.refl h0 [r0]).1 (Nat.le_of_eq g2.symm)
  have K2 : Keep h0 h2 [r0] := (Keep.refl h0 [r0]).ext E2
  have Z2 : n0 ≤ h2.size := Nat.le_trans Z0 E2.1
  have c4 := (uE.ext E2)
  have c5 := (u_entries.ext E2)
  obtain ⟨T3, h3, X3, e3, W3, st3⟩ := putF X2 hx hZ hown (host := "") (Or.inl (wd hw 12 rfl)) Via.refl e2 c5 c4 (Or.inl (wd hw 13 rfl)) (wd hw 3 rfl) (ty := (.array .int)) (by decide) rfl rfl (g := (mkF m 8 #[vr r0] [(.ref b2), (.ref r0)])) rfl rfl (hb hby d1_8)
  have Fw3 := c5.same W3
  have N3 := Fr.snoc X3 N0 ug
  have K3 : Keep h0 h3 [r0] := K2.wr W3 (Or.inl (List.mem_of_getElem? (i := 0) rfl))
  have Z3 : n0 ≤ h3.size := by rw [W3.size]; exact Z2
  have c6 := (c4.wr W3)
  have c7 := ((u_bytes.ext E2).other W3 (Or.inr (slot_ne (Or.inl (wd hw 20 rfl)) (Or.inl (wd hw 13 rfl)) (by decide) (t := (.array .byte)) (t' := (.array .int)) (by decide) (by decide))))
  have c8 := ((u_length.ext E2).other W3 (Or.inr (slot_ne (Or.inl (wd hw 22 rfl)) (Or.inl (wd hw 13 rfl)) (by decide) (t := .int) (t' := (.array .int)) (by decide) (by decide))))
  have c9 := ((u_count.ext E2).other W3 (Or.inr (slot_ne (Or.inl (wd hw 24 rfl)) (Or.inl (wd hw 13 rfl)) (by decide) (t := .int) (t' := (.array .int)) (by decide) (by decide))))
  have c10 := ((u_header.ext E2).other W3 (Or.inr (slot_ne (Or.inl (wd hw 37 rfl)) (Or.inl (wd hw 13 rfl)) (by decide) (t := .int) (t' := (.array .int)) (by decide) (by decide))))
  have c11 := (V2.other W3 (Ne.symm ne_r0_b2))
  obtain ⟨fs, hr, hrun, hended, hW, hsame⟩ := X3.leave (v := none) (fun _ => rfl)
  refine ⟨_, _, pre0 _ ?_, hrun, hended, _, _, rfl, ?_, ⟨_, rfl⟩, hW, hsame.mono (by decide) (by decide)⟩
  · show SS p e below s₁ (mkF m 0 #[vr r0] []) _
    refine XS.aloadN X0.here hx rfl (hb hby d1_0) rfl rfl ?_
    show SS p e below s₁ (mkF m 1 #[vr r0] [(.ref r0)]) _
    refine st1 _ ?_
    show SS p e below T1 (mkF m 4 #[vr r0] []) _
    refine XS.aloadN X1.here hx rfl (hb hby d1_4) rfl rfl ?_
    show SS p e below T1 (mkF m 5 #[vr r0] [(.ref r0)]) _
    refine XS.iconst X1.here hx rfl (hb hby d1_5) ?_
    show SS p e below T1 (mkF m 6 #[vr r0] [(.int (0 : Int32)), (.ref r0)]) _
    refine st2 _ ?_
    show SS p e below T2 (mkF m 8 #[vr r0] [(.ref b2), (.ref r0)]) _
    refine st3 _ ?_
    show SS p e below T3 (mkF m 11 #[vr r0] []) _
    exact X3.returnOut hx Bd.returns (hb hby d1_11) hr
  · show Q_rmI Z r0 h0 n0 _ T3.heap _
    rw [e3]
    exact ⟨b2, k2, rfl, N3, K3, c6, c7, c8, c9, c10, Fw3, sz_b2, c11⟩
theorem ef_1 (m : MethodId) (x0 : Addr) (x1 : Int32) : entryFrame m #[(.ref x0), (.int x1)] 2 = mkF m 0 #[vr x0, vi x1] [] := by first | (simp [entryFrame, mkF, argsToLocals, Value.category]; done) | rfl
theorem d5_0 : decode prog_88_method_8_code 0 = .ok (.aload_n 0, 1) := by decide +kernel
theorem d5_1 : decode prog_88_method_8_code 1 = .ok (.getfield 13, 3) := by decide +kernel
theorem d5_4 : decode prog_88_method_8_code 4 = .ok (.iload_n 1, 1) := by decide +kernel
theorem d5_5 : decode prog_88_method_8_code 5 = .ok (.baload, 1) := by decide +kernel
theorem d5_6 : decode prog_88_method_8_code 6 = .ok (.sipush 255, 3) := by decide +kernel
theorem d5_9 : decode prog_88_method_8_code 9 = .ok (.iand, 1) := by decide +kernel
theorem d5_10 : decode prog_88_method_8_code 10 = .ok (.bipush 8, 2) := by decide +kernel
theorem d5_12 : decode prog_88_method_8_code 12 = .ok (.ishl, 1) := by decide +kernel
theorem d5_13 : decode prog_88_method_8_code 13 = .ok (.aload_n 0, 1) := by decide +kernel
theorem d5_14 : decode prog_88_method_8_code 14 = .ok (.getfield 13, 3) := by decide +kernel
theorem d5_17 : decode prog_88_method_8_code 17 = .ok (.iload_n 1, 1) := by decide +kernel
theorem d5_18 : decode prog_88_method_8_code 18 = .ok (.iconst 1, 1) := by decide +kernel
theorem d5_19 : decode prog_88_method_8_code 19 = .ok (.iadd, 1) := by decide +kernel
theorem d5_20 : decode prog_88_method_8_code 20 = .ok (.baload, 1) := by decide +kernel
theorem d5_21 : decode prog_88_method_8_code 21 = .ok (.sipush 255, 3) := by decide +kernel
theorem d5_24 : decode prog_88_method_8_code 24 = .ok (.iand, 1) := by decide +kernel
theorem d5_25 : decode prog_88_method_8_code 25 = .ok (.ior, 1) := by decide +kernel
theorem d5_26 : decode prog_88_method_8_code 26 = .ok (.ireturn, 1) := by decide +kernel
def Q_rmU2 (Z : State) (r0 : Addr) (p1 : Int32) (rb : Addr) (kb : ClassId) (zb : Int32) (vs : List Value) (dv : Value) (x : Int32) (y : Int32) (h0 : Heap) (n0 : Nat) (v : Option Value) (h : Heap) (L : List Loc) : Prop := (v = some (.int (own_u2 x y)) ∧ Fr n0 L ∧ h = h0)
set_option maxRecDepth 65536 in
set_option maxHeartbeats 40000000 in
theorem rmU2 (l : Launch) (Z : State) (a0 : Array Value) (hw : ∀ d ∈ tables_1, d.before a0 Z = true) (ws : List Jvm.Cond) (r0 : Addr) (p1 : Int32) (rb : Addr) (kb : ClassId) (zb : Int32) (vs : List Value) (dv : Value) (x : Int32) (y : Int32) (h0 : Heap) (n0 : Nat) (Z0 : n0 ≤ h0.size) (uF : Fld Z h0 r0 "com/example/bean_wiring/beanwiring/internal/ClassFile" "bytes" "[B" (.ref rb)) (uV : Arv Z h0 rb kb .byte zb vs dv) (ui1 : ¬ p1 < 0 ∧ p1 < zb) (ua1 : vs.getD (p1).toNatClampNeg dv = (.int x)) (ui2 : ¬ (p1 + (1 : Int32)) < 0 ∧ (p1 + (1 : Int32)) < zb) (ua2 : vs.getD ((p1 + (1 : Int32))).toNatClampNeg dv = (.int y)) :
    MetFree l (⟨"com/example/bean_wiring/beanwiring/internal/ClassFile", "u2", "(I)I"⟩ : MethodName) (head1 (Jvm.Cond.code (⟨"com/example/bean_wiring/beanwiring/internal/ClassFile", "u2", "(I)I"⟩ : MethodName) prog_88_method_8_code 2 (some .int) :: ws) ({ frames := 0, cells := 0, slots := 0, locals := 0 } : Room)) (fun a U => a = #[(.ref r0), (.int p1)] ∧ Z.Warmed39 U.vm ∧ U.heap = h0) (fun _ _ _ _ _ => True) (fun _ U o U' => ∃ v L, o = .returned v ∧ Q_rmU2 Z r0 p1 rb kb zb vs dv x y h0 n0 v U'.heap L ∧ FrameEnd U o U' L ({ frames := 0, cells := 0, slots := 0, locals := 0 } : Room).cells ({ frames := 0, cells := 0, slots := 0, locals := 0 } : Room).slots) := by
  refine MetFree.of_bodySF (plainFor_of_name pn_0) hisR ?_
  intro p e s m args below meth c s₁ Bd hml0 hP hK
  obtain ⟨rfl, hZ, hh⟩ := hP
  have hx := Bd.exec
  have hby := Bd.bytes
  have hml : c.maxLocals = 2 := hml0
  have hown : s.vm.findClass "com/example/bean_wiring/beanwiring/internal/ClassFile" = some m.cls := findClass_of_methodNamed Bd.named
  have hnm := (name_of_methodNamed Bd.named Bd.method).1
  have X0 : Stand p l e ({ frames := 0, cells := 0, slots := 0, locals := 0 } : Room) s m #[(.ref r0), (.int p1)] below meth c s₁ [] 0 0 := Stand.of_body Bd
  have e0 : s₁.heap = h0 := by rw [← hh, Bd.state]; rfl
  have N0 := Fr.nil n0
  have pre0 : ∀ t, Steps p.tables e below (s₁.setTop (mkF m 0 #[vr r0, vi p1] [])) t → Steps p.tables e below (s₁.setTop (entryFrame m #[(.ref r0), (.int p1)] 2)) t := fun t k => castTop (ef_1 m r0 p1) k
  obtain ⟨T1, X1, e1, st1⟩ := getF X0 hx hZ hown (host := "") (Or.inl (wd hw 19 rfl)) Via.refl e0 uF (g := (mkF m 1 #[vr r0, vi p1] [(.ref r0)])) rfl rfl (hb hby d5_1)
  obtain ⟨cl2, Ar2, q2, S2, Nn2, H2, G2⟩ := (id uV)
  have hin2 : ¬ (p1 < 0 ∨ cl2.slots.size ≤ (p1).toNatClampNeg) := inb_of S2 ui1
  have hat2 : cl2.slots[(p1).toNatClampNeg]? = some (.int x) := H2.at hin2 ua1
  obtain ⟨T3, X3, e3, st3⟩ := getF X1 hx hZ hown (host := "") (Or.inl (wd hw 19 rfl)) Via.refl e1 uF (g := (mkF m 14 #[vr r0, vi p1] [(.ref r0), (.int ((x &&& (255 : Int32)) <<< ((8 : Int32) &&& 31)))])) rfl rfl (hb hby d5_14)
  obtain ⟨cl4, Ar4, q4, S4, Nn4, H4, G4⟩ := (id uV)
  have hin4 : ¬ ((p1 + (1 : Int32)) < 0 ∨ cl4.slots.size ≤ ((p1 + (1 : Int32))).toNatClampNeg) := inb_of S4 ui2
  have hat4 : cl4.slots[((p1 + (1 : Int32))).toNatClampNeg]? = some (.int y) := H4.at hin4 ua2
  obtain ⟨fs, hr, hrun, hended, hW, hsame⟩ := X3.leave (v := some (.int (own_u2 x y))) (fun h => by rw [Bd.returns] at h; cases h)
  refine ⟨_, _, pre0 _ ?_, hrun, hended, _, _, rfl, ?_, ⟨_, rfl⟩, hW, hsame.mono (by decide) (by decide)⟩
  · show SS p e below s₁ (mkF m 0 #[vr r0, vi p1] []) _
    refine XS.aloadN X0.here hx rfl (hb hby d5_0) rfl rfl ?_
    show SS p e below s₁ (mkF m 1 #[vr r0, vi p1] [(.ref r0)]) _
    refine st1 _ ?_
    show SS p e below T1 (mkF m 4 #[vr r0, vi p1] [(.ref rb)]) _
    refine XS.iloadN X1.here hx rfl (hb hby d5_4) rfl ?_
    show SS p e below T1 (mkF m 5 #[vr r0, vi p1] [(.int p1), (.ref rb)]) _
    refine X1.baloadBytes hx (j := p1) (v := (.int x)) (own_at e1 Ar2.1) (State.isArrayOf_alike hZ.alike Ar2.2.1) Ar2.2.2 hin2 hat2 (g := (mkF m 5 #[vr r0, vi p1] [(.int p1), (.ref rb)])) rfl rfl (hb hby d5_5) _ ?_
    show SS p e below T1 (mkF m 6 #[vr r0, vi p1] [(.int x)]) _
    refine XS.sipush X1.here hx rfl (hb hby d5_6) ?_
    show SS p e below T1 (mkF m 9 #[vr r0, vi p1] [(.int (255 : Int32)), (.int x)]) _
    refine XS.iand X1.here hx rfl (hb hby d5_9) rfl ?_
    show SS p e below T1 (mkF m 10 #[vr r0, vi p1] [(.int (x &&& (255 : Int32)))]) _
    refine XS.bipush X1.here hx rfl (hb hby d5_10) ?_
    show SS p e below T1 (mkF m 12 #[vr r0, vi p1] [(.int (8 : Int32)), (.int (x &&& (255 : Int32)))]) _
    refine XS.ishl X1.here hx rfl (hb hby d5_12) rfl ?_
    show SS p e below T1 (mkF m 13 #[vr r0, vi p1] [(.int ((x &&& (255 : Int32)) <<< ((8 : Int32) &&& 31)))]) _
    refine XS.aloadN X1.here hx rfl (hb hby d5_13) rfl rfl ?_
    show SS p e below T1 (mkF m 14 #[vr r0, vi p1] [(.ref r0), (.int ((x &&& (255 : Int32)) <<< ((8 : Int32) &&& 31)))]) _
    refine st3 _ ?_
    show SS p e below T3 (mkF m 17 #[vr r0, vi p1] [(.ref rb), (.int ((x &&& (255 : Int32)) <<< ((8 : Int32) &&& 31)))]) _
    refine XS.iloadN X3.here hx rfl (hb hby d5_17) rfl ?_
    show SS p e below T3 (mkF m 18 #[vr r0, vi p1] [(.int p1), (.ref rb), (.int ((x &&& (255 : Int32)) <<< ((8 : Int32) &&& 31)))]) _
    refine XS.iconst X3.here hx rfl (hb hby d5_18) ?_
    show SS p e below T3 (mkF m 19 #[vr r0, vi p1] [(.int (1 : Int32)), (.int p1), (.ref rb), (.int ((x &&& (255 : Int32)) <<< ((8 : Int32) &&& 31)))]) _
    refine XS.iadd X3.here hx rfl (hb hby d5_19) rfl ?_
    show SS p e below T3 (mkF m 20 #[vr r0, vi p1] [(.int (p1 + (1 : Int32))), (.ref rb), (.int ((x &&& (255 : Int32)) <<< ((8 : Int32) &&& 31)))]) _
    refine X3.baloadBytes hx (j := (p1 + (1 : Int32))) (v := (.int y)) (own_at e3 Ar4.1) (State.isArrayOf_alike hZ.alike Ar4.2.1) Ar4.2.2 hin4 hat4 (g := (mkF m 20 #[vr r0, vi p1] [(.int (p1 + (1 : Int32))), (.ref rb), (.int ((x &&& (255 : Int32)) <<< ((8 : Int32) &&& 31)))])) rfl rfl (hb hby d5_20) _ ?_
    show SS p e below T3 (mkF m 21 #[vr r0, vi p1] [(.int y), (.int ((x &&& (255 : Int32)) <<< ((8 : Int32) &&& 31)))]) _
    refine XS.sipush X3.here hx rfl (hb hby d5_21) ?_
    show SS p e below T3 (mkF m 24 #[vr r0, vi p1] [(.int (255 : Int32)), (.int y), (.int ((x &&& (255 : Int32)) <<< ((8 : Int32) &&& 31)))]) _
    refine XS.iand X3.here hx rfl (hb hby d5_24) rfl ?_
    show SS p e below T3 (mkF m 25 #[vr r0, vi p1] [(.int (y &&& (255 : Int32))), (.int ((x &&& (255 : Int32)) <<< ((8 : Int32) &&& 31)))]) _
    refine XS.ior X3.here hx rfl (hb hby d5_25) rfl ?_
    show SS p e below T3 (mkF m 26 #[vr r0, vi p1] [(.int (own_u2 x y))]) _
    exact retI X3 hx Bd.returns (hb hby d5_26) hr
  · show Q_rmU2 Z r0 p1 rb kb zb vs dv x y h0 n0 _ T3.heap _
    rw [e3]
    exact ⟨rfl, N0, rfl⟩
theorem ef_2 (m : MethodId) (x0 : Addr) (x1 : Int32) : entryFrame m #[(.ref x0), (.int x1)] 2 = mkF m 0 #[vr x0, vi x1] [] := by first | (simp [entryFrame, mkF, argsToLocals, Value.category]; done) | rfl
theorem d4_0 : decode prog_88_method_9_code 0 = .ok (.aload_n 0, 1) := by decide +kernel
theorem d4_1 : decode prog_88_method_9_code 1 = .ok (.iload_n 1, 1) := by decide +kernel
theorem d4_2 : decode prog_88_method_9_code 2 = .ok (.invokevirtual 36, 3) := by decide +kernel
theorem pd_0 : parseMethodDescriptor "(I)I" = some ⟨[.int], some .int⟩ := by decide +kernel
theorem d4_5 : decode prog_88_method_9_code 5 = .ok (.bipush 16, 2) := by decide +kernel
theorem d4_7 : decode prog_88_method_9_code 7 = .ok (.ishl, 1) := by decide +kernel
theorem d4_8 : decode prog_88_method_9_code 8 = .ok (.aload_n 0, 1) := by decide +kernel
theorem d4_9 : decode prog_88_method_9_code 9 = .ok (.iload_n 1, 1) := by decide +kernel
theorem d4_10 : decode prog_88_method_9_code 10 = .ok (.iconst 2, 1) := by decide +kernel
theorem d4_11 : decode prog_88_method_9_code 11 = .ok (.iadd, 1) := by decide +kernel
theorem d4_12 : decode prog_88_method_9_code 12 = .ok (.invokevirtual 36, 3) := by decide +kernel
theorem d4_15 : decode prog_88_method_9_code 15 = .ok (.ior, 1) := by decide +kernel
theorem d4_16 : decode prog_88_method_9_code 16 = .ok (.ireturn, 1) := by decide +kernel
def Q_rmU4 (Z : State) (r0 : Addr) (p1 : Int32) (rb : Addr) (kb : ClassId) (zb : Int32) (vs : List Value) (dv : Value) (x : Int32) (y : Int32) (x2 : Int32) (y2 : Int32) (h0 : Heap) (n0 : Nat) (v : Option Value) (h : Heap) (L : List Loc) : Prop := (v = some (.int (own_u4 x y x2 y2)) ∧ Fr n0 L ∧ h = h0)
set_option maxRecDepth 65536 in
set_option maxHeartbeats 40000000 in
theorem rmU4 (l : Launch) (Z : State) (a0 : Array Value) (hw : ∀ d ∈ tables_1, d.before a0 Z = true) (ws : List Jvm.Cond) (r0 : Addr) (p1 : Int32) (rb : Addr) (kb : ClassId) (zb : Int32) (vs : List Value) (dv : Value) (x : Int32) (y : Int32) (x2 : Int32) (y2 : Int32) (h0 : Heap) (n0 : Nat) (Z0 : n0 ≤ h0.size) (uE : Exa Z h0 r0 "com/example/bean_wiring/beanwiring/internal/ClassFile") (uF : Fld Z h0 r0 "com/example/bean_wiring/beanwiring/internal/ClassFile" "bytes" "[B" (.ref rb)) (uV : Arv Z h0 rb kb .byte zb vs dv) (ui1 : ¬ p1 < 0 ∧ p1 < zb) (ua1 : vs.getD (p1).toNatClampNeg dv = (.int x)) (ui2 : ¬ (p1 + (1 : Int32)) < 0 ∧ (p1 + (1 : Int32)) < zb) (ua2 : vs.getD ((p1 + (1 : Int32))).toNatClampNeg dv = (.int y)) (ui3 : ¬ (p1 + (2 : Int32)) < 0 ∧ (p1 + (2 : Int32)) < zb) (ua3 : vs.getD ((p1 + (2 : Int32))).toNatClampNeg dv = (.int x2)) (ui4 : ¬ ((p1 + (2 : Int32)) + (1 : Int32)) < 0 ∧ ((p1 + (2 : Int32)) + (1 : Int32)) < zb) (ua4 : vs.getD (((p1 + (2 : Int32)) + (1 : Int32))).toNatClampNeg dv = (.int y2)) :
    MetFree l (⟨"com/example/bean_wiring/beanwiring/internal/ClassFile", "u4", "(I)I"⟩ : MethodName) (head1 (Jvm.Cond.code (⟨"com/example/bean_wiring/beanwiring/internal/ClassFile", "u4", "(I)I"⟩ : MethodName) prog_88_method_9_code 2 (some .int) :: ws) ({ frames := 1, cells := 0, slots := 0, locals := 14 } : Room)) (fun a U => a = #[(.ref r0), (.int p1)] ∧ Z.Warmed39 U.vm ∧ U.heap = h0) (fun _ _ _ _ _ => True) (fun _ U o U' => ∃ v L, o = .returned v ∧ Q_rmU4 Z r0 p1 rb kb zb vs dv x y x2 y2 h0 n0 v U'.heap L ∧ FrameEnd U o U' L ({ frames := 1, cells := 0, slots := 0, locals := 14 } : Room).cells ({ frames := 1, cells := 0, slots := 0, locals := 14 } : Room).slots) := by
  refine MetFree.of_bodySF (plainFor_of_name pn_0) hisR ?_
  intro p e s m args below meth c s₁ Bd hml0 hP hK
  obtain ⟨rfl, hZ, hh⟩ := hP
  have hx := Bd.exec
  have hby := Bd.bytes
  have hml : c.maxLocals = 2 := hml0
  have hown : s.vm.findClass "com/example/bean_wiring/beanwiring/internal/ClassFile" = some m.cls := findClass_of_methodNamed Bd.named
  have hnm := (name_of_methodNamed Bd.named Bd.method).1
  have X0 : Stand p l e ({ frames := 1, cells := 0, slots := 0, locals := 14 } : Room) s m #[(.ref r0), (.int p1)] below meth c s₁ [] 0 0 := Stand.of_body Bd
  have e0 : s₁.heap = h0 := by rw [← hh, Bd.state]; rfl
  have N0 := Fr.nil n0
  have pre0 : ∀ t, Steps p.tables e below (s₁.setTop (mkF m 0 #[vr r0, vi p1] [])) t → Steps p.tables e below (s₁.setTop (entryFrame m #[(.ref r0), (.int p1)] 2)) t := fun t k => castTop (ef_2 m r0 p1) k
  obtain ⟨cq1, kq1, q1a, q1b, q1c⟩ := isOf hZ e0 uE
  obtain ⟨_, _, ⟨T1, Lw1, kw1, nw1⟩, -, X1, ⟨Lc1, hQ1, lq1, yq1, zq1⟩, st1⟩ := X0.virtualBack hx (y := (⟨"com/example/bean_wiring/beanwiring/internal/ClassFile", "u2", "(I)I"⟩ : MethodName)) (z := (⟨"com/example/bean_wiring/beanwiring/internal/ClassFile", "u2", "(I)I"⟩ : MethodName)) hown (mvT hZ (wd hw 30 rfl)) (mvT hZ (wd hw 31 rfl)) (notFace_of_selects (args := #[]) (mvT hZ (wd hw 33 rfl))) (mvT hZ (wd hw 33 rfl)) (mvT hZ (wd hw 32 rfl)) (by decide) (backOf (W := 0) (rmU2 l Z a0 hw [] r0 p1 rb kb zb vs dv x y h0 n0 Z0 uF uV ui1 ua1 ui2 ua2) hZ (wd hw 34 rfl) (wd hw 4 rfl) (by decide) (by decide)) q1a q1c (g := (mkF m 2 #[vr r0, vi p1] [(.int p1), (.ref r0)])) rfl (by rw [hml]; rfl) (Steps.refl _) (argsL := [(.int p1)]) (rest := []) (lenOf pd_0 rfl) rfl (by show 2 * 0 + _ ≤ _; exact Nat.le_of_eq rfl) (hb hby d4_2) (fun _ _ => ⟨rfl, e0, (by decide : 0 + 0 ≤ _), (by decide : 0 + 0 ≤ _)⟩)
  dsimp only [Pt.U, Pt.locs, Pt.cells, Pt.slots] at X1 lq1 yq1 zq1 st1 hQ1
  have X1 := own_reb X1 lq1 yq1 zq1
  obtain ⟨rfl, Nq1, eh1⟩ := hQ1
  have N1 := Fr.app N0 Nq1
  obtain ⟨cq2, kq2, q2a, q2b, q2c⟩ := isOf hZ eh1 uE
  obtain ⟨_, _, ⟨T2, Lw2, kw2, nw2⟩, -, X2, ⟨Lc2, hQ2, lq2, yq2, zq2⟩, st2⟩ := X1.virtualBack hx (y := (⟨"com/example/bean_wiring/beanwiring/internal/ClassFile", "u2", "(I)I"⟩ : MethodName)) (z := (⟨"com/example/bean_wiring/beanwiring/internal/ClassFile", "u2", "(I)I"⟩ : MethodName)) hown (mvT hZ (wd hw 30 rfl)) (mvT hZ (wd hw 31 rfl)) (notFace_of_selects (args := #[]) (mvT hZ (wd hw 33 rfl))) (mvT hZ (wd hw 33 rfl)) (mvT hZ (wd hw 32 rfl)) (by decide) (backOf (W := 1) (rmU2 l Z a0 hw [] r0 (p1 + (2 : Int32)) rb kb zb vs dv x2 y2 h0 n0 Z0 uF uV ui3 ua3 ui4 ua4) hZ (wd hw 34 rfl) (wd hw 4 rfl) (by decide) (by decide)) q2a q2c (g := (mkF m 12 #[vr r0, vi p1] [(.int (p1 + (2 : Int32))), (.ref r0), (.int ((own_u2 x y) <<< ((16 : Int32) &&& 31)))])) rfl (by rw [hml]; rfl) (Steps.refl _) (argsL := [(.int (p1 + (2 : Int32)))]) (rest := [(.int ((own_u2 x y) <<< ((16 : Int32) &&& 31)))]) (lenOf pd_0 rfl) rfl (by show 2 * 0 + _ ≤ _; exact Nat.le_of_eq rfl) (hb hby d4_12) (fun _ _ => ⟨rfl, eh1, (by decide : 0 + 0 ≤ _), (by decide : 0 + 0 ≤ _)⟩)
  dsimp only [Pt.U, Pt.locs, Pt.cells, Pt.slots] at X2 lq2 yq2 zq2 st2 hQ2
  have X2 := own_reb X2 lq2 yq2 zq2
  obtain ⟨rfl, Nq2, eh2⟩ := hQ2
  have N2 := Fr.app N1 Nq2
  obtain ⟨fs, hr, hrun, hended, hW, hsame⟩ := X2.leave (v := some (.int (own_u4 x y x2 y2))) (fun h => by rw [Bd.returns] at h; cases h)
  refine ⟨_, _, pre0 _ ?_, hrun, hended, _, _, rfl, ?_, ⟨_, rfl⟩, hW, hsame.mono (by decide) (by decide)⟩
  · show SS p e below s₁ (mkF m 0 #[vr r0, vi p1] []) _
    refine XS.aloadN X0.here hx rfl (hb hby d4_0) rfl rfl ?_
    show SS p e below s₁ (mkF m 1 #[vr r0, vi p1] [(.ref r0)]) _
    refine XS.iloadN X0.here hx rfl (hb hby d4_1) rfl ?_
    show SS p e below s₁ (mkF m 2 #[vr r0, vi p1] [(.int p1), (.ref r0)]) _
    refine st1.trans ?_
    show SS p e below T1 (mkF m 5 #[vr r0, vi p1] [(.int (own_u2 x y))]) _
    refine XS.bipush X1.here hx rfl (hb hby d4_5) ?_
    show SS p e below T1 (mkF m 7 #[vr r0, vi p1] [(.int (16 : Int32)), (.int (own_u2 x y))]) _
    refine XS.ishl X1.here hx rfl (hb hby d4_7) rfl ?_
    show SS p e below T1 (mkF m 8 #[vr r0, vi p1] [(.int ((own_u2 x y) <<< ((16 : Int32) &&& 31)))]) _
    refine XS.aloadN X1.here hx rfl (hb hby d4_8) rfl rfl ?_
    show SS p e below T1 (mkF m 9 #[vr r0, vi p1] [(.ref r0), (.int ((own_u2 x y) <<< ((16 : Int32) &&& 31)))]) _
    refine XS.iloadN X1.here hx rfl (hb hby d4_9) rfl ?_
    show SS p e below T1 (mkF m 10 #[vr r0, vi p1] [(.int p1), (.ref r0), (.int ((own_u2 x y) <<< ((16 : Int32) &&& 31)))]) _
    refine XS.iconst X1.here hx rfl (hb hby d4_10) ?_
    show SS p e below T1 (mkF m 11 #[vr r0, vi p1] [(.int (2 : Int32)), (.int p1), (.ref r0), (.int ((own_u2 x y) <<< ((16 : Int32) &&& 31)))]) _
    refine XS.iadd X1.here hx rfl (hb hby d4_11) rfl ?_
    show SS p e below T1 (mkF m 12 #[vr r0, vi p1] [(.int (p1 + (2 : Int32))), (.ref r0), (.int ((own_u2 x y) <<< ((16 : Int32) &&& 31)))]) _
    refine st2.trans ?_
    show SS p e below T2 (mkF m 15 #[vr r0, vi p1] [(.int (own_u2 x2 y2)), (.int ((own_u2 x y) <<< ((16 : Int32) &&& 31)))]) _
    refine XS.ior X2.here hx rfl (hb hby d4_15) rfl ?_
    show SS p e below T2 (mkF m 16 #[vr r0, vi p1] [(.int (own_u4 x y x2 y2))]) _
    exact retI X2 hx Bd.returns (hb hby d4_16) hr
  · show Q_rmU4 Z r0 p1 rb kb zb vs dv x y x2 y2 h0 n0 _ T2.heap _
    rw [eh2]
    exact ⟨rfl, N2, rfl⟩
theorem ef_3 (m : MethodId) (x0 : Addr) (x1 : Addr) : entryFrame m #[(.ref x0), (.ref x1), (.int (14 : Int32))] 8 = mkF m 0 #[vr x0, vr x1, vi (14 : Int32), uu, uu, uu, uu, uu] [] := by first | (simp [entryFrame, mkF, argsToLocals, Value.category]; done) | rfl
theorem d3_0 : decode prog_88_method_2_code 0 = .ok (.aload_n 0, 1) := by decide +kernel
theorem d3_1 : decode prog_88_method_2_code 1 = .ok (.aload_n 1, 1) := by decide +kernel
theorem d3_2 : decode prog_88_method_2_code 2 = .ok (.putfield 13, 3) := by decide +kernel
theorem d3_5 : decode prog_88_method_2_code 5 = .ok (.aload_n 0, 1) := by decide +kernel
theorem d3_6 : decode prog_88_method_2_code 6 = .ok (.iload_n 2, 1) := by decide +kernel
theorem d3_7 : decode prog_88_method_2_code 7 = .ok (.putfield 17, 3) := by decide +kernel
theorem d3_10 : decode prog_88_method_2_code 10 = .ok (.aload_n 0, 1) := by decide +kernel
theorem d3_11 : decode prog_88_method_2_code 11 = .ok (.iconst 0, 1) := by decide +kernel
theorem d3_12 : decode prog_88_method_2_code 12 = .ok (.putfield 21, 3) := by decide +kernel
theorem d3_15 : decode prog_88_method_2_code 15 = .ok (.iload_n 2, 1) := by decide +kernel
theorem d3_16 : decode prog_88_method_2_code 16 = .ok (.bipush 10, 2) := by decide +kernel
theorem d3_18 : decode prog_88_method_2_code 18 = .ok (.if_icmp .lt 13, 3) := by decide +kernel
theorem d3_21 : decode prog_88_method_2_code 21 = .ok (.aload_n 0, 1) := by decide +kernel
theorem d3_22 : decode prog_88_method_2_code 22 = .ok (.iconst 0, 1) := by decide +kernel
theorem d3_23 : decode prog_88_method_2_code 23 = .ok (.invokevirtual 24, 3) := by decide +kernel
theorem d3_26 : decode prog_88_method_2_code 26 = .ok (.ldc 28, 2) := by decide +kernel
theorem d3_28 : decode prog_88_method_2_code 28 = .ok (.if_icmp .eq 13, 3) := by decide +kernel
theorem d3_41 : decode prog_88_method_2_code 41 = .ok (.aload_n 0, 1) := by decide +kernel
theorem d3_42 : decode prog_88_method_2_code 42 = .ok (.bipush 6, 2) := by decide +kernel
theorem d3_44 : decode prog_88_method_2_code 44 = .ok (.invokevirtual 36, 3) := by decide +kernel
theorem d3_47 : decode prog_88_method_2_code 47 = .ok (.istore_n 3, 1) := by decide +kernel
theorem d3_48 : decode prog_88_method_2_code 48 = .ok (.iload_n 3, 1) := by decide +kernel
theorem d3_49 : decode prog_88_method_2_code 49 = .ok (.bipush 69, 2) := by decide +kernel
theorem d3_51 : decode prog_88_method_2_code 51 = .ok (.if_icmp .le 17, 3) := by decide +kernel
theorem d3_68 : decode prog_88_method_2_code 68 = .ok (.aload_n 0, 1) := by decide +kernel
theorem d3_69 : decode prog_88_method_2_code 69 = .ok (.bipush 8, 2) := by decide +kernel
theorem d3_71 : decode prog_88_method_2_code 71 = .ok (.invokevirtual 36, 3) := by decide +kernel
theorem d3_74 : decode prog_88_method_2_code 74 = .ok (.istore 4, 2) := by decide +kernel
theorem d3_76 : decode prog_88_method_2_code 76 = .ok (.aload_n 0, 1) := by decide +kernel
theorem d3_77 : decode prog_88_method_2_code 77 = .ok (.getfield 7, 3) := by decide +kernel
theorem d3_80 : decode prog_88_method_2_code 80 = .ok (.arraylength, 1) := by decide +kernel
theorem d3_81 : decode prog_88_method_2_code 81 = .ok (.iload 4, 2) := by decide +kernel
theorem d3_83 : decode prog_88_method_2_code 83 = .ok (.if_icmp .ge 11, 3) := by decide +kernel
theorem d3_94 : decode prog_88_method_2_code 94 = .ok (.aload_n 0, 1) := by decide +kernel
theorem d3_95 : decode prog_88_method_2_code 95 = .ok (.getfield 7, 3) := by decide +kernel
theorem d3_98 : decode prog_88_method_2_code 98 = .ok (.astore 5, 2) := by decide +kernel
theorem d3_100 : decode prog_88_method_2_code 100 = .ok (.bipush 10, 2) := by decide +kernel
theorem d3_102 : decode prog_88_method_2_code 102 = .ok (.istore 6, 2) := by decide +kernel
theorem d3_104 : decode prog_88_method_2_code 104 = .ok (.iconst 1, 1) := by decide +kernel
theorem d3_105 : decode prog_88_method_2_code 105 = .ok (.istore 7, 2) := by decide +kernel
theorem d3_107 : decode prog_88_method_2_code 107 = .ok (.iload 7, 2) := by decide +kernel
theorem d3_109 : decode prog_88_method_2_code 109 = .ok (.iload 4, 2) := by decide +kernel
theorem d3_111 : decode prog_88_method_2_code 111 = .ok (.if_icmp .ge 190, 3) := by decide +kernel
theorem d3_301 : decode prog_88_method_2_code 301 = .ok (.aload_n 0, 1) := by decide +kernel
theorem d3_302 : decode prog_88_method_2_code 302 = .ok (.iload 4, 2) := by decide +kernel
theorem d3_304 : decode prog_88_method_2_code 304 = .ok (.putfield 21, 3) := by decide +kernel
theorem d3_307 : decode prog_88_method_2_code 307 = .ok (.aload_n 0, 1) := by decide +kernel
theorem d3_308 : decode prog_88_method_2_code 308 = .ok (.iload 6, 2) := by decide +kernel
theorem d3_310 : decode prog_88_method_2_code 310 = .ok (.putfield 46, 3) := by decide +kernel
theorem d3_313 : decode prog_88_method_2_code 313 = .ok (.aload_n 0, 1) := by decide +kernel
theorem d3_314 : decode prog_88_method_2_code 314 = .ok (.areturn, 1) := by decide +kernel
def Q_rmL (Z : State) (r0 : Addr) (r1 : Addr) (kb : ClassId) (b_0 : Int32) (b_1 : Int32) (b_2 : Int32) (b_3 : Int32) (b_4 : Int32) (b_5 : Int32) (b_6 : Int32) (b_7 : Int32) (b_8 : Int32) (b_9 : Int32) (b_10 : Int32) (b_11 : Int32) (b_12 : Int32) (b_13 : Int32) (en : Addr) (ke : ClassId) (h0 : Heap) (n0 : Nat) (v : Option Value) (h : Heap) (L : List Loc) : Prop := (v = some (.ref r0) ∧ Fr n0 L ∧ Keep h0 h [r0] ∧ Exa Z h r0 "com/example/bean_wiring/beanwiring/internal/ClassFile" ∧ Fld Z h r0 "com/example/bean_wiring/beanwiring/internal/ClassFile" "bytes" "[B" (.ref r1))
set_option maxRecDepth 65536 in
set_option maxHeartbeats 40000000 in
theorem rmL (l : Launch) (Z : State) (a0 : Array Value) (hw : ∀ d ∈ tables_1, d.before a0 Z = true) (ws : List Jvm.Cond) (r0 : Addr) (r1 : Addr) (kb : ClassId) (b_0 : Int32) (b_1 : Int32) (b_2 : Int32) (b_3 : Int32) (b_4 : Int32) (b_5 : Int32) (b_6 : Int32) (b_7 : Int32) (b_8 : Int32) (b_9 : Int32) (b_10 : Int32) (b_11 : Int32) (b_12 : Int32) (b_13 : Int32) (en : Addr) (ke : ClassId) (h0 : Heap) (n0 : Nat) (Z0 : n0 ≤ h0.size) (uE : Exa Z h0 r0 "com/example/bean_wiring/beanwiring/internal/ClassFile") (u_bytes : Fld Z h0 r0 "com/example/bean_wiring/beanwiring/internal/ClassFile" "bytes" "[B" .null) (u_length : Fld Z h0 r0 "com/example/bean_wiring/beanwiring/internal/ClassFile" "length" "I" (.int (0 : Int32))) (u_count : Fld Z h0 r0 "com/example/bean_wiring/beanwiring/internal/ClassFile" "count" "I" (.int (0 : Int32))) (u_header : Fld Z h0 r0 "com/example/bean_wiring/beanwiring/internal/ClassFile" "header" "I" (.int (0 : Int32))) (u_entries : Fld Z h0 r0 "com/example/bean_wiring/beanwiring/internal/ClassFile" "entries" "[I" (.ref en)) (uVe : Arv Z h0 en ke .int (0 : Int32) [] (.int (0 : Int32))) (uV : Arv Z h0 r1 kb .byte (14 : Int32) [(.int b_0), (.int b_1), (.int b_2), (.int b_3), (.int b_4), (.int b_5), (.int b_6), (.int b_7), (.int b_8), (.int b_9), (.int b_10), (.int b_11), (.int b_12), (.int b_13)] (.int (0 : Int32))) (ug : n0 ≤ r0) (uc : (own_u4 b_0 b_1 b_2 b_3) = (-889275714 : Int32)) (um : ¬ ((69 : Int32) < (own_u2 b_6 b_7))) (uz : (own_u2 b_8 b_9) = (0 : Int32)) :
    MetFree l (⟨"com/example/bean_wiring/beanwiring/internal/ClassFile", "layOut", "([BI)Lcom/example/bean_wiring/beanwiring/internal/ClassFile;"⟩ : MethodName) (head1 (Jvm.Cond.code (⟨"com/example/bean_wiring/beanwiring/internal/ClassFile", "layOut", "([BI)Lcom/example/bean_wiring/beanwiring/internal/ClassFile;"⟩ : MethodName) prog_88_method_2_code 8 (some (.object "com/example/bean_wiring/beanwiring/internal/ClassFile")) :: ws) ({ frames := 2, cells := 0, slots := 0, locals := 27 } : Room)) (fun a U => a = #[(.ref r0), (.ref r1), (.int (14 : Int32))] ∧ Z.Warmed39 U.vm ∧ U.heap = h0) (fun _ _ _ _ _ => True) (fun _ U o U' => ∃ v L, o = .returned v ∧ Q_rmL Z r0 r1 kb b_0 b_1 b_2 b_3 b_4 b_5 b_6 b_7 b_8 b_9 b_10 b_11 b_12 b_13 en ke h0 n0 v U'.heap L ∧ FrameEnd U o U' L ({ frames := 2, cells := 0, slots := 0, locals := 27 } : Room).cells ({ frames := 2, cells := 0, slots := 0, locals := 27 } : Room).slots) := by
  refine MetFree.of_bodySF (plainFor_of_name pn_0) hisR ?_
  intro p e s m args below meth c s₁ Bd hml0 hP hK
  obtain ⟨rfl, hZ, hh⟩ := hP
  have hx := Bd.exec
  have hby := Bd.bytes
  have hml : c.maxLocals = 8 := hml0
  have hown : s.vm.findClass "com/example/bean_wiring/beanwiring/internal/ClassFile" = some m.cls := findClass_of_methodNamed Bd.named
  have hnm := (name_of_methodNamed Bd.named Bd.method).1
  have X0 : Stand p l e ({ frames := 2, cells := 0, slots := 0, locals := 27 } : Room) s m #[(.ref r0), (.ref r1), (.int (14 : Int32))] below meth c s₁ [] 0 0 := Stand.of_body Bd
  have e0 : s₁.heap = h0 := by rw [← hh, Bd.state]; rfl
  have N0 := Fr.nil n0
  have pre0 : ∀ t, Steps p.tables e below (s₁.setTop (mkF m 0 #[vr r0, vr r1, vi (14 : Int32), uu, uu, uu, uu, uu] [])) t → Steps p.tables e below (s₁.setTop (entryFrame m #[(.ref r0), (.ref r1), (.int (14 : Int32))] 8)) t := fun t k => castTop (ef_3 m r0 r1) k
  obtain ⟨T1, h1, X1, e1, W1, st1⟩ := putF X0 hx hZ hown (host := "") (Or.inl (wd hw 19 rfl)) Via.refl e0 u_bytes uE (Or.inl (wd hw 20 rfl)) (wd hw 3 rfl) (ty := (.array .byte)) (by decide) rfl rfl (g := (mkF m 2 #[vr r0, vr r1, vi (14 : Int32), uu, uu, uu, uu, uu] [(.ref r1), (.ref r0)])) rfl rfl (hb hby d3_2)
  have Fw1 := u_bytes.same W1
  have N1 := Fr.snoc X1 N0 ug
  have K1 : Keep h0 h1 [r0] := (Keep.refl h0 [r0]).wr W1 (Or.inl (List.mem_of_getElem? (i := 0) rfl))
  have Z1 : n0 ≤ h1.size := by rw [W1.size]; exact Z0
  have c3 := (uE.wr W1)
  have c4 := (u_length.other W1 (Or.inr (slot_ne (Or.inl (wd hw 22 rfl)) (Or.inl (wd hw 20 rfl)) (by decide) (t := .int) (t' := (.array .byte)) (by decide) (by decide))))
  obtain ⟨T2, h2, X2, e2, W2, st2⟩ := putF X1 hx hZ hown (host := "") (Or.inl (wd hw 21 rfl)) Via.refl e1 c4 c3 (Or.inl (wd hw 22 rfl)) (wd hw 3 rfl) (ty := .int) (by decide) rfl rfl (g := (mkF m 7 #[vr r0, vr r1, vi (14 : Int32), uu, uu, uu, uu, uu] [(.int (14 : Int32)), (.ref r0)])) rfl rfl (hb hby d3_7)
  have Fw2 := c4.same W2
  have N2 := Fr.snoc X2 N1 ug
  have K2 : Keep h0 h2 [r0] := K1.wr W2 (Or.inl (List.mem_of_getElem? (i := 0) rfl))
  have Z2 : n0 ≤ h2.size := by rw [W2.size]; exact Z1
  have c6 := (c3.wr W2)
  have c7 := ((u_count.other W1 (Or.inr (slot_ne (Or.inl (wd hw 24 rfl)) (Or.inl (wd hw 20 rfl)) (by decide) (t := .int) (t' := (.array .byte)) (by decide) (by decide)))).other W2 (Or.inr (slot_ne (Or.inl (wd hw 24 rfl)) (Or.inl (wd hw 22 rfl)) (by decide) (t := .int) (t' := .int) (by decide) (by decide))))
  obtain ⟨T5, h5, X5, e5, W5, st5⟩ := putF X2 hx hZ hown (host := "") (Or.inl (wd hw 23 rfl)) Via.refl e2 c7 c6 (Or.inl (wd hw 24 rfl)) (wd hw 3 rfl) (ty := .int) (by decide) rfl rfl (g := (mkF m 12 #[vr r0, vr r1, vi (14 : Int32), uu, uu, uu, uu, uu] [(.int (0 : Int32)), (.ref r0)])) rfl rfl (hb hby d3_12)
  have Fw5 := c7.same W5
  have N5 := Fr.snoc X5 N2 ug
  have K5 : Keep h0 h5 [r0] := K2.wr W5 (Or.inl (List.mem_of_getElem? (i := 0) rfl))
  have Z5 : n0 ≤ h5.size := by rw [W5.size]; exact Z2
  have c9 := (c6.wr W5)
  have c10 := ((Fw1.other W2 (Or.inr (slot_ne (Or.inl (wd hw 20 rfl)) (Or.inl (wd hw 22 rfl)) (by decide) (t := (.array .byte)) (t' := .int) (by decide) (by decide)))).other W5 (Or.inr (slot_ne (Or.inl (wd hw 20 rfl)) (Or.inl (wd hw 24 rfl)) (by decide) (t := (.array .byte)) (t' := .int) (by decide) (by decide))))
  have c11 := (((uV.other W1 (Ne.symm (Exa.neArv uE uV (wd hw 3 rfl)))).other W2 (Ne.symm (Exa.neArv uE uV (wd hw 3 rfl)))).other W5 (Ne.symm (Exa.neArv uE uV (wd hw 3 rfl))))
  obtain ⟨cq8, kq8, q8a, q8b, q8c⟩ := isOf hZ e5 c9
  obtain ⟨_, _, ⟨T8, Lw8, kw8, nw8⟩, -, X8, ⟨Lc8, hQ8, lq8, yq8, zq8⟩, st8⟩ := X5.virtualBack hx (y := (⟨"com/example/bean_wiring/beanwiring/internal/ClassFile", "u4", "(I)I"⟩ : MethodName)) (z := (⟨"com/example/bean_wiring/beanwiring/internal/ClassFile", "u4", "(I)I"⟩ : MethodName)) hown (mvT hZ (wd hw 25 rfl)) (mvT hZ (wd hw 26 rfl)) (notFace_of_selects (args := #[]) (mvT hZ (wd hw 28 rfl))) (mvT hZ (wd hw 28 rfl)) (mvT hZ (wd hw 27 rfl)) (by decide) (backOf (W := 0) (rmU4 l Z a0 hw [] r0 (0 : Int32) r1 kb (14 : Int32) [(.int b_0), (.int b_1), (.int b_2), (.int b_3), (.int b_4), (.int b_5), (.int b_6), (.int b_7), (.int b_8), (.int b_9), (.int b_10), (.int b_11), (.int b_12), (.int b_13)] (.int (0 : Int32)) b_0 b_1 b_2 b_3 h5 n0 Z5 c9 c10 c11 ⟨by decide, by decide⟩ rfl ⟨by decide, by decide⟩ rfl ⟨by decide, by decide⟩ rfl ⟨by decide, by decide⟩ rfl) hZ (wd hw 29 rfl) (wd hw 4 rfl) (by decide) (by decide)) q8a q8c (g := (mkF m 23 #[vr r0, vr r1, vi (14 : Int32), uu, uu, uu, uu, uu] [(.int (0 : Int32)), (.ref r0)])) rfl (by rw [hml]; rfl) (Steps.refl _) (argsL := [(.int (0 : Int32))]) (rest := []) (lenOf pd_0 rfl) rfl (by show 2 * 0 + _ ≤ _; exact Nat.le_of_eq rfl) (hb hby d3_23) (fun _ _ => ⟨rfl, e5, (by decide : 0 + 0 ≤ _), (by decide : 0 + 0 ≤ _)⟩)
  dsimp only [Pt.U, Pt.locs, Pt.cells, Pt.slots] at X8 lq8 yq8 zq8 st8 hQ8
  have X8 := own_reb X8 lq8 yq8 zq8
  obtain ⟨rfl, Nq8, eh8⟩ := hQ8
  have N8 := Fr.app N5 Nq8
  obtain ⟨cq12, kq12, q12a, q12b, q12c⟩ := isOf hZ eh8 c9
  obtain ⟨_, _, ⟨T12, Lw12, kw12, nw12⟩, -, X12, ⟨Lc12, hQ12, lq12, yq12, zq12⟩, st12⟩ := X8.virtualBack hx (y := (⟨"com/example/bean_wiring/beanwiring/internal/ClassFile", "u2", "(I)I"⟩ : MethodName)) (z := (⟨"com/example/bean_wiring/beanwiring/internal/ClassFile", "u2", "(I)I"⟩ : MethodName)) hown (mvT hZ (wd hw 30 rfl)) (mvT hZ (wd hw 31 rfl)) (notFace_of_selects (args := #[]) (mvT hZ (wd hw 33 rfl))) (mvT hZ (wd hw 33 rfl)) (mvT hZ (wd hw 32 rfl)) (by decide) (backOf (W := 0) (rmU2 l Z a0 hw [] r0 (6 : Int32) r1 kb (14 : Int32) [(.int b_0), (.int b_1), (.int b_2), (.int b_3), (.int b_4), (.int b_5), (.int b_6), (.int b_7), (.int b_8), (.int b_9), (.int b_10), (.int b_11), (.int b_12), (.int b_13)] (.int (0 : Int32)) b_6 b_7 h5 n0 Z5 c10 c11 ⟨by decide, by decide⟩ rfl ⟨by decide, by decide⟩ rfl) hZ (wd hw 34 rfl) (wd hw 4 rfl) (by decide) (by decide)) q12a q12c (g := (mkF m 44 #[vr r0, vr r1, vi (14 : Int32), uu, uu, uu, uu, uu] [(.int (6 : Int32)), (.ref r0)])) rfl (by rw [hml]; rfl) (Steps.refl _) (argsL := [(.int (6 : Int32))]) (rest := []) (lenOf pd_0 rfl) rfl (by show 2 * 0 + _ ≤ _; exact Nat.le_of_eq rfl) (hb hby d3_44) (fun _ _ => ⟨rfl, eh8, (by decide : 0 + 0 ≤ _), (by decide : 0 + 0 ≤ _)⟩)
  dsimp only [Pt.U, Pt.locs, Pt.cells, Pt.slots] at X12 lq12 yq12 zq12 st12 hQ12
  have X12 := own_reb X12 lq12 yq12 zq12
  obtain ⟨rfl, Nq12, eh12⟩ := hQ12
  have N12 := Fr.app N8 Nq12
  obtain ⟨cq13, kq13, q13a, q13b, q13c⟩ := isOf hZ eh12 c9
  obtain ⟨_, _, ⟨T13, Lw13, kw13, nw13⟩, -, X13, ⟨Lc13, hQ13, lq13, yq13, zq13⟩, st13⟩ := X12.virtualBack hx (y := (⟨"com/example/bean_wiring/beanwiring/internal/ClassFile", "u2", "(I)I"⟩ : MethodName)) (z := (⟨"com/example/bean_wiring/beanwiring/internal/ClassFile", "u2", "(I)I"⟩ : MethodName)) hown (mvT hZ (wd hw 30 rfl)) (mvT hZ (wd hw 31 rfl)) (notFace_of_selects (args := #[]) (mvT hZ (wd hw 33 rfl))) (mvT hZ (wd hw 33 rfl)) (mvT hZ (wd hw 32 rfl)) (by decide) (backOf (W := 0) (rmU2 l Z a0 hw [] r0 (8 : Int32) r1 kb (14 : Int32) [(.int b_0), (.int b_1), (.int b_2), (.int b_3), (.int b_4), (.int b_5), (.int b_6), (.int b_7), (.int b_8), (.int b_9), (.int b_10), (.int b_11), (.int b_12), (.int b_13)] (.int (0 : Int32)) b_8 b_9 h5 n0 Z5 c10 c11 ⟨by decide, by decide⟩ rfl ⟨by decide, by decide⟩ rfl) hZ (wd hw 34 rfl) (wd hw 4 rfl) (by decide) (by decide)) q13a q13c (g := (mkF m 71 #[vr r0, vr r1, vi (14 : Int32), vi (own_u2 b_6 b_7), uu, uu, uu, uu] [(.int (8 : Int32)), (.ref r0)])) rfl (by rw [hml]; rfl) (Steps.refl _) (argsL := [(.int (8 : Int32))]) (rest := []) (lenOf pd_0 rfl) rfl (by show 2 * 0 + _ ≤ _; exact Nat.le_of_eq rfl) (hb hby d3_71) (fun _ _ => ⟨rfl, eh12, (by decide : 0 + 0 ≤ _), (by decide : 0 + 0 ≤ _)⟩)
  dsimp only [Pt.U, Pt.locs, Pt.cells, Pt.slots] at X13 lq13 yq13 zq13 st13 hQ13
  have X13 := own_reb X13 lq13 yq13 zq13
  obtain ⟨rfl, Nq13, eh13⟩ := hQ13
  have N13 := Fr.app N12 Nq13
  have c15 := (((u_entries.other W1 (Or.inr (slot_ne (Or.inl (wd hw 13 rfl)) (Or.inl (wd hw 20 rfl)) (by decide) (t := (.array .int)) (t' := (.array .byte)) (by decide) (by decide)))).other W2 (Or.inr (slot_ne (Or.inl (wd hw 13 rfl)) (Or.inl (wd hw 22 rfl)) (by decide) (t := (.array .int)) (t' := .int) (by decide) (by decide)))).other W5 (Or.inr (slot_ne (Or.inl (wd hw 13 rfl)) (Or.inl (wd hw 24 rfl)) (by decide) (t := (.array .int)) (t' := .int) (by decide) (by decide))))
  obtain ⟨T14, X14, e14, st14⟩ := getF X13 hx hZ hown (host := "") (Or.inl (wd hw 12 rfl)) Via.refl eh13 c15 (g := (mkF m 77 #[vr r0, vr r1, vi (14 : Int32), vi (own_u2 b_6 b_7), vi (0 : Int32), uu, uu, uu] [(.ref r0)])) rfl rfl (hb hby d3_77)
  have c17 := (((uVe.other W1 (Ne.symm (Exa.neArv uE uVe (wd hw 3 rfl)))).other W2 (Ne.symm (Exa.neArv uE uVe (wd hw 3 rfl)))).other W5 (Ne.symm (Exa.neArv uE uVe (wd hw 3 rfl))))
  obtain ⟨cl16, Ar16, q16, S16, Nn16, H16, G16⟩ := (id c17)
  obtain ⟨T18, X18, e18, st18⟩ := getF X14 hx hZ hown (host := "") (Or.inl (wd hw 12 rfl)) Via.refl e14 c15 (g := (mkF m 95 #[vr r0, vr r1, vi (14 : Int32), vi (own_u2 b_6 b_7), vi (0 : Int32), uu, uu, uu] [(.ref r0)])) rfl rfl (hb hby d3_95)
  obtain ⟨T19, h19, X19, e19, W19, st19⟩ := putF X18 hx hZ hown (host := "") (Or.inl (wd hw 23 rfl)) Via.refl e18 Fw5 c9 (Or.inl (wd hw 24 rfl)) (wd hw 3 rfl) (ty := .int) (by decide) rfl rfl (g := (mkF m 304 #[vr r0, vr r1, vi (14 : Int32), vi (own_u2 b_6 b_7), vi (0 : Int32), vr en, vi (10 : Int32), vi (1 : Int32)] [(.int (0 : Int32)), (.ref r0)])) rfl rfl (hb hby d3_304)
  have Fw19 := Fw5.same W19
  have N19 := Fr.snoc X19 N13 ug
  have K19 : Keep h0 h19 [r0] := K5.wr W19 (Or.inl (List.mem_of_getElem? (i := 0) rfl))
  have Z19 : n0 ≤ h19.size := by rw [W19.size]; exact Z5
  have c21 := (c9.wr W19)
  have c22 := ((((u_header.other W1 (Or.inr (slot_ne (Or.inl (wd hw 37 rfl)) (Or.inl (wd hw 20 rfl)) (by decide) (t := .int) (t' := (.array .byte)) (by decide) (by decide)))).other W2 (Or.inr (slot_ne (Or.inl (wd hw 37 rfl)) (Or.inl (wd hw 22 rfl)) (by decide) (t := .int) (t' := .int) (by decide) (by decide)))).other W5 (Or.inr (slot_ne (Or.inl (wd hw 37 rfl)) (Or.inl (wd hw 24 rfl)) (by decide) (t := .int) (t' := .int) (by decide) (by decide)))).other W19 (Or.inr (slot_ne (Or.inl (wd hw 37 rfl)) (Or.inl (wd hw 24 rfl)) (by decide) (t := .int) (t' := .int) (by decide) (by decide))))
  obtain ⟨T20, h20, X20, e20, W20, st20⟩ := putF X19 hx hZ hown (host := "") (Or.inl (wd hw 36 rfl)) Via.refl e19 c22 c21 (Or.inl (wd hw 37 rfl)) (wd hw 3 rfl) (ty := .int) (by decide) rfl rfl (g := (mkF m 310 #[vr r0, vr r1, vi (14 : Int32), vi (own_u2 b_6 b_7), vi (0 : Int32), vr en, vi (10 : Int32), vi (1 : Int32)] [(.int (10 : Int32)), (.ref r0)])) rfl rfl (hb hby d3_310)
  have Fw20 := c22.same W20
  have N20 := Fr.snoc X20 N19 ug
  have K20 : Keep h0 h20 [r0] := K19.wr W20 (Or.inl (List.mem_of_getElem? (i := 0) rfl))
  have Z20 : n0 ≤ h20.size := by rw [W20.size]; exact Z19
  have c23 := (c21.wr W20)
  have c24 := ((c10.other W19 (Or.inr (slot_ne (Or.inl (wd hw 20 rfl)) (Or.inl (wd hw 24 rfl)) (by decide) (t := (.array .byte)) (t' := .int) (by decide) (by decide)))).other W20 (Or.inr (slot_ne (Or.inl (wd hw 20 rfl)) (Or.inl (wd hw 37 rfl)) (by decide) (t := (.array .byte)) (t' := .int) (by decide) (by decide))))
  obtain ⟨fs, hr, hrun, hended, hW, hsame⟩ := X20.leave (v := some (.ref r0)) (fun h => by rw [Bd.returns] at h; cases h)
  refine ⟨_, _, pre0 _ ?_, hrun, hended, _, _, rfl, ?_, ⟨_, rfl⟩, hW, hsame.mono (by decide) (by decide)⟩
  · show SS p e below s₁ (mkF m 0 #[vr r0, vr r1, vi (14 : Int32), uu, uu, uu, uu, uu] []) _
    refine XS.aloadN X0.here hx rfl (hb hby d3_0) rfl rfl ?_
    show SS p e below s₁ (mkF m 1 #[vr r0, vr r1, vi (14 : Int32), uu, uu, uu, uu, uu] [(.ref r0)]) _
    refine XS.aloadN X0.here hx rfl (hb hby d3_1) rfl rfl ?_
    show SS p e below s₁ (mkF m 2 #[vr r0, vr r1, vi (14 : Int32), uu, uu, uu, uu, uu] [(.ref r1), (.ref r0)]) _
    refine st1 _ ?_
    show SS p e below T1 (mkF m 5 #[vr r0, vr r1, vi (14 : Int32), uu, uu, uu, uu, uu] []) _
    refine XS.aloadN X1.here hx rfl (hb hby d3_5) rfl rfl ?_
    show SS p e below T1 (mkF m 6 #[vr r0, vr r1, vi (14 : Int32), uu, uu, uu, uu, uu] [(.ref r0)]) _
    refine XS.iloadN X1.here hx rfl (hb hby d3_6) rfl ?_
    show SS p e below T1 (mkF m 7 #[vr r0, vr r1, vi (14 : Int32), uu, uu, uu, uu, uu] [(.int (14 : Int32)), (.ref r0)]) _
    refine st2 _ ?_
    show SS p e below T2 (mkF m 10 #[vr r0, vr r1, vi (14 : Int32), uu, uu, uu, uu, uu] []) _
    refine XS.aloadN X2.here hx rfl (hb hby d3_10) rfl rfl ?_
    show SS p e below T2 (mkF m 11 #[vr r0, vr r1, vi (14 : Int32), uu, uu, uu, uu, uu] [(.ref r0)]) _
    refine XS.iconst X2.here hx rfl (hb hby d3_11) ?_
    show SS p e below T2 (mkF m 12 #[vr r0, vr r1, vi (14 : Int32), uu, uu, uu, uu, uu] [(.int (0 : Int32)), (.ref r0)]) _
    refine st5 _ ?_
    show SS p e below T5 (mkF m 15 #[vr r0, vr r1, vi (14 : Int32), uu, uu, uu, uu, uu] []) _
    refine XS.iloadN X5.here hx rfl (hb hby d3_15) rfl ?_
    show SS p e below T5 (mkF m 16 #[vr r0, vr r1, vi (14 : Int32), uu, uu, uu, uu, uu] [(.int (14 : Int32))]) _
    refine XS.bipush X5.here hx rfl (hb hby d3_16) ?_
    show SS p e below T5 (mkF m 18 #[vr r0, vr r1, vi (14 : Int32), uu, uu, uu, uu, uu] [(.int (10 : Int32)), (.int (14 : Int32))]) _
    refine XS.icmpNo X5.here hx rfl (hb hby d3_18) rfl (flt (by decide : ¬ ((14 : Int32) < (10 : Int32)))).1 ?_
    show SS p e below T5 (mkF m 21 #[vr r0, vr r1, vi (14 : Int32), uu, uu, uu, uu, uu] []) _
    refine XS.aloadN X5.here hx rfl (hb hby d3_21) rfl rfl ?_
    show SS p e below T5 (mkF m 22 #[vr r0, vr r1, vi (14 : Int32), uu, uu, uu, uu, uu] [(.ref r0)]) _
    refine XS.iconst X5.here hx rfl (hb hby d3_22) ?_
    show SS p e below T5 (mkF m 23 #[vr r0, vr r1, vi (14 : Int32), uu, uu, uu, uu, uu] [(.int (0 : Int32)), (.ref r0)]) _
    refine st8.trans ?_
    show SS p e below T8 (mkF m 26 #[vr r0, vr r1, vi (14 : Int32), uu, uu, uu, uu, uu] [(.int (own_u4 b_0 b_1 b_2 b_3))]) _
    refine X8.ldcInt hx hown (mvT hZ (wd hw 35 rfl)) (g := (mkF m 26 #[vr r0, vr r1, vi (14 : Int32), uu, uu, uu, uu, uu] [(.int (own_u4 b_0 b_1 b_2 b_3))])) rfl (hb hby d3_26) _ ?_
    show SS p e below T8 (mkF m 28 #[vr r0, vr r1, vi (14 : Int32), uu, uu, uu, uu, uu] [(.int (-889275714 : Int32)), (.int (own_u4 b_0 b_1 b_2 b_3))]) _
    refine XS.icmpYes X8.here hx rfl (pc0 := 28) (pc' := 41) rfl (hb hby d3_28) rfl (teq (uc : (own_u4 b_0 b_1 b_2 b_3) = (-889275714 : Int32))).1 (by decide) (by decide) ?_
    show SS p e below T8 (mkF m 41 #[vr r0, vr r1, vi (14 : Int32), uu, uu, uu, uu, uu] []) _
    refine XS.aloadN X8.here hx rfl (hb hby d3_41) rfl rfl ?_
    show SS p e below T8 (mkF m 42 #[vr r0, vr r1, vi (14 : Int32), uu, uu, uu, uu, uu] [(.ref r0)]) _
    refine XS.bipush X8.here hx rfl (hb hby d3_42) ?_
    show SS p e below T8 (mkF m 44 #[vr r0, vr r1, vi (14 : Int32), uu, uu, uu, uu, uu] [(.int (6 : Int32)), (.ref r0)]) _
    refine st12.trans ?_
    show SS p e below T12 (mkF m 47 #[vr r0, vr r1, vi (14 : Int32), uu, uu, uu, uu, uu] [(.int (own_u2 b_6 b_7))]) _
    refine XS.istoreN X12.here hx rfl (hb hby d3_47) rfl (l' := #[vr r0, vr r1, vi (14 : Int32), vi (own_u2 b_6 b_7), uu, uu, uu, uu]) rfl ?_
    show SS p e below T12 (mkF m 48 #[vr r0, vr r1, vi (14 : Int32), vi (own_u2 b_6 b_7), uu, uu, uu, uu] []) _
    refine XS.iloadN X12.here hx rfl (hb hby d3_48) rfl ?_
    show SS p e below T12 (mkF m 49 #[vr r0, vr r1, vi (14 : Int32), vi (own_u2 b_6 b_7), uu, uu, uu, uu] [(.int (own_u2 b_6 b_7))]) _
    refine XS.bipush X12.here hx rfl (hb hby d3_49) ?_
    show SS p e below T12 (mkF m 51 #[vr r0, vr r1, vi (14 : Int32), vi (own_u2 b_6 b_7), uu, uu, uu, uu] [(.int (69 : Int32)), (.int (own_u2 b_6 b_7))]) _
    refine XS.icmpYes X12.here hx rfl (pc0 := 51) (pc' := 68) rfl (hb hby d3_51) rfl (flt (um : ¬ ((69 : Int32) < (own_u2 b_6 b_7)))).2.2.2 (by decide) (by decide) ?_
    show SS p e below T12 (mkF m 68 #[vr r0, vr r1, vi (14 : Int32), vi (own_u2 b_6 b_7), uu, uu, uu, uu] []) _
    refine XS.aloadN X12.here hx rfl (hb hby d3_68) rfl rfl ?_
    show SS p e below T12 (mkF m 69 #[vr r0, vr r1, vi (14 : Int32), vi (own_u2 b_6 b_7), uu, uu, uu, uu] [(.ref r0)]) _
    refine XS.bipush X12.here hx rfl (hb hby d3_69) ?_
    show SS p e below T12 (mkF m 71 #[vr r0, vr r1, vi (14 : Int32), vi (own_u2 b_6 b_7), uu, uu, uu, uu] [(.int (8 : Int32)), (.ref r0)]) _
    refine st13.trans ?_
    show SS p e below T13 (mkF m 74 #[vr r0, vr r1, vi (14 : Int32), vi (own_u2 b_6 b_7), uu, uu, uu, uu] [(.int (own_u2 b_8 b_9))]) _
    rw [uz]
    show SS p e below T13 (mkF m 74 #[vr r0, vr r1, vi (14 : Int32), vi (own_u2 b_6 b_7), uu, uu, uu, uu] [(.int (0 : Int32))]) _
    refine XS.istore X13.here hx rfl (hb hby d3_74) rfl (l' := #[vr r0, vr r1, vi (14 : Int32), vi (own_u2 b_6 b_7), vi (0 : Int32), uu, uu, uu]) rfl ?_
    show SS p e below T13 (mkF m 76 #[vr r0, vr r1, vi (14 : Int32), vi (own_u2 b_6 b_7), vi (0 : Int32), uu, uu, uu] []) _
    refine XS.aloadN X13.here hx rfl (hb hby d3_76) rfl rfl ?_
    show SS p e below T13 (mkF m 77 #[vr r0, vr r1, vi (14 : Int32), vi (own_u2 b_6 b_7), vi (0 : Int32), uu, uu, uu] [(.ref r0)]) _
    refine st14 _ ?_
    show SS p e below T14 (mkF m 80 #[vr r0, vr r1, vi (14 : Int32), vi (own_u2 b_6 b_7), vi (0 : Int32), uu, uu, uu] [(.ref en)]) _
    refine X14.arraylength hx (own_at e14 Ar16.1) (State.isArrayOf_alike hZ.alike Ar16.2.1) (g := (mkF m 80 #[vr r0, vr r1, vi (14 : Int32), vi (own_u2 b_6 b_7), vi (0 : Int32), uu, uu, uu] [(.ref en)])) rfl rfl (hb hby d3_80) _ ?_
    rw [len_of S16 Nn16]
    show SS p e below T14 (mkF m 81 #[vr r0, vr r1, vi (14 : Int32), vi (own_u2 b_6 b_7), vi (0 : Int32), uu, uu, uu] [(.int (0 : Int32))]) _
    refine XS.iload X14.here hx rfl (hb hby d3_81) rfl ?_
    show SS p e below T14 (mkF m 83 #[vr r0, vr r1, vi (14 : Int32), vi (own_u2 b_6 b_7), vi (0 : Int32), uu, uu, uu] [(.int (0 : Int32)), (.int (0 : Int32))]) _
    refine XS.icmpYes X14.here hx rfl (pc0 := 83) (pc' := 94) rfl (hb hby d3_83) rfl (flt (by decide : ¬ ((0 : Int32) < (0 : Int32)))).2.1 (by decide) (by decide) ?_
    show SS p e below T14 (mkF m 94 #[vr r0, vr r1, vi (14 : Int32), vi (own_u2 b_6 b_7), vi (0 : Int32), uu, uu, uu] []) _
    refine XS.aloadN X14.here hx rfl (hb hby d3_94) rfl rfl ?_
    show SS p e below T14 (mkF m 95 #[vr r0, vr r1, vi (14 : Int32), vi (own_u2 b_6 b_7), vi (0 : Int32), uu, uu, uu] [(.ref r0)]) _
    refine st18 _ ?_
    show SS p e below T18 (mkF m 98 #[vr r0, vr r1, vi (14 : Int32), vi (own_u2 b_6 b_7), vi (0 : Int32), uu, uu, uu] [(.ref en)]) _
    refine XS.astore X18.here hx rfl (hb hby d3_98) rfl rfl (l' := #[vr r0, vr r1, vi (14 : Int32), vi (own_u2 b_6 b_7), vi (0 : Int32), vr en, uu, uu]) rfl ?_
    show SS p e below T18 (mkF m 100 #[vr r0, vr r1, vi (14 : Int32), vi (own_u2 b_6 b_7), vi (0 : Int32), vr en, uu, uu] []) _
    refine XS.bipush X18.here hx rfl (hb hby d3_100) ?_
    show SS p e below T18 (mkF m 102 #[vr r0, vr r1, vi (14 : Int32), vi (own_u2 b_6 b_7), vi (0 : Int32), vr en, uu, uu] [(.int (10 : Int32))]) _
    refine XS.istore X18.here hx rfl (hb hby d3_102) rfl (l' := #[vr r0, vr r1, vi (14 : Int32), vi (own_u2 b_6 b_7), vi (0 : Int32), vr en, vi (10 : Int32), uu]) rfl ?_
    show SS p e below T18 (mkF m 104 #[vr r0, vr r1, vi (14 : Int32), vi (own_u2 b_6 b_7), vi (0 : Int32), vr en, vi (10 : Int32), uu] []) _
    refine XS.iconst X18.here hx rfl (hb hby d3_104) ?_
    show SS p e below T18 (mkF m 105 #[vr r0, vr r1, vi (14 : Int32), vi (own_u2 b_6 b_7), vi (0 : Int32), vr en, vi (10 : Int32), uu] [(.int (1 : Int32))]) _
    refine XS.istore X18.here hx rfl (hb hby d3_105) rfl (l' := #[vr r0, vr r1, vi (14 : Int32), vi (own_u2 b_6 b_7), vi (0 : Int32), vr en, vi (10 : Int32), vi (1 : Int32)]) rfl ?_
    show SS p e below T18 (mkF m 107 #[vr r0, vr r1, vi (14 : Int32), vi (own_u2 b_6 b_7), vi (0 : Int32), vr en, vi (10 : Int32), vi (1 : Int32)] []) _
    refine XS.iload X18.here hx rfl (hb hby d3_107) rfl ?_
    show SS p e below T18 (mkF m 109 #[vr r0, vr r1, vi (14 : Int32), vi (own_u2 b_6 b_7), vi (0 : Int32), vr en, vi (10 : Int32), vi (1 : Int32)] [(.int (1 : Int32))]) _
    refine XS.iload X18.here hx rfl (hb hby d3_109) rfl ?_
    show SS p e below T18 (mkF m 111 #[vr r0, vr r1, vi (14 : Int32), vi (own_u2 b_6 b_7), vi (0 : Int32), vr en, vi (10 : Int32), vi (1 : Int32)] [(.int (0 : Int32)), (.int (1 : Int32))]) _
    refine XS.icmpYes X18.here hx rfl (pc0 := 111) (pc' := 301) rfl (hb hby d3_111) rfl (flt (by decide : ¬ ((1 : Int32) < (0 : Int32)))).2.1 (by decide) (by decide) ?_
    show SS p e below T18 (mkF m 301 #[vr r0, vr r1, vi (14 : Int32), vi (own_u2 b_6 b_7), vi (0 : Int32), vr en, vi (10 : Int32), vi (1 : Int32)] []) _
    refine XS.aloadN X18.here hx rfl (hb hby d3_301) rfl rfl ?_
    show SS p e below T18 (mkF m 302 #[vr r0, vr r1, vi (14 : Int32), vi (own_u2 b_6 b_7), vi (0 : Int32), vr en, vi (10 : Int32), vi (1 : Int32)] [(.ref r0)]) _
    refine XS.iload X18.here hx rfl (hb hby d3_302) rfl ?_
    show SS p e below T18 (mkF m 304 #[vr r0, vr r1, vi (14 : Int32), vi (own_u2 b_6 b_7), vi (0 : Int32), vr en, vi (10 : Int32), vi (1 : Int32)] [(.int (0 : Int32)), (.ref r0)]) _
    refine st19 _ ?_
    show SS p e below T19 (mkF m 307 #[vr r0, vr r1, vi (14 : Int32), vi (own_u2 b_6 b_7), vi (0 : Int32), vr en, vi (10 : Int32), vi (1 : Int32)] []) _
    refine XS.aloadN X19.here hx rfl (hb hby d3_307) rfl rfl ?_
    show SS p e below T19 (mkF m 308 #[vr r0, vr r1, vi (14 : Int32), vi (own_u2 b_6 b_7), vi (0 : Int32), vr en, vi (10 : Int32), vi (1 : Int32)] [(.ref r0)]) _
    refine XS.iload X19.here hx rfl (hb hby d3_308) rfl ?_
    show SS p e below T19 (mkF m 310 #[vr r0, vr r1, vi (14 : Int32), vi (own_u2 b_6 b_7), vi (0 : Int32), vr en, vi (10 : Int32), vi (1 : Int32)] [(.int (10 : Int32)), (.ref r0)]) _
    refine st20 _ ?_
    show SS p e below T20 (mkF m 313 #[vr r0, vr r1, vi (14 : Int32), vi (own_u2 b_6 b_7), vi (0 : Int32), vr en, vi (10 : Int32), vi (1 : Int32)] []) _
    refine XS.aloadN X20.here hx rfl (hb hby d3_313) rfl rfl ?_
    show SS p e below T20 (mkF m 314 #[vr r0, vr r1, vi (14 : Int32), vi (own_u2 b_6 b_7), vi (0 : Int32), vr en, vi (10 : Int32), vi (1 : Int32)] [(.ref r0)]) _
    exact retOut X20 hx Bd.returns rfl (Or.inr (Or.inr (Or.inr (Or.inr ⟨rfl, rfl, rfl⟩)))) (hb hby d3_314) hr
  · show Q_rmL Z r0 r1 kb b_0 b_1 b_2 b_3 b_4 b_5 b_6 b_7 b_8 b_9 b_10 b_11 b_12 b_13 en ke h0 n0 _ T20.heap _
    rw [e20]
    exact ⟨rfl, N20, K20, c23, c24⟩
theorem ef_4 (m : MethodId) (x0 : Int32) (x1 : Int32) (x2 : Int32) (x3 : Int32) : entryFrame m #[(.int x0), (.int x1), (.int x2), (.int x3)] maxLocals = mkF m 0 #[vi x0, vi x1, vi x2, vi x3, uu, uu, uu, uu] [] := by first | (simp [entryFrame, mkF, argsToLocals, Value.category, maxLocals]; done) | rfl
theorem pn_1 : plainName "com/example/bean_wiring/beanwiring/internal/ClassFileU2PinLaw" = true := by first | (simp [plainName, overriddenIn]; done) | decide +kernel
theorem pd_1 : parseMethodDescriptor "()V" = some ⟨[], none⟩ := by decide +kernel
theorem pd_2 : parseMethodDescriptor "([BI)Lcom/example/bean_wiring/beanwiring/internal/ClassFile;" = some ⟨[(.array .byte), .int], some (.object "com/example/bean_wiring/beanwiring/internal/ClassFile")⟩ := by decide +kernel
def Q_rm0 (Z : State) (p0 : Int32) (p1 : Int32) (p2 : Int32) (p3 : Int32) (vM : Int32) (h0 : Heap) (n0 : Nat) (v : Option Value) (h : Heap) (L : List Loc) : Prop := (v = some (.int 1) ∧ Fr n0 L)
set_option maxRecDepth 65536 in
set_option maxHeartbeats 40000000 in
theorem rm0 (l : Launch) (Z : State) (a0 : Array Value) (hw : ∀ d ∈ tables_1, d.before a0 Z = true) (ws : List Jvm.Cond) (p0 : Int32) (p1 : Int32) (p2 : Int32) (p3 : Int32) (vM : Int32) (h0 : Heap) (n0 : Nat) (Z0 : n0 ≤ h0.size) (uM : ((p3 &&& (2147483647 : Int32)) % (70 : Int32)) = vM) (uM0 : 0 ≤ vM.toInt) (uM1 : vM.toInt < 70) :
    MetFree l x (head1 (Jvm.Cond.code x code maxLocals ret :: ws) room_1) (fun a U => a = #[(.int p0), (.int p1), (.int p2), (.int p3)] ∧ Z.Warmed39 U.vm ∧ U.heap = h0) (fun _ _ _ _ _ => True) (fun _ U o U' => ∃ v L, o = .returned v ∧ Q_rm0 Z p0 p1 p2 p3 vM h0 n0 v U'.heap L ∧ FrameEnd U o U' L room_1.cells room_1.slots) := by
  refine MetFree.of_bodySF (plainFor_of_name pn_1) hisR ?_
  intro p e s m args below meth c s₁ Bd hml0 hP hK
  obtain ⟨rfl, hZ, hh⟩ := hP
  have hx := Bd.exec
  have hby := Bd.bytes
  have hml : c.maxLocals = 8 := hml0
  have hown : s.vm.findClass "com/example/bean_wiring/beanwiring/internal/ClassFileU2PinLaw" = some m.cls := findClass_of_methodNamed Bd.named
  have hnm := (name_of_methodNamed Bd.named Bd.method).1
  have X0 : Stand p l e room_1 s m #[(.int p0), (.int p1), (.int p2), (.int p3)] below meth c s₁ [] 0 0 := Stand.of_body Bd
  have e0 : s₁.heap = h0 := by rw [← hh, Bd.state]; rfl
  have N0 := Fr.nil n0
  have pre0 : ∀ t, Steps p.tables e below (s₁.setTop (mkF m 0 #[vi p0, vi p1, vi p2, vi p3, uu, uu, uu, uu] [])) t → Steps p.tables e below (s₁.setTop (entryFrame m #[(.int p0), (.int p1), (.int p2), (.int p3)] maxLocals)) t := fun t k => castTop (ef_4 m p0 p1 p2 p3) k
  obtain ⟨T1, h1, k1, X1, e1, E1, A1, AX1, st1⟩ := newPE X0 hx hZ (wd hw 1 rfl) e0 (g := (mkF m 11 #[vi p0, vi p1, vi p2, vi p3, vi vM, uu, uu, uu] [(.int (14 : Int32))])) rfl (hb hby at_11) rfl (by decide) (cap := 14) (by decide) (by decide) (by decide) (by decide) (ad := "[B") (by decide)
  obtain ⟨b1, g1⟩ : ∃ z, z = h0.size := ⟨_, rfl⟩
  rw [← g1] at A1 AX1 st1
  have V1 : Arv Z h1 b1 k1 .byte (14 : Int32) [(.int (0 : Int32)), (.int (0 : Int32)), (.int (0 : Int32)), (.int (0 : Int32)), (.int (0 : Int32)), (.int (0 : Int32)), (.int (0 : Int32)), (.int (0 : Int32)), (.int (0 : Int32)), (.int (0 : Int32)), (.int (0 : Int32)), (.int (0 : Int32)), (.int (0 : Int32)), (.int (0 : Int32))] (.int (0 : Int32)) := (Arv.new A1 (by decide)).pad (pad_rep [] (.int (0 : Int32)) 14)
  have g_b1 : n0 ≤ b1 := Nat.le_trans Z0 (Nat.le_of_eq g1.symm)
  have sz_b1 : h0.size ≤ b1 := Nat.le_trans (Keep.refl h0 []).1 (Nat.le_of_eq g1.symm)
  have K1 : Keep h0 h1 [] := (Keep.refl h0 []).ext E1
  have Z1 : n0 ≤ h1.size := Nat.le_trans Z0 E1.1
  obtain ⟨cl2, Ar2, q2, S2, Nn2, H2, G2⟩ := (id V1)
  have hin2 : ¬ ((0 : Int32) < 0 ∨ cl2.slots.size ≤ ((0 : Int32)).toNatClampNeg) := inb_of S2 ⟨by decide, by decide⟩
  obtain ⟨T2, h2, X2, e2, W2, st2⟩ := stB X1 hx hZ e1 Ar2 (j := (0 : Int32)) hin2 (g := (mkF m 20 #[vi p0, vi p1, vi p2, vi p3, vi vM, vr b1, uu, uu] [(.int (-54 : Int32)), (.int (0 : Int32)), (.ref b1)])) rfl rfl (hb hby at_20)
  have V2 : Arv Z h2 b1 k1 .byte (14 : Int32) [(.int (nar .byte (-54 : Int32))), (.int (0 : Int32)), (.int (0 : Int32)), (.int (0 : Int32)), (.int (0 : Int32)), (.int (0 : Int32)), (.int (0 : Int32)), (.int (0 : Int32)), (.int (0 : Int32)), (.int (0 : Int32)), (.int (0 : Int32)), (.int (0 : Int32)), (.int (0 : Int32)), (.int (0 : Int32))] (.int (0 : Int32)) := Arv.set Ar2 q2 S2 Nn2 H2 G2 (fits_nar_byte _) W2 0 rfl (Nat.le_of_ble_eq_true rfl)
  have N2 := Fr.snoc X2 N0 g_b1
  have K2 : Keep h0 h2 [] := K1.wr W2 (Or.inr sz_b1)
  have Z2 : n0 ≤ h2.size := by rw [W2.size]; exact Z1
  obtain ⟨cl3, Ar3, q3, S3, Nn3, H3, G3⟩ := (id V2)
  have hin3 : ¬ ((1 : Int32) < 0 ∨ cl3.slots.size ≤ ((1 : Int32)).toNatClampNeg) := inb_of S3 ⟨by decide, by decide⟩
  obtain ⟨T3, h3, X3, e3, W3, st3⟩ := stB X2 hx hZ e2 Ar3 (j := (1 : Int32)) hin3 (g := (mkF m 26 #[vi p0, vi p1, vi p2, vi p3, vi vM, vr b1, uu, uu] [(.int (-2 : Int32)), (.int (1 : Int32)), (.ref b1)])) rfl rfl (hb hby at_26)
  have V3 : Arv Z h3 b1 k1 .byte (14 : Int32) [(.int (nar .byte (-54 : Int32))), (.int (nar .byte (-2 : Int32))), (.int (0 : Int32)), (.int (0 : Int32)), (.int (0 : Int32)), (.int (0 : Int32)), (.int (0 : Int32)), (.int (0 : Int32)), (.int (0 : Int32)), (.int (0 : Int32)), (.int (0 : Int32)), (.int (0 : Int32)), (.int (0 : Int32)), (.int (0 : Int32))] (.int (0 : Int32)) := Arv.set Ar3 q3 S3 Nn3 H3 G3 (fits_nar_byte _) W3 1 rfl (Nat.le_of_ble_eq_true rfl)
  have N3 := Fr.snoc X3 N2 g_b1
  have K3 : Keep h0 h3 [] := K2.wr W3 (Or.inr sz_b1)
  have Z3 : n0 ≤ h3.size := by rw [W3.size]; exact Z2
  obtain ⟨cl4, Ar4, q4, S4, Nn4, H4, G4⟩ := (id V3)
  have hin4 : ¬ ((2 : Int32) < 0 ∨ cl4.slots.size ≤ ((2 : Int32)).toNatClampNeg) := inb_of S4 ⟨by decide, by decide⟩
  obtain ⟨T4, h4, X4, e4, W4, st4⟩ := stB X3 hx hZ e3 Ar4 (j := (2 : Int32)) hin4 (g := (mkF m 32 #[vi p0, vi p1, vi p2, vi p3, vi vM, vr b1, uu, uu] [(.int (-70 : Int32)), (.int (2 : Int32)), (.ref b1)])) rfl rfl (hb hby at_32)
  have V4 : Arv Z h4 b1 k1 .byte (14 : Int32) [(.int (nar .byte (-54 : Int32))), (.int (nar .byte (-2 : Int32))), (.int (nar .byte (-70 : Int32))), (.int (0 : Int32)), (.int (0 : Int32)), (.int (0 : Int32)), (.int (0 : Int32)), (.int (0 : Int32)), (.int (0 : Int32)), (.int (0 : Int32)), (.int (0 : Int32)), (.int (0 : Int32)), (.int (0 : Int32)), (.int (0 : Int32))] (.int (0 : Int32)) := Arv.set Ar4 q4 S4 Nn4 H4 G4 (fits_nar_byte _) W4 2 rfl (Nat.le_of_ble_eq_true rfl)
  have N4 := Fr.snoc X4 N3 g_b1
  have K4 : Keep h0 h4 [] := K3.wr W4 (Or.inr sz_b1)
  have Z4 : n0 ≤ h4.size := by rw [W4.size]; exact Z3
  obtain ⟨cl5, Ar5, q5, S5, Nn5, H5, G5⟩ := (id V4)
  have hin5 : ¬ ((3 : Int32) < 0 ∨ cl5.slots.size ≤ ((3 : Int32)).toNatClampNeg) := inb_of S5 ⟨by decide, by decide⟩
  obtain ⟨T5, h5, X5, e5, W5, st5⟩ := stB X4 hx hZ e4 Ar5 (j := (3 : Int32)) hin5 (g := (mkF m 38 #[vi p0, vi p1, vi p2, vi p3, vi vM, vr b1, uu, uu] [(.int (-66 : Int32)), (.int (3 : Int32)), (.ref b1)])) rfl rfl (hb hby at_38)
  have V5 : Arv Z h5 b1 k1 .byte (14 : Int32) [(.int (nar .byte (-54 : Int32))), (.int (nar .byte (-2 : Int32))), (.int (nar .byte (-70 : Int32))), (.int (nar .byte (-66 : Int32))), (.int (0 : Int32)), (.int (0 : Int32)), (.int (0 : Int32)), (.int (0 : Int32)), (.int (0 : Int32)), (.int (0 : Int32)), (.int (0 : Int32)), (.int (0 : Int32)), (.int (0 : Int32)), (.int (0 : Int32))] (.int (0 : Int32)) := Arv.set Ar5 q5 S5 Nn5 H5 G5 (fits_nar_byte _) W5 3 rfl (Nat.le_of_ble_eq_true rfl)
  have N5 := Fr.snoc X5 N4 g_b1
  have K5 : Keep h0 h5 [] := K4.wr W5 (Or.inr sz_b1)
  have Z5 : n0 ≤ h5.size := by rw [W5.size]; exact Z4
  obtain ⟨cl6, Ar6, q6, S6, Nn6, H6, G6⟩ := (id V5)
  have hin6 : ¬ ((4 : Int32) < 0 ∨ cl6.slots.size ≤ ((4 : Int32)).toNatClampNeg) := inb_of S6 ⟨by decide, by decide⟩
  obtain ⟨T6, h6, X6, e6, W6, st6⟩ := stB X5 hx hZ e5 Ar6 (j := (4 : Int32)) hin6 (g := (mkF m 47 #[vi p0, vi p1, vi p2, vi p3, vi vM, vr b1, uu, uu] [(.int (((p2.toUInt32 >>> ((8 : Int32) &&& 31).toUInt32).toInt32).toInt8.toInt32)), (.int (4 : Int32)), (.ref b1)])) rfl rfl (hb hby at_47)
  have V6 : Arv Z h6 b1 k1 .byte (14 : Int32) [(.int (nar .byte (-54 : Int32))), (.int (nar .byte (-2 : Int32))), (.int (nar .byte (-70 : Int32))), (.int (nar .byte (-66 : Int32))), (.int (nar .byte (((p2.toUInt32 >>> ((8 : Int32) &&& 31).toUInt32).toInt32).toInt8.toInt32))), (.int (0 : Int32)), (.int (0 : Int32)), (.int (0 : Int32)), (.int (0 : Int32)), (.int (0 : Int32)), (.int (0 : Int32)), (.int (0 : Int32)), (.int (0 : Int32)), (.int (0 : Int32))] (.int (0 : Int32)) := Arv.set Ar6 q6 S6 Nn6 H6 G6 (fits_nar_byte _) W6 4 rfl (Nat.le_of_ble_eq_true rfl)
  have N6 := Fr.snoc X6 N5 g_b1
  have K6 : Keep h0 h6 [] := K5.wr W6 (Or.inr sz_b1)
  have Z6 : n0 ≤ h6.size := by rw [W6.size]; exact Z5
  obtain ⟨cl7, Ar7, q7, S7, Nn7, H7, G7⟩ := (id V6)
  have hin7 : ¬ ((5 : Int32) < 0 ∨ cl7.slots.size ≤ ((5 : Int32)).toNatClampNeg) := inb_of S7 ⟨by decide, by decide⟩
  obtain ⟨T7, h7, X7, e7, W7, st7⟩ := stB X6 hx hZ e6 Ar7 (j := (5 : Int32)) hin7 (g := (mkF m 53 #[vi p0, vi p1, vi p2, vi p3, vi vM, vr b1, uu, uu] [(.int (p2.toInt8.toInt32)), (.int (5 : Int32)), (.ref b1)])) rfl rfl (hb hby at_53)
  have V7 : Arv Z h7 b1 k1 .byte (14 : Int32) [(.int (nar .byte (-54 : Int32))), (.int (nar .byte (-2 : Int32))), (.int (nar .byte (-70 : Int32))), (.int (nar .byte (-66 : Int32))), (.int (nar .byte (((p2.toUInt32 >>> ((8 : Int32) &&& 31).toUInt32).toInt32).toInt8.toInt32))), (.int (nar .byte (p2.toInt8.toInt32))), (.int (0 : Int32)), (.int (0 : Int32)), (.int (0 : Int32)), (.int (0 : Int32)), (.int (0 : Int32)), (.int (0 : Int32)), (.int (0 : Int32)), (.int (0 : Int32))] (.int (0 : Int32)) := Arv.set Ar7 q7 S7 Nn7 H7 G7 (fits_nar_byte _) W7 5 rfl (Nat.le_of_ble_eq_true rfl)
  have N7 := Fr.snoc X7 N6 g_b1
  have K7 : Keep h0 h7 [] := K6.wr W7 (Or.inr sz_b1)
  have Z7 : n0 ≤ h7.size := by rw [W7.size]; exact Z6
  obtain ⟨cl8, Ar8, q8, S8, Nn8, H8, G8⟩ := (id V7)
  have hin8 : ¬ ((6 : Int32) < 0 ∨ cl8.slots.size ≤ ((6 : Int32)).toNatClampNeg) := inb_of S8 ⟨by decide, by decide⟩
  obtain ⟨T8, h8, X8, e8, W8, st8⟩ := stB X7 hx hZ e7 Ar8 (j := (6 : Int32)) hin8 (g := (mkF m 64 #[vi p0, vi p1, vi p2, vi p3, vi vM, vr b1, uu, uu] [(.int (((vM.toUInt32 >>> ((8 : Int32) &&& 31).toUInt32).toInt32).toInt8.toInt32)), (.int (6 : Int32)), (.ref b1)])) rfl rfl (hb hby at_64)
  have V8 : Arv Z h8 b1 k1 .byte (14 : Int32) [(.int (nar .byte (-54 : Int32))), (.int (nar .byte (-2 : Int32))), (.int (nar .byte (-70 : Int32))), (.int (nar .byte (-66 : Int32))), (.int (nar .byte (((p2.toUInt32 >>> ((8 : Int32) &&& 31).toUInt32).toInt32).toInt8.toInt32))), (.int (nar .byte (p2.toInt8.toInt32))), (.int (nar .byte (((vM.toUInt32 >>> ((8 : Int32) &&& 31).toUInt32).toInt32).toInt8.toInt32))), (.int (0 : Int32)), (.int (0 : Int32)), (.int (0 : Int32)), (.int (0 : Int32)), (.int (0 : Int32)), (.int (0 : Int32)), (.int (0 : Int32))] (.int (0 : Int32)) := Arv.set Ar8 q8 S8 Nn8 H8 G8 (fits_nar_byte _) W8 6 rfl (Nat.le_of_ble_eq_true rfl)
  have N8 := Fr.snoc X8 N7 g_b1
  have K8 : Keep h0 h8 [] := K7.wr W8 (Or.inr sz_b1)
  have Z8 : n0 ≤ h8.size := by rw [W8.size]; exact Z7
  obtain ⟨cl9, Ar9, q9, S9, Nn9, H9, G9⟩ := (id V8)
  have hin9 : ¬ ((7 : Int32) < 0 ∨ cl9.slots.size ≤ ((7 : Int32)).toNatClampNeg) := inb_of S9 ⟨by decide, by decide⟩
  obtain ⟨T9, h9, X9, e9, W9, st9⟩ := stB X8 hx hZ e8 Ar9 (j := (7 : Int32)) hin9 (g := (mkF m 72 #[vi p0, vi p1, vi p2, vi p3, vi vM, vr b1, uu, uu] [(.int (vM.toInt8.toInt32)), (.int (7 : Int32)), (.ref b1)])) rfl rfl (hb hby at_72)
  have V9 : Arv Z h9 b1 k1 .byte (14 : Int32) [(.int (nar .byte (-54 : Int32))), (.int (nar .byte (-2 : Int32))), (.int (nar .byte (-70 : Int32))), (.int (nar .byte (-66 : Int32))), (.int (nar .byte (((p2.toUInt32 >>> ((8 : Int32) &&& 31).toUInt32).toInt32).toInt8.toInt32))), (.int (nar .byte (p2.toInt8.toInt32))), (.int (nar .byte (((vM.toUInt32 >>> ((8 : Int32) &&& 31).toUInt32).toInt32).toInt8.toInt32))), (.int (nar .byte (vM.toInt8.toInt32))), (.int (0 : Int32)), (.int (0 : Int32)), (.int (0 : Int32)), (.int (0 : Int32)), (.int (0 : Int32)), (.int (0 : Int32))] (.int (0 : Int32)) := Arv.set Ar9 q9 S9 Nn9 H9 G9 (fits_nar_byte _) W9 7 rfl (Nat.le_of_ble_eq_true rfl)
  have N9 := Fr.snoc X9 N8 g_b1
  have K9 : Keep h0 h9 [] := K8.wr W9 (Or.inr sz_b1)
  have Z9 : n0 ≤ h9.size := by rw [W9.size]; exact Z8
  obtain ⟨cl10, Ar10, q10, S10, Nn10, H10, G10⟩ := (id V9)
  have hin10 : ¬ ((8 : Int32) < 0 ∨ cl10.slots.size ≤ ((8 : Int32)).toNatClampNeg) := inb_of S10 ⟨by decide, by decide⟩
  obtain ⟨T10, h10, X10, e10, W10, st10⟩ := stB X9 hx hZ e9 Ar10 (j := (8 : Int32)) hin10 (g := (mkF m 78 #[vi p0, vi p1, vi p2, vi p3, vi vM, vr b1, uu, uu] [(.int (0 : Int32)), (.int (8 : Int32)), (.ref b1)])) rfl rfl (hb hby at_78)
  have V10 : Arv Z h10 b1 k1 .byte (14 : Int32) [(.int (nar .byte (-54 : Int32))), (.int (nar .byte (-2 : Int32))), (.int (nar .byte (-70 : Int32))), (.int (nar .byte (-66 : Int32))), (.int (nar .byte (((p2.toUInt32 >>> ((8 : Int32) &&& 31).toUInt32).toInt32).toInt8.toInt32))), (.int (nar .byte (p2.toInt8.toInt32))), (.int (nar .byte (((vM.toUInt32 >>> ((8 : Int32) &&& 31).toUInt32).toInt32).toInt8.toInt32))), (.int (nar .byte (vM.toInt8.toInt32))), (.int (nar .byte (0 : Int32))), (.int (0 : Int32)), (.int (0 : Int32)), (.int (0 : Int32)), (.int (0 : Int32)), (.int (0 : Int32))] (.int (0 : Int32)) := Arv.set Ar10 q10 S10 Nn10 H10 G10 (fits_nar_byte _) W10 8 rfl (Nat.le_of_ble_eq_true rfl)
  have N10 := Fr.snoc X10 N9 g_b1
  have K10 : Keep h0 h10 [] := K9.wr W10 (Or.inr sz_b1)
  have Z10 : n0 ≤ h10.size := by rw [W10.size]; exact Z9
  obtain ⟨cl11, Ar11, q11, S11, Nn11, H11, G11⟩ := (id V10)
  have hin11 : ¬ ((9 : Int32) < 0 ∨ cl11.slots.size ≤ ((9 : Int32)).toNatClampNeg) := inb_of S11 ⟨by decide, by decide⟩
  obtain ⟨T11, h11, X11, e11, W11, st11⟩ := stB X10 hx hZ e10 Ar11 (j := (9 : Int32)) hin11 (g := (mkF m 84 #[vi p0, vi p1, vi p2, vi p3, vi vM, vr b1, uu, uu] [(.int (0 : Int32)), (.int (9 : Int32)), (.ref b1)])) rfl rfl (hb hby at_84)
  have V11 : Arv Z h11 b1 k1 .byte (14 : Int32) [(.int (nar .byte (-54 : Int32))), (.int (nar .byte (-2 : Int32))), (.int (nar .byte (-70 : Int32))), (.int (nar .byte (-66 : Int32))), (.int (nar .byte (((p2.toUInt32 >>> ((8 : Int32) &&& 31).toUInt32).toInt32).toInt8.toInt32))), (.int (nar .byte (p2.toInt8.toInt32))), (.int (nar .byte (((vM.toUInt32 >>> ((8 : Int32) &&& 31).toUInt32).toInt32).toInt8.toInt32))), (.int (nar .byte (vM.toInt8.toInt32))), (.int (nar .byte (0 : Int32))), (.int (nar .byte (0 : Int32))), (.int (0 : Int32)), (.int (0 : Int32)), (.int (0 : Int32)), (.int (0 : Int32))] (.int (0 : Int32)) := Arv.set Ar11 q11 S11 Nn11 H11 G11 (fits_nar_byte _) W11 9 rfl (Nat.le_of_ble_eq_true rfl)
  have N11 := Fr.snoc X11 N10 g_b1
  have K11 : Keep h0 h11 [] := K10.wr W11 (Or.inr sz_b1)
  have Z11 : n0 ≤ h11.size := by rw [W11.size]; exact Z10
  obtain ⟨cl12, Ar12, q12, S12, Nn12, H12, G12⟩ := (id V11)
  have hin12 : ¬ ((10 : Int32) < 0 ∨ cl12.slots.size ≤ ((10 : Int32)).toNatClampNeg) := inb_of S12 ⟨by decide, by decide⟩
  obtain ⟨T12, h12, X12, e12, W12, st12⟩ := stB X11 hx hZ e11 Ar12 (j := (10 : Int32)) hin12 (g := (mkF m 94 #[vi p0, vi p1, vi p2, vi p3, vi vM, vr b1, uu, uu] [(.int (((p0.toUInt32 >>> ((8 : Int32) &&& 31).toUInt32).toInt32).toInt8.toInt32)), (.int (10 : Int32)), (.ref b1)])) rfl rfl (hb hby at_94)
  have V12 : Arv Z h12 b1 k1 .byte (14 : Int32) [(.int (nar .byte (-54 : Int32))), (.int (nar .byte (-2 : Int32))), (.int (nar .byte (-70 : Int32))), (.int (nar .byte (-66 : Int32))), (.int (nar .byte (((p2.toUInt32 >>> ((8 : Int32) &&& 31).toUInt32).toInt32).toInt8.toInt32))), (.int (nar .byte (p2.toInt8.toInt32))), (.int (nar .byte (((vM.toUInt32 >>> ((8 : Int32) &&& 31).toUInt32).toInt32).toInt8.toInt32))), (.int (nar .byte (vM.toInt8.toInt32))), (.int (nar .byte (0 : Int32))), (.int (nar .byte (0 : Int32))), (.int (nar .byte (((p0.toUInt32 >>> ((8 : Int32) &&& 31).toUInt32).toInt32).toInt8.toInt32))), (.int (0 : Int32)), (.int (0 : Int32)), (.int (0 : Int32))] (.int (0 : Int32)) := Arv.set Ar12 q12 S12 Nn12 H12 G12 (fits_nar_byte _) W12 10 rfl (Nat.le_of_ble_eq_true rfl)
  have N12 := Fr.snoc X12 N11 g_b1
  have K12 : Keep h0 h12 [] := K11.wr W12 (Or.inr sz_b1)
  have Z12 : n0 ≤ h12.size := by rw [W12.size]; exact Z11
  obtain ⟨cl13, Ar13, q13, S13, Nn13, H13, G13⟩ := (id V12)
  have hin13 : ¬ ((11 : Int32) < 0 ∨ cl13.slots.size ≤ ((11 : Int32)).toNatClampNeg) := inb_of S13 ⟨by decide, by decide⟩
  obtain ⟨T13, h13, X13, e13, W13, st13⟩ := stB X12 hx hZ e12 Ar13 (j := (11 : Int32)) hin13 (g := (mkF m 101 #[vi p0, vi p1, vi p2, vi p3, vi vM, vr b1, uu, uu] [(.int (p0.toInt8.toInt32)), (.int (11 : Int32)), (.ref b1)])) rfl rfl (hb hby at_101)
  have V13 : Arv Z h13 b1 k1 .byte (14 : Int32) [(.int (nar .byte (-54 : Int32))), (.int (nar .byte (-2 : Int32))), (.int (nar .byte (-70 : Int32))), (.int (nar .byte (-66 : Int32))), (.int (nar .byte (((p2.toUInt32 >>> ((8 : Int32) &&& 31).toUInt32).toInt32).toInt8.toInt32))), (.int (nar .byte (p2.toInt8.toInt32))), (.int (nar .byte (((vM.toUInt32 >>> ((8 : Int32) &&& 31).toUInt32).toInt32).toInt8.toInt32))), (.int (nar .byte (vM.toInt8.toInt32))), (.int (nar .byte (0 : Int32))), (.int (nar .byte (0 : Int32))), (.int (nar .byte (((p0.toUInt32 >>> ((8 : Int32) &&& 31).toUInt32).toInt32).toInt8.toInt32))), (.int (nar .byte (p0.toInt8.toInt32))), (.int (0 : Int32)), (.int (0 : Int32))] (.int (0 : Int32)) := Arv.set Ar13 q13 S13 Nn13 H13 G13 (fits_nar_byte _) W13 11 rfl (Nat.le_of_ble_eq_true rfl)
  have N13 := Fr.snoc X13 N12 g_b1
  have K13 : Keep h0 h13 [] := K12.wr W13 (Or.inr sz_b1)
  have Z13 : n0 ≤ h13.size := by rw [W13.size]; exact Z12
  obtain ⟨cl14, Ar14, q14, S14, Nn14, H14, G14⟩ := (id V13)
  have hin14 : ¬ ((12 : Int32) < 0 ∨ cl14.slots.size ≤ ((12 : Int32)).toNatClampNeg) := inb_of S14 ⟨by decide, by decide⟩
  obtain ⟨T14, h14, X14, e14, W14, st14⟩ := stB X13 hx hZ e13 Ar14 (j := (12 : Int32)) hin14 (g := (mkF m 111 #[vi p0, vi p1, vi p2, vi p3, vi vM, vr b1, uu, uu] [(.int (((p1.toUInt32 >>> ((8 : Int32) &&& 31).toUInt32).toInt32).toInt8.toInt32)), (.int (12 : Int32)), (.ref b1)])) rfl rfl (hb hby at_111)
  have V14 : Arv Z h14 b1 k1 .byte (14 : Int32) [(.int (nar .byte (-54 : Int32))), (.int (nar .byte (-2 : Int32))), (.int (nar .byte (-70 : Int32))), (.int (nar .byte (-66 : Int32))), (.int (nar .byte (((p2.toUInt32 >>> ((8 : Int32) &&& 31).toUInt32).toInt32).toInt8.toInt32))), (.int (nar .byte (p2.toInt8.toInt32))), (.int (nar .byte (((vM.toUInt32 >>> ((8 : Int32) &&& 31).toUInt32).toInt32).toInt8.toInt32))), (.int (nar .byte (vM.toInt8.toInt32))), (.int (nar .byte (0 : Int32))), (.int (nar .byte (0 : Int32))), (.int (nar .byte (((p0.toUInt32 >>> ((8 : Int32) &&& 31).toUInt32).toInt32).toInt8.toInt32))), (.int (nar .byte (p0.toInt8.toInt32))), (.int (nar .byte (((p1.toUInt32 >>> ((8 : Int32) &&& 31).toUInt32).toInt32).toInt8.toInt32))), (.int (0 : Int32))] (.int (0 : Int32)) := Arv.set Ar14 q14 S14 Nn14 H14 G14 (fits_nar_byte _) W14 12 rfl (Nat.le_of_ble_eq_true rfl)
  have N14 := Fr.snoc X14 N13 g_b1
  have K14 : Keep h0 h14 [] := K13.wr W14 (Or.inr sz_b1)
  have Z14 : n0 ≤ h14.size := by rw [W14.size]; exact Z13
  obtain ⟨cl15, Ar15, q15, S15, Nn15, H15, G15⟩ := (id V14)
  have hin15 : ¬ ((13 : Int32) < 0 ∨ cl15.slots.size ≤ ((13 : Int32)).toNatClampNeg) := inb_of S15 ⟨by decide, by decide⟩
  obtain ⟨T15, h15, X15, e15, W15, st15⟩ := stB X14 hx hZ e14 Ar15 (j := (13 : Int32)) hin15 (g := (mkF m 118 #[vi p0, vi p1, vi p2, vi p3, vi vM, vr b1, uu, uu] [(.int (p1.toInt8.toInt32)), (.int (13 : Int32)), (.ref b1)])) rfl rfl (hb hby at_118)
  have V15 : Arv Z h15 b1 k1 .byte (14 : Int32) [(.int (nar .byte (-54 : Int32))), (.int (nar .byte (-2 : Int32))), (.int (nar .byte (-70 : Int32))), (.int (nar .byte (-66 : Int32))), (.int (nar .byte (((p2.toUInt32 >>> ((8 : Int32) &&& 31).toUInt32).toInt32).toInt8.toInt32))), (.int (nar .byte (p2.toInt8.toInt32))), (.int (nar .byte (((vM.toUInt32 >>> ((8 : Int32) &&& 31).toUInt32).toInt32).toInt8.toInt32))), (.int (nar .byte (vM.toInt8.toInt32))), (.int (nar .byte (0 : Int32))), (.int (nar .byte (0 : Int32))), (.int (nar .byte (((p0.toUInt32 >>> ((8 : Int32) &&& 31).toUInt32).toInt32).toInt8.toInt32))), (.int (nar .byte (p0.toInt8.toInt32))), (.int (nar .byte (((p1.toUInt32 >>> ((8 : Int32) &&& 31).toUInt32).toInt32).toInt8.toInt32))), (.int (nar .byte (p1.toInt8.toInt32)))] (.int (0 : Int32)) := Arv.set Ar15 q15 S15 Nn15 H15 G15 (fits_nar_byte _) W15 13 rfl (Nat.le_of_ble_eq_true rfl)
  have N15 := Fr.snoc X15 N14 g_b1
  have K15 : Keep h0 h15 [] := K14.wr W15 (Or.inr sz_b1)
  have Z15 : n0 ≤ h15.size := by rw [W15.size]; exact Z14
  obtain ⟨T16, h16, X16, e16, E16, A16, D16, Un16, st16⟩ := newO X15 hx hZ hown (wd hw 2 rfl) (wd hw 3 rfl) (wd hw 4 rfl) e15 (g := (mkF m 119 #[vi p0, vi p1, vi p2, vi p3, vi vM, vr b1, uu, uu] [])) rfl (hb hby at_119) (by decide) (by decide)
  obtain ⟨b16, g16⟩ : ∃ z, z = h15.size := ⟨_, rfl⟩
  rw [← g16] at A16 D16 Un16 st16
  have ne_b1_b16 : b1 ≠ b16 := Nat.ne_of_lt (Nat.lt_of_lt_of_le V15.lt (Nat.le_of_eq g16.symm))
  have F16_entries : Fld Z h16 b16 "com/example/bean_wiring/beanwiring/internal/ClassFile" "entries" "[I" .null := D16 (Or.inl (wd hw 13 rfl)) (ty := (.array .int)) (by decide)
  have F16_bytes : Fld Z h16 b16 "com/example/bean_wiring/beanwiring/internal/ClassFile" "bytes" "[B" .null := D16 (Or.inl (wd hw 20 rfl)) (ty := (.array .byte)) (by decide)
  have F16_length : Fld Z h16 b16 "com/example/bean_wiring/beanwiring/internal/ClassFile" "length" "I" (.int (0 : Int32)) := D16 (Or.inl (wd hw 22 rfl)) (ty := .int) (by decide)
  have F16_count : Fld Z h16 b16 "com/example/bean_wiring/beanwiring/internal/ClassFile" "count" "I" (.int (0 : Int32)) := D16 (Or.inl (wd hw 24 rfl)) (ty := .int) (by decide)
  have F16_header : Fld Z h16 b16 "com/example/bean_wiring/beanwiring/internal/ClassFile" "header" "I" (.int (0 : Int32)) := D16 (Or.inl (wd hw 37 rfl)) (ty := .int) (by decide)
  have g_b16 : n0 ≤ b16 := Nat.le_trans Z15 (Nat.le_of_eq g16.symm)
  have sz_b16 : h0.size ≤ b16 := Nat.le_trans K15.1 (Nat.le_of_eq g16.symm)
  have K16 : Keep h0 h16 [] := K15.ext E16
  have Z16 : n0 ≤ h16.size := Nat.le_trans Z15 E16.1
  obtain ⟨_, _, ⟨T17, Lw17, kw17, nw17⟩, -, X17, ⟨Lc17, hQ17, lq17, yq17, zq17⟩, st17⟩ := X16.specialBack hx (y := (⟨"com/example/bean_wiring/beanwiring/internal/ClassFile", "<init>", "()V"⟩ : MethodName)) rfl hown (mvT hZ (wd hw 5 rfl)) (mvT hZ (wd hw 6 rfl)) (mvT hZ (wd hw 7 rfl)) (by decide) (backOf (W := 1) (rmI l Z a0 hw [] b16 h16 n0 Z16 A16 F16_bytes F16_length F16_count F16_header F16_entries g_b16) hZ (wd hw 7 rfl) (wd hw 4 rfl) (by decide) (by decide)) (g := (mkF m 123 #[vi p0, vi p1, vi p2, vi p3, vi vM, vr b1, uu, uu] [(.ref b16), (.ref b16)])) rfl (by rw [hml]; rfl) (Steps.refl _) (a := b16) (argsL := []) (rest := [(.ref b16)]) (lenOf pd_1 rfl) rfl (by show 2 * 0 + _ ≤ _; exact Nat.le_of_eq rfl) (hb hby at_123) (fun _ _ => ⟨rfl, e16, (by decide : 2 + 1 ≤ _), (by decide : 19 + 0 ≤ _)⟩)
  dsimp only [Pt.U, Pt.locs, Pt.cells, Pt.slots] at X17 lq17 yq17 zq17 st17 hQ17
  have X17 := own_reb X17 lq17 yq17 zq17
  obtain ⟨en_17, ke_17, rfl, Nq17, Kq17, f17_0, f17_1, f17_2, f17_3, f17_4, f17_5, f17_6, f17_7⟩ := hQ17
  have N17 := Fr.app N15 Nq17
  have c18 := (V15.ext E16)
  have ne_b1_en_17 : b1 ≠ en_17 := Nat.ne_of_lt (Nat.lt_of_lt_of_le c18.lt f17_6)
  have ne_b16_en_17 : b16 ≠ en_17 := Nat.ne_of_lt (Nat.lt_of_lt_of_le A16.lt f17_6)
  have g_en_17 : n0 ≤ en_17 := Nat.le_trans Z16 f17_6
  have sz_en_17 : h0.size ≤ en_17 := Nat.le_trans K16.1 f17_6
  have K17 : Keep h0 T17.heap [] := K16.trans Kq17 (allS (Or.inr sz_b16) all0)
  have Z17 : n0 ≤ T17.heap.size := Nat.le_trans Z16 Kq17.1
  have c20 := ((V15.ext E16).keep Kq17 (ninS ne_b1_b16 nin0))
  obtain ⟨cq19, kq19, q19a, q19b, q19c⟩ := isOf hZ rfl f17_0
  obtain ⟨_, _, ⟨T19, Lw19, kw19, nw19⟩, -, X19, ⟨Lc19, hQ19, lq19, yq19, zq19⟩, st19⟩ := X17.virtualBack hx (y := (⟨"com/example/bean_wiring/beanwiring/internal/ClassFile", "layOut", "([BI)Lcom/example/bean_wiring/beanwiring/internal/ClassFile;"⟩ : MethodName)) (z := (⟨"com/example/bean_wiring/beanwiring/internal/ClassFile", "layOut", "([BI)Lcom/example/bean_wiring/beanwiring/internal/ClassFile;"⟩ : MethodName)) hown (mvT hZ (wd hw 14 rfl)) (mvT hZ (wd hw 15 rfl)) (notFace_of_selects (args := #[]) (mvT hZ (wd hw 17 rfl))) (mvT hZ (wd hw 17 rfl)) (mvT hZ (wd hw 16 rfl)) (by decide) (backOf (W := 0) (rmL l Z a0 hw [] b16 b1 k1 (nar .byte (-54 : Int32)) (nar .byte (-2 : Int32)) (nar .byte (-70 : Int32)) (nar .byte (-66 : Int32)) (nar .byte (((p2.toUInt32 >>> ((8 : Int32) &&& 31).toUInt32).toInt32).toInt8.toInt32)) (nar .byte (p2.toInt8.toInt32)) (nar .byte (((vM.toUInt32 >>> ((8 : Int32) &&& 31).toUInt32).toInt32).toInt8.toInt32)) (nar .byte (vM.toInt8.toInt32)) (nar .byte (0 : Int32)) (nar .byte (0 : Int32)) (nar .byte (((p0.toUInt32 >>> ((8 : Int32) &&& 31).toUInt32).toInt32).toInt8.toInt32)) (nar .byte (p0.toInt8.toInt32)) (nar .byte (((p1.toUInt32 >>> ((8 : Int32) &&& 31).toUInt32).toInt32).toInt8.toInt32)) (nar .byte (p1.toInt8.toInt32)) en_17 ke_17 T17.heap n0 Z17 f17_0 f17_1 f17_2 f17_3 f17_4 f17_5 f17_7 c20 g_b16 (by decide) (own_um vM uM0 uM1) (by decide)) hZ (wd hw 18 rfl) (wd hw 4 rfl) (by decide) (by decide)) q19a q19c (g := (mkF m 134 #[vi p0, vi p1, vi p2, vi p3, vi vM, vr b1, vr b16, uu] [(.int (14 : Int32)), (.ref b1), (.ref b16)])) rfl (by rw [hml]; rfl) (Steps.refl _) (argsL := [(.ref b1), (.int (14 : Int32))]) (rest := []) (lenOf pd_2 rfl) rfl (by show 2 * 0 + _ ≤ _; exact Nat.le_of_eq rfl) (hb hby at_134) (fun _ _ => ⟨rfl, rfl, (by decide : 3 + 0 ≤ _), (by decide : 19 + 0 ≤ _)⟩)
  dsimp only [Pt.U, Pt.locs, Pt.cells, Pt.slots] at X19 lq19 yq19 zq19 st19 hQ19
  have X19 := own_reb X19 lq19 yq19 zq19
  obtain ⟨rfl, Nq19, Kq19, f19_0, f19_1⟩ := hQ19
  have N19 := Fr.app N17 Nq19
  have K19 : Keep h0 T19.heap [] := K17.trans Kq19 (allS (Or.inr sz_b16) all0)
  have Z19 : n0 ≤ T19.heap.size := Nat.le_trans Z17 Kq19.1
  have c22 := (c20.keep Kq19 (ninS ne_b1_b16 nin0))
  obtain ⟨cq21, kq21, q21a, q21b, q21c⟩ := isOf hZ rfl f19_0
  obtain ⟨_, _, ⟨T21, Lw21, kw21, nw21⟩, -, X21, ⟨Lc21, hQ21, lq21, yq21, zq21⟩, st21⟩ := X19.virtualBack hx (y := (⟨"com/example/bean_wiring/beanwiring/internal/ClassFile", "u2", "(I)I"⟩ : MethodName)) (z := (⟨"com/example/bean_wiring/beanwiring/internal/ClassFile", "u2", "(I)I"⟩ : MethodName)) hown (mvT hZ (wd hw 38 rfl)) (mvT hZ (wd hw 31 rfl)) (notFace_of_selects (args := #[]) (mvT hZ (wd hw 33 rfl))) (mvT hZ (wd hw 33 rfl)) (mvT hZ (wd hw 32 rfl)) (by decide) (backOf (W := 0) (rmU2 l Z a0 hw [] b16 (10 : Int32) b1 k1 (14 : Int32) [(.int (nar .byte (-54 : Int32))), (.int (nar .byte (-2 : Int32))), (.int (nar .byte (-70 : Int32))), (.int (nar .byte (-66 : Int32))), (.int (nar .byte (((p2.toUInt32 >>> ((8 : Int32) &&& 31).toUInt32).toInt32).toInt8.toInt32))), (.int (nar .byte (p2.toInt8.toInt32))), (.int (nar .byte (((vM.toUInt32 >>> ((8 : Int32) &&& 31).toUInt32).toInt32).toInt8.toInt32))), (.int (nar .byte (vM.toInt8.toInt32))), (.int (nar .byte (0 : Int32))), (.int (nar .byte (0 : Int32))), (.int (nar .byte (((p0.toUInt32 >>> ((8 : Int32) &&& 31).toUInt32).toInt32).toInt8.toInt32))), (.int (nar .byte (p0.toInt8.toInt32))), (.int (nar .byte (((p1.toUInt32 >>> ((8 : Int32) &&& 31).toUInt32).toInt32).toInt8.toInt32))), (.int (nar .byte (p1.toInt8.toInt32)))] (.int (0 : Int32)) (nar .byte (((p0.toUInt32 >>> ((8 : Int32) &&& 31).toUInt32).toInt32).toInt8.toInt32)) (nar .byte (p0.toInt8.toInt32)) T19.heap n0 Z19 f19_1 c22 ⟨by decide, by decide⟩ rfl ⟨by decide, by decide⟩ rfl) hZ (wd hw 34 rfl) (wd hw 4 rfl) (by decide) (by decide)) q21a q21c (g := (mkF m 142 #[vi p0, vi p1, vi p2, vi p3, vi vM, vr b1, vr b16, uu] [(.int (10 : Int32)), (.ref b16)])) rfl (by rw [hml]; rfl) (Steps.refl _) (argsL := [(.int (10 : Int32))]) (rest := []) (lenOf pd_0 rfl) rfl (by show 2 * 0 + _ ≤ _; exact Nat.le_of_eq rfl) (hb hby at_142) (fun _ _ => ⟨rfl, rfl, (by decide : 3 + 0 ≤ _), (by decide : 19 + 0 ≤ _)⟩)
  dsimp only [Pt.U, Pt.locs, Pt.cells, Pt.slots] at X21 lq21 yq21 zq21 st21 hQ21
  have X21 := own_reb X21 lq21 yq21 zq21
  obtain ⟨rfl, Nq21, eh21⟩ := hQ21
  have N21 := Fr.app N19 Nq21
  obtain ⟨cq23, kq23, q23a, q23b, q23c⟩ := isOf hZ eh21 f19_0
  obtain ⟨_, _, ⟨T23, Lw23, kw23, nw23⟩, -, X23, ⟨Lc23, hQ23, lq23, yq23, zq23⟩, st23⟩ := X21.virtualBack hx (y := (⟨"com/example/bean_wiring/beanwiring/internal/ClassFile", "u2", "(I)I"⟩ : MethodName)) (z := (⟨"com/example/bean_wiring/beanwiring/internal/ClassFile", "u2", "(I)I"⟩ : MethodName)) hown (mvT hZ (wd hw 38 rfl)) (mvT hZ (wd hw 31 rfl)) (notFace_of_selects (args := #[]) (mvT hZ (wd hw 33 rfl))) (mvT hZ (wd hw 33 rfl)) (mvT hZ (wd hw 32 rfl)) (by decide) (backOf (W := 0) (rmU2 l Z a0 hw [] b16 (12 : Int32) b1 k1 (14 : Int32) [(.int (nar .byte (-54 : Int32))), (.int (nar .byte (-2 : Int32))), (.int (nar .byte (-70 : Int32))), (.int (nar .byte (-66 : Int32))), (.int (nar .byte (((p2.toUInt32 >>> ((8 : Int32) &&& 31).toUInt32).toInt32).toInt8.toInt32))), (.int (nar .byte (p2.toInt8.toInt32))), (.int (nar .byte (((vM.toUInt32 >>> ((8 : Int32) &&& 31).toUInt32).toInt32).toInt8.toInt32))), (.int (nar .byte (vM.toInt8.toInt32))), (.int (nar .byte (0 : Int32))), (.int (nar .byte (0 : Int32))), (.int (nar .byte (((p0.toUInt32 >>> ((8 : Int32) &&& 31).toUInt32).toInt32).toInt8.toInt32))), (.int (nar .byte (p0.toInt8.toInt32))), (.int (nar .byte (((p1.toUInt32 >>> ((8 : Int32) &&& 31).toUInt32).toInt32).toInt8.toInt32))), (.int (nar .byte (p1.toInt8.toInt32)))] (.int (0 : Int32)) (nar .byte (((p1.toUInt32 >>> ((8 : Int32) &&& 31).toUInt32).toInt32).toInt8.toInt32)) (nar .byte (p1.toInt8.toInt32)) T19.heap n0 Z19 f19_1 c22 ⟨by decide, by decide⟩ rfl ⟨by decide, by decide⟩ rfl) hZ (wd hw 34 rfl) (wd hw 4 rfl) (by decide) (by decide)) q23a q23c (g := (mkF m 168 #[vi p0, vi p1, vi p2, vi p3, vi vM, vr b1, vr b16, vi (1 : Int32)] [(.int (12 : Int32)), (.ref b16)])) rfl (by rw [hml]; rfl) (Steps.refl _) (argsL := [(.int (12 : Int32))]) (rest := []) (lenOf pd_0 rfl) rfl (by show 2 * 0 + _ ≤ _; exact Nat.le_of_eq rfl) (hb hby at_168) (fun _ _ => ⟨rfl, eh21, (by decide : 3 + 0 ≤ _), (by decide : 19 + 0 ≤ _)⟩)
  dsimp only [Pt.U, Pt.locs, Pt.cells, Pt.slots] at X23 lq23 yq23 zq23 st23 hQ23
  have X23 := own_reb X23 lq23 yq23 zq23
  obtain ⟨rfl, Nq23, eh23⟩ := hQ23
  have N23 := Fr.app N21 Nq23
  obtain ⟨cq24, kq24, q24a, q24b, q24c⟩ := isOf hZ eh23 f19_0
  obtain ⟨_, _, ⟨T24, Lw24, kw24, nw24⟩, -, X24, ⟨Lc24, hQ24, lq24, yq24, zq24⟩, st24⟩ := X23.virtualBack hx (y := (⟨"com/example/bean_wiring/beanwiring/internal/ClassFile", "u2", "(I)I"⟩ : MethodName)) (z := (⟨"com/example/bean_wiring/beanwiring/internal/ClassFile", "u2", "(I)I"⟩ : MethodName)) hown (mvT hZ (wd hw 38 rfl)) (mvT hZ (wd hw 31 rfl)) (notFace_of_selects (args := #[]) (mvT hZ (wd hw 33 rfl))) (mvT hZ (wd hw 33 rfl)) (mvT hZ (wd hw 32 rfl)) (by decide) (backOf (W := 0) (rmU2 l Z a0 hw [] b16 (11 : Int32) b1 k1 (14 : Int32) [(.int (nar .byte (-54 : Int32))), (.int (nar .byte (-2 : Int32))), (.int (nar .byte (-70 : Int32))), (.int (nar .byte (-66 : Int32))), (.int (nar .byte (((p2.toUInt32 >>> ((8 : Int32) &&& 31).toUInt32).toInt32).toInt8.toInt32))), (.int (nar .byte (p2.toInt8.toInt32))), (.int (nar .byte (((vM.toUInt32 >>> ((8 : Int32) &&& 31).toUInt32).toInt32).toInt8.toInt32))), (.int (nar .byte (vM.toInt8.toInt32))), (.int (nar .byte (0 : Int32))), (.int (nar .byte (0 : Int32))), (.int (nar .byte (((p0.toUInt32 >>> ((8 : Int32) &&& 31).toUInt32).toInt32).toInt8.toInt32))), (.int (nar .byte (p0.toInt8.toInt32))), (.int (nar .byte (((p1.toUInt32 >>> ((8 : Int32) &&& 31).toUInt32).toInt32).toInt8.toInt32))), (.int (nar .byte (p1.toInt8.toInt32)))] (.int (0 : Int32)) (nar .byte (p0.toInt8.toInt32)) (nar .byte (((p1.toUInt32 >>> ((8 : Int32) &&& 31).toUInt32).toInt32).toInt8.toInt32)) T19.heap n0 Z19 f19_1 c22 ⟨by decide, by decide⟩ rfl ⟨by decide, by decide⟩ rfl) hZ (wd hw 34 rfl) (wd hw 4 rfl) (by decide) (by decide)) q24a q24c (g := (mkF m 194 #[vi p0, vi p1, vi p2, vi p3, vi vM, vr b1, vr b16, vi (1 : Int32)] [(.int (11 : Int32)), (.ref b16)])) rfl (by rw [hml]; rfl) (Steps.refl _) (argsL := [(.int (11 : Int32))]) (rest := []) (lenOf pd_0 rfl) rfl (by show 2 * 0 + _ ≤ _; exact Nat.le_of_eq rfl) (hb hby at_194) (fun _ _ => ⟨rfl, eh23, (by decide : 3 + 0 ≤ _), (by decide : 19 + 0 ≤ _)⟩)
  dsimp only [Pt.U, Pt.locs, Pt.cells, Pt.slots] at X24 lq24 yq24 zq24 st24 hQ24
  have X24 := own_reb X24 lq24 yq24 zq24
  obtain ⟨rfl, Nq24, eh24⟩ := hQ24
  have N24 := Fr.app N23 Nq24
  obtain ⟨cq25, kq25, q25a, q25b, q25c⟩ := isOf hZ eh24 f19_0
  obtain ⟨_, _, ⟨T25, Lw25, kw25, nw25⟩, -, X25, ⟨Lc25, hQ25, lq25, yq25, zq25⟩, st25⟩ := X24.virtualBack hx (y := (⟨"com/example/bean_wiring/beanwiring/internal/ClassFile", "u2", "(I)I"⟩ : MethodName)) (z := (⟨"com/example/bean_wiring/beanwiring/internal/ClassFile", "u2", "(I)I"⟩ : MethodName)) hown (mvT hZ (wd hw 38 rfl)) (mvT hZ (wd hw 31 rfl)) (notFace_of_selects (args := #[]) (mvT hZ (wd hw 33 rfl))) (mvT hZ (wd hw 33 rfl)) (mvT hZ (wd hw 32 rfl)) (by decide) (backOf (W := 0) (rmU2 l Z a0 hw [] b16 (4 : Int32) b1 k1 (14 : Int32) [(.int (nar .byte (-54 : Int32))), (.int (nar .byte (-2 : Int32))), (.int (nar .byte (-70 : Int32))), (.int (nar .byte (-66 : Int32))), (.int (nar .byte (((p2.toUInt32 >>> ((8 : Int32) &&& 31).toUInt32).toInt32).toInt8.toInt32))), (.int (nar .byte (p2.toInt8.toInt32))), (.int (nar .byte (((vM.toUInt32 >>> ((8 : Int32) &&& 31).toUInt32).toInt32).toInt8.toInt32))), (.int (nar .byte (vM.toInt8.toInt32))), (.int (nar .byte (0 : Int32))), (.int (nar .byte (0 : Int32))), (.int (nar .byte (((p0.toUInt32 >>> ((8 : Int32) &&& 31).toUInt32).toInt32).toInt8.toInt32))), (.int (nar .byte (p0.toInt8.toInt32))), (.int (nar .byte (((p1.toUInt32 >>> ((8 : Int32) &&& 31).toUInt32).toInt32).toInt8.toInt32))), (.int (nar .byte (p1.toInt8.toInt32)))] (.int (0 : Int32)) (nar .byte (((p2.toUInt32 >>> ((8 : Int32) &&& 31).toUInt32).toInt32).toInt8.toInt32)) (nar .byte (p2.toInt8.toInt32)) T19.heap n0 Z19 f19_1 c22 ⟨by decide, by decide⟩ rfl ⟨by decide, by decide⟩ rfl) hZ (wd hw 34 rfl) (wd hw 4 rfl) (by decide) (by decide)) q25a q25c (g := (mkF m 233 #[vi p0, vi p1, vi p2, vi p3, vi vM, vr b1, vr b16, vi (1 : Int32)] [(.int (4 : Int32)), (.ref b16)])) rfl (by rw [hml]; rfl) (Steps.refl _) (argsL := [(.int (4 : Int32))]) (rest := []) (lenOf pd_0 rfl) rfl (by show 2 * 0 + _ ≤ _; exact Nat.le_of_eq rfl) (hb hby at_233) (fun _ _ => ⟨rfl, eh24, (by decide : 3 + 0 ≤ _), (by decide : 19 + 0 ≤ _)⟩)
  dsimp only [Pt.U, Pt.locs, Pt.cells, Pt.slots] at X25 lq25 yq25 zq25 st25 hQ25
  have X25 := own_reb X25 lq25 yq25 zq25
  obtain ⟨rfl, Nq25, eh25⟩ := hQ25
  have N25 := Fr.app N24 Nq25
  obtain ⟨cq26, kq26, q26a, q26b, q26c⟩ := isOf hZ eh25 f19_0
  obtain ⟨_, _, ⟨T26, Lw26, kw26, nw26⟩, -, X26, ⟨Lc26, hQ26, lq26, yq26, zq26⟩, st26⟩ := X25.virtualBack hx (y := (⟨"com/example/bean_wiring/beanwiring/internal/ClassFile", "u2", "(I)I"⟩ : MethodName)) (z := (⟨"com/example/bean_wiring/beanwiring/internal/ClassFile", "u2", "(I)I"⟩ : MethodName)) hown (mvT hZ (wd hw 38 rfl)) (mvT hZ (wd hw 31 rfl)) (notFace_of_selects (args := #[]) (mvT hZ (wd hw 33 rfl))) (mvT hZ (wd hw 33 rfl)) (mvT hZ (wd hw 32 rfl)) (by decide) (backOf (W := 0) (rmU2 l Z a0 hw [] b16 (6 : Int32) b1 k1 (14 : Int32) [(.int (nar .byte (-54 : Int32))), (.int (nar .byte (-2 : Int32))), (.int (nar .byte (-70 : Int32))), (.int (nar .byte (-66 : Int32))), (.int (nar .byte (((p2.toUInt32 >>> ((8 : Int32) &&& 31).toUInt32).toInt32).toInt8.toInt32))), (.int (nar .byte (p2.toInt8.toInt32))), (.int (nar .byte (((vM.toUInt32 >>> ((8 : Int32) &&& 31).toUInt32).toInt32).toInt8.toInt32))), (.int (nar .byte (vM.toInt8.toInt32))), (.int (nar .byte (0 : Int32))), (.int (nar .byte (0 : Int32))), (.int (nar .byte (((p0.toUInt32 >>> ((8 : Int32) &&& 31).toUInt32).toInt32).toInt8.toInt32))), (.int (nar .byte (p0.toInt8.toInt32))), (.int (nar .byte (((p1.toUInt32 >>> ((8 : Int32) &&& 31).toUInt32).toInt32).toInt8.toInt32))), (.int (nar .byte (p1.toInt8.toInt32)))] (.int (0 : Int32)) (nar .byte (((vM.toUInt32 >>> ((8 : Int32) &&& 31).toUInt32).toInt32).toInt8.toInt32)) (nar .byte (vM.toInt8.toInt32)) T19.heap n0 Z19 f19_1 c22 ⟨by decide, by decide⟩ rfl ⟨by decide, by decide⟩ rfl) hZ (wd hw 34 rfl) (wd hw 4 rfl) (by decide) (by decide)) q26a q26c (g := (mkF m 259 #[vi p0, vi p1, vi p2, vi p3, vi vM, vr b1, vr b16, vi (1 : Int32)] [(.int (6 : Int32)), (.ref b16)])) rfl (by rw [hml]; rfl) (Steps.refl _) (argsL := [(.int (6 : Int32))]) (rest := []) (lenOf pd_0 rfl) rfl (by show 2 * 0 + _ ≤ _; exact Nat.le_of_eq rfl) (hb hby at_259) (fun _ _ => ⟨rfl, eh25, (by decide : 3 + 0 ≤ _), (by decide : 19 + 0 ≤ _)⟩)
  dsimp only [Pt.U, Pt.locs, Pt.cells, Pt.slots] at X26 lq26 yq26 zq26 st26 hQ26
  have X26 := own_reb X26 lq26 yq26 zq26
  obtain ⟨rfl, Nq26, eh26⟩ := hQ26
  have N26 := Fr.app N25 Nq26
  obtain ⟨cq27, kq27, q27a, q27b, q27c⟩ := isOf hZ eh26 f19_0
  obtain ⟨_, _, ⟨T27, Lw27, kw27, nw27⟩, -, X27, ⟨Lc27, hQ27, lq27, yq27, zq27⟩, st27⟩ := X26.virtualBack hx (y := (⟨"com/example/bean_wiring/beanwiring/internal/ClassFile", "u2", "(I)I"⟩ : MethodName)) (z := (⟨"com/example/bean_wiring/beanwiring/internal/ClassFile", "u2", "(I)I"⟩ : MethodName)) hown (mvT hZ (wd hw 38 rfl)) (mvT hZ (wd hw 31 rfl)) (notFace_of_selects (args := #[]) (mvT hZ (wd hw 33 rfl))) (mvT hZ (wd hw 33 rfl)) (mvT hZ (wd hw 32 rfl)) (by decide) (backOf (W := 0) (rmU2 l Z a0 hw [] b16 (0 : Int32) b1 k1 (14 : Int32) [(.int (nar .byte (-54 : Int32))), (.int (nar .byte (-2 : Int32))), (.int (nar .byte (-70 : Int32))), (.int (nar .byte (-66 : Int32))), (.int (nar .byte (((p2.toUInt32 >>> ((8 : Int32) &&& 31).toUInt32).toInt32).toInt8.toInt32))), (.int (nar .byte (p2.toInt8.toInt32))), (.int (nar .byte (((vM.toUInt32 >>> ((8 : Int32) &&& 31).toUInt32).toInt32).toInt8.toInt32))), (.int (nar .byte (vM.toInt8.toInt32))), (.int (nar .byte (0 : Int32))), (.int (nar .byte (0 : Int32))), (.int (nar .byte (((p0.toUInt32 >>> ((8 : Int32) &&& 31).toUInt32).toInt32).toInt8.toInt32))), (.int (nar .byte (p0.toInt8.toInt32))), (.int (nar .byte (((p1.toUInt32 >>> ((8 : Int32) &&& 31).toUInt32).toInt32).toInt8.toInt32))), (.int (nar .byte (p1.toInt8.toInt32)))] (.int (0 : Int32)) (nar .byte (-54 : Int32)) (nar .byte (-2 : Int32)) T19.heap n0 Z19 f19_1 c22 ⟨by decide, by decide⟩ rfl ⟨by decide, by decide⟩ rfl) hZ (wd hw 34 rfl) (wd hw 4 rfl) (by decide) (by decide)) q27a q27c (g := (mkF m 282 #[vi p0, vi p1, vi p2, vi p3, vi vM, vr b1, vr b16, vi (1 : Int32)] [(.int (0 : Int32)), (.ref b16)])) rfl (by rw [hml]; rfl) (Steps.refl _) (argsL := [(.int (0 : Int32))]) (rest := []) (lenOf pd_0 rfl) rfl (by show 2 * 0 + _ ≤ _; exact Nat.le_of_eq rfl) (hb hby at_282) (fun _ _ => ⟨rfl, eh26, (by decide : 3 + 0 ≤ _), (by decide : 19 + 0 ≤ _)⟩)
  dsimp only [Pt.U, Pt.locs, Pt.cells, Pt.slots] at X27 lq27 yq27 zq27 st27 hQ27
  have X27 := own_reb X27 lq27 yq27 zq27
  obtain ⟨rfl, Nq27, eh27⟩ := hQ27
  have N27 := Fr.app N26 Nq27
  obtain ⟨cq28, kq28, q28a, q28b, q28c⟩ := isOf hZ eh27 f19_0
  obtain ⟨_, _, ⟨T28, Lw28, kw28, nw28⟩, -, X28, ⟨Lc28, hQ28, lq28, yq28, zq28⟩, st28⟩ := X27.virtualBack hx (y := (⟨"com/example/bean_wiring/beanwiring/internal/ClassFile", "u2", "(I)I"⟩ : MethodName)) (z := (⟨"com/example/bean_wiring/beanwiring/internal/ClassFile", "u2", "(I)I"⟩ : MethodName)) hown (mvT hZ (wd hw 38 rfl)) (mvT hZ (wd hw 31 rfl)) (notFace_of_selects (args := #[]) (mvT hZ (wd hw 33 rfl))) (mvT hZ (wd hw 33 rfl)) (mvT hZ (wd hw 32 rfl)) (by decide) (backOf (W := 0) (rmU2 l Z a0 hw [] b16 (2 : Int32) b1 k1 (14 : Int32) [(.int (nar .byte (-54 : Int32))), (.int (nar .byte (-2 : Int32))), (.int (nar .byte (-70 : Int32))), (.int (nar .byte (-66 : Int32))), (.int (nar .byte (((p2.toUInt32 >>> ((8 : Int32) &&& 31).toUInt32).toInt32).toInt8.toInt32))), (.int (nar .byte (p2.toInt8.toInt32))), (.int (nar .byte (((vM.toUInt32 >>> ((8 : Int32) &&& 31).toUInt32).toInt32).toInt8.toInt32))), (.int (nar .byte (vM.toInt8.toInt32))), (.int (nar .byte (0 : Int32))), (.int (nar .byte (0 : Int32))), (.int (nar .byte (((p0.toUInt32 >>> ((8 : Int32) &&& 31).toUInt32).toInt32).toInt8.toInt32))), (.int (nar .byte (p0.toInt8.toInt32))), (.int (nar .byte (((p1.toUInt32 >>> ((8 : Int32) &&& 31).toUInt32).toInt32).toInt8.toInt32))), (.int (nar .byte (p1.toInt8.toInt32)))] (.int (0 : Int32)) (nar .byte (-70 : Int32)) (nar .byte (-66 : Int32)) T19.heap n0 Z19 f19_1 c22 ⟨by decide, by decide⟩ rfl ⟨by decide, by decide⟩ rfl) hZ (wd hw 34 rfl) (wd hw 4 rfl) (by decide) (by decide)) q28a q28c (g := (mkF m 305 #[vi p0, vi p1, vi p2, vi p3, vi vM, vr b1, vr b16, vi (1 : Int32)] [(.int (2 : Int32)), (.ref b16)])) rfl (by rw [hml]; rfl) (Steps.refl _) (argsL := [(.int (2 : Int32))]) (rest := []) (lenOf pd_0 rfl) rfl (by show 2 * 0 + _ ≤ _; exact Nat.le_of_eq rfl) (hb hby at_305) (fun _ _ => ⟨rfl, eh27, (by decide : 3 + 0 ≤ _), (by decide : 19 + 0 ≤ _)⟩)
  dsimp only [Pt.U, Pt.locs, Pt.cells, Pt.slots] at X28 lq28 yq28 zq28 st28 hQ28
  have X28 := own_reb X28 lq28 yq28 zq28
  obtain ⟨rfl, Nq28, eh28⟩ := hQ28
  have N28 := Fr.app N27 Nq28
  obtain ⟨fs, hr, hrun, hended, hW, hsame⟩ := X28.leave (v := some (.int (nar .boolean (1 : Int32)))) (fun h => by rw [Bd.returns] at h; cases h)
  refine ⟨_, _, pre0 _ ?_, hrun, hended, _, _, rfl, ?_, ⟨_, rfl⟩, hW, hsame.mono (by decide) (by decide)⟩
  · show SS p e below s₁ (mkF m 0 #[vi p0, vi p1, vi p2, vi p3, uu, uu, uu, uu] []) _
    refine XS.iloadN X0.here hx rfl (hb hby at_0) rfl ?_
    show SS p e below s₁ (mkF m 1 #[vi p0, vi p1, vi p2, vi p3, uu, uu, uu, uu] [(.int p3)]) _
    refine X0.ldcInt hx hown (mvT hZ (wd hw 0 rfl)) (g := (mkF m 1 #[vi p0, vi p1, vi p2, vi p3, uu, uu, uu, uu] [(.int p3)])) rfl (hb hby at_1) _ ?_
    show SS p e below s₁ (mkF m 3 #[vi p0, vi p1, vi p2, vi p3, uu, uu, uu, uu] [(.int (2147483647 : Int32)), (.int p3)]) _
    refine XS.iand X0.here hx rfl (hb hby at_3) rfl ?_
    show SS p e below s₁ (mkF m 4 #[vi p0, vi p1, vi p2, vi p3, uu, uu, uu, uu] [(.int (p3 &&& (2147483647 : Int32)))]) _
    refine XS.bipush X0.here hx rfl (hb hby at_4) ?_
    show SS p e below s₁ (mkF m 6 #[vi p0, vi p1, vi p2, vi p3, uu, uu, uu, uu] [(.int (70 : Int32)), (.int (p3 &&& (2147483647 : Int32)))]) _
    refine iremM X0 hx rfl (hb hby at_6) rfl (by decide) ?_
    show SS p e below s₁ (mkF m 7 #[vi p0, vi p1, vi p2, vi p3, uu, uu, uu, uu] [(.int ((p3 &&& (2147483647 : Int32)) % (70 : Int32)))]) _
    rw [uM]
    show SS p e below s₁ (mkF m 7 #[vi p0, vi p1, vi p2, vi p3, uu, uu, uu, uu] [(.int vM)]) _
    refine XS.istore X0.here hx rfl (hb hby at_7) rfl (l' := #[vi p0, vi p1, vi p2, vi p3, vi vM, uu, uu, uu]) rfl ?_
    show SS p e below s₁ (mkF m 9 #[vi p0, vi p1, vi p2, vi p3, vi vM, uu, uu, uu] []) _
    refine XS.bipush X0.here hx rfl (hb hby at_9) ?_
    show SS p e below s₁ (mkF m 11 #[vi p0, vi p1, vi p2, vi p3, vi vM, uu, uu, uu] [(.int (14 : Int32))]) _
    refine st1 _ ?_
    show SS p e below T1 (mkF m 13 #[vi p0, vi p1, vi p2, vi p3, vi vM, uu, uu, uu] [(.ref b1)]) _
    refine XS.astore X1.here hx rfl (hb hby at_13) rfl rfl (l' := #[vi p0, vi p1, vi p2, vi p3, vi vM, vr b1, uu, uu]) rfl ?_
    show SS p e below T1 (mkF m 15 #[vi p0, vi p1, vi p2, vi p3, vi vM, vr b1, uu, uu] []) _
    refine XS.aload X1.here hx rfl (hb hby at_15) rfl rfl ?_
    show SS p e below T1 (mkF m 17 #[vi p0, vi p1, vi p2, vi p3, vi vM, vr b1, uu, uu] [(.ref b1)]) _
    refine XS.iconst X1.here hx rfl (hb hby at_17) ?_
    show SS p e below T1 (mkF m 18 #[vi p0, vi p1, vi p2, vi p3, vi vM, vr b1, uu, uu] [(.int (0 : Int32)), (.ref b1)]) _
    refine XS.bipush X1.here hx rfl (hb hby at_18) ?_
    show SS p e below T1 (mkF m 20 #[vi p0, vi p1, vi p2, vi p3, vi vM, vr b1, uu, uu] [(.int (-54 : Int32)), (.int (0 : Int32)), (.ref b1)]) _
    refine st2 _ ?_
    show SS p e below T2 (mkF m 21 #[vi p0, vi p1, vi p2, vi p3, vi vM, vr b1, uu, uu] []) _
    refine XS.aload X2.here hx rfl (hb hby at_21) rfl rfl ?_
    show SS p e below T2 (mkF m 23 #[vi p0, vi p1, vi p2, vi p3, vi vM, vr b1, uu, uu] [(.ref b1)]) _
    refine XS.iconst X2.here hx rfl (hb hby at_23) ?_
    show SS p e below T2 (mkF m 24 #[vi p0, vi p1, vi p2, vi p3, vi vM, vr b1, uu, uu] [(.int (1 : Int32)), (.ref b1)]) _
    refine XS.bipush X2.here hx rfl (hb hby at_24) ?_
    show SS p e below T2 (mkF m 26 #[vi p0, vi p1, vi p2, vi p3, vi vM, vr b1, uu, uu] [(.int (-2 : Int32)), (.int (1 : Int32)), (.ref b1)]) _
    refine st3 _ ?_
    show SS p e below T3 (mkF m 27 #[vi p0, vi p1, vi p2, vi p3, vi vM, vr b1, uu, uu] []) _
    refine XS.aload X3.here hx rfl (hb hby at_27) rfl rfl ?_
    show SS p e below T3 (mkF m 29 #[vi p0, vi p1, vi p2, vi p3, vi vM, vr b1, uu, uu] [(.ref b1)]) _
    refine XS.iconst X3.here hx rfl (hb hby at_29) ?_
    show SS p e below T3 (mkF m 30 #[vi p0, vi p1, vi p2, vi p3, vi vM, vr b1, uu, uu] [(.int (2 : Int32)), (.ref b1)]) _
    refine XS.bipush X3.here hx rfl (hb hby at_30) ?_
    show SS p e below T3 (mkF m 32 #[vi p0, vi p1, vi p2, vi p3, vi vM, vr b1, uu, uu] [(.int (-70 : Int32)), (.int (2 : Int32)), (.ref b1)]) _
    refine st4 _ ?_
    show SS p e below T4 (mkF m 33 #[vi p0, vi p1, vi p2, vi p3, vi vM, vr b1, uu, uu] []) _
    refine XS.aload X4.here hx rfl (hb hby at_33) rfl rfl ?_
    show SS p e below T4 (mkF m 35 #[vi p0, vi p1, vi p2, vi p3, vi vM, vr b1, uu, uu] [(.ref b1)]) _
    refine XS.iconst X4.here hx rfl (hb hby at_35) ?_
    show SS p e below T4 (mkF m 36 #[vi p0, vi p1, vi p2, vi p3, vi vM, vr b1, uu, uu] [(.int (3 : Int32)), (.ref b1)]) _
    refine XS.bipush X4.here hx rfl (hb hby at_36) ?_
    show SS p e below T4 (mkF m 38 #[vi p0, vi p1, vi p2, vi p3, vi vM, vr b1, uu, uu] [(.int (-66 : Int32)), (.int (3 : Int32)), (.ref b1)]) _
    refine st5 _ ?_
    show SS p e below T5 (mkF m 39 #[vi p0, vi p1, vi p2, vi p3, vi vM, vr b1, uu, uu] []) _
    refine XS.aload X5.here hx rfl (hb hby at_39) rfl rfl ?_
    show SS p e below T5 (mkF m 41 #[vi p0, vi p1, vi p2, vi p3, vi vM, vr b1, uu, uu] [(.ref b1)]) _
    refine XS.iconst X5.here hx rfl (hb hby at_41) ?_
    show SS p e below T5 (mkF m 42 #[vi p0, vi p1, vi p2, vi p3, vi vM, vr b1, uu, uu] [(.int (4 : Int32)), (.ref b1)]) _
    refine XS.iloadN X5.here hx rfl (hb hby at_42) rfl ?_
    show SS p e below T5 (mkF m 43 #[vi p0, vi p1, vi p2, vi p3, vi vM, vr b1, uu, uu] [(.int p2), (.int (4 : Int32)), (.ref b1)]) _
    refine XS.bipush X5.here hx rfl (hb hby at_43) ?_
    show SS p e below T5 (mkF m 45 #[vi p0, vi p1, vi p2, vi p3, vi vM, vr b1, uu, uu] [(.int (8 : Int32)), (.int p2), (.int (4 : Int32)), (.ref b1)]) _
    refine XS.iushr X5.here hx rfl (hb hby at_45) rfl ?_
    show SS p e below T5 (mkF m 46 #[vi p0, vi p1, vi p2, vi p3, vi vM, vr b1, uu, uu] [(.int ((p2.toUInt32 >>> ((8 : Int32) &&& 31).toUInt32).toInt32)), (.int (4 : Int32)), (.ref b1)]) _
    refine XS.i2b X5.here hx rfl (hb hby at_46) rfl ?_
    show SS p e below T5 (mkF m 47 #[vi p0, vi p1, vi p2, vi p3, vi vM, vr b1, uu, uu] [(.int (((p2.toUInt32 >>> ((8 : Int32) &&& 31).toUInt32).toInt32).toInt8.toInt32)), (.int (4 : Int32)), (.ref b1)]) _
    refine st6 _ ?_
    show SS p e below T6 (mkF m 48 #[vi p0, vi p1, vi p2, vi p3, vi vM, vr b1, uu, uu] []) _
    refine XS.aload X6.here hx rfl (hb hby at_48) rfl rfl ?_
    show SS p e below T6 (mkF m 50 #[vi p0, vi p1, vi p2, vi p3, vi vM, vr b1, uu, uu] [(.ref b1)]) _
    refine XS.iconst X6.here hx rfl (hb hby at_50) ?_
    show SS p e below T6 (mkF m 51 #[vi p0, vi p1, vi p2, vi p3, vi vM, vr b1, uu, uu] [(.int (5 : Int32)), (.ref b1)]) _
    refine XS.iloadN X6.here hx rfl (hb hby at_51) rfl ?_
    show SS p e below T6 (mkF m 52 #[vi p0, vi p1, vi p2, vi p3, vi vM, vr b1, uu, uu] [(.int p2), (.int (5 : Int32)), (.ref b1)]) _
    refine XS.i2b X6.here hx rfl (hb hby at_52) rfl ?_
    show SS p e below T6 (mkF m 53 #[vi p0, vi p1, vi p2, vi p3, vi vM, vr b1, uu, uu] [(.int (p2.toInt8.toInt32)), (.int (5 : Int32)), (.ref b1)]) _
    refine st7 _ ?_
    show SS p e below T7 (mkF m 54 #[vi p0, vi p1, vi p2, vi p3, vi vM, vr b1, uu, uu] []) _
    refine XS.aload X7.here hx rfl (hb hby at_54) rfl rfl ?_
    show SS p e below T7 (mkF m 56 #[vi p0, vi p1, vi p2, vi p3, vi vM, vr b1, uu, uu] [(.ref b1)]) _
    refine XS.bipush X7.here hx rfl (hb hby at_56) ?_
    show SS p e below T7 (mkF m 58 #[vi p0, vi p1, vi p2, vi p3, vi vM, vr b1, uu, uu] [(.int (6 : Int32)), (.ref b1)]) _
    refine XS.iload X7.here hx rfl (hb hby at_58) rfl ?_
    show SS p e below T7 (mkF m 60 #[vi p0, vi p1, vi p2, vi p3, vi vM, vr b1, uu, uu] [(.int vM), (.int (6 : Int32)), (.ref b1)]) _
    refine XS.bipush X7.here hx rfl (hb hby at_60) ?_
    show SS p e below T7 (mkF m 62 #[vi p0, vi p1, vi p2, vi p3, vi vM, vr b1, uu, uu] [(.int (8 : Int32)), (.int vM), (.int (6 : Int32)), (.ref b1)]) _
    refine XS.iushr X7.here hx rfl (hb hby at_62) rfl ?_
    show SS p e below T7 (mkF m 63 #[vi p0, vi p1, vi p2, vi p3, vi vM, vr b1, uu, uu] [(.int ((vM.toUInt32 >>> ((8 : Int32) &&& 31).toUInt32).toInt32)), (.int (6 : Int32)), (.ref b1)]) _
    refine XS.i2b X7.here hx rfl (hb hby at_63) rfl ?_
    show SS p e below T7 (mkF m 64 #[vi p0, vi p1, vi p2, vi p3, vi vM, vr b1, uu, uu] [(.int (((vM.toUInt32 >>> ((8 : Int32) &&& 31).toUInt32).toInt32).toInt8.toInt32)), (.int (6 : Int32)), (.ref b1)]) _
    refine st8 _ ?_
    show SS p e below T8 (mkF m 65 #[vi p0, vi p1, vi p2, vi p3, vi vM, vr b1, uu, uu] []) _
    refine XS.aload X8.here hx rfl (hb hby at_65) rfl rfl ?_
    show SS p e below T8 (mkF m 67 #[vi p0, vi p1, vi p2, vi p3, vi vM, vr b1, uu, uu] [(.ref b1)]) _
    refine XS.bipush X8.here hx rfl (hb hby at_67) ?_
    show SS p e below T8 (mkF m 69 #[vi p0, vi p1, vi p2, vi p3, vi vM, vr b1, uu, uu] [(.int (7 : Int32)), (.ref b1)]) _
    refine XS.iload X8.here hx rfl (hb hby at_69) rfl ?_
    show SS p e below T8 (mkF m 71 #[vi p0, vi p1, vi p2, vi p3, vi vM, vr b1, uu, uu] [(.int vM), (.int (7 : Int32)), (.ref b1)]) _
    refine XS.i2b X8.here hx rfl (hb hby at_71) rfl ?_
    show SS p e below T8 (mkF m 72 #[vi p0, vi p1, vi p2, vi p3, vi vM, vr b1, uu, uu] [(.int (vM.toInt8.toInt32)), (.int (7 : Int32)), (.ref b1)]) _
    refine st9 _ ?_
    show SS p e below T9 (mkF m 73 #[vi p0, vi p1, vi p2, vi p3, vi vM, vr b1, uu, uu] []) _
    refine XS.aload X9.here hx rfl (hb hby at_73) rfl rfl ?_
    show SS p e below T9 (mkF m 75 #[vi p0, vi p1, vi p2, vi p3, vi vM, vr b1, uu, uu] [(.ref b1)]) _
    refine XS.bipush X9.here hx rfl (hb hby at_75) ?_
    show SS p e below T9 (mkF m 77 #[vi p0, vi p1, vi p2, vi p3, vi vM, vr b1, uu, uu] [(.int (8 : Int32)), (.ref b1)]) _
    refine XS.iconst X9.here hx rfl (hb hby at_77) ?_
    show SS p e below T9 (mkF m 78 #[vi p0, vi p1, vi p2, vi p3, vi vM, vr b1, uu, uu] [(.int (0 : Int32)), (.int (8 : Int32)), (.ref b1)]) _
    refine st10 _ ?_
    show SS p e below T10 (mkF m 79 #[vi p0, vi p1, vi p2, vi p3, vi vM, vr b1, uu, uu] []) _
    refine XS.aload X10.here hx rfl (hb hby at_79) rfl rfl ?_
    show SS p e below T10 (mkF m 81 #[vi p0, vi p1, vi p2, vi p3, vi vM, vr b1, uu, uu] [(.ref b1)]) _
    refine XS.bipush X10.here hx rfl (hb hby at_81) ?_
    show SS p e below T10 (mkF m 83 #[vi p0, vi p1, vi p2, vi p3, vi vM, vr b1, uu, uu] [(.int (9 : Int32)), (.ref b1)]) _
    refine XS.iconst X10.here hx rfl (hb hby at_83) ?_
    show SS p e below T10 (mkF m 84 #[vi p0, vi p1, vi p2, vi p3, vi vM, vr b1, uu, uu] [(.int (0 : Int32)), (.int (9 : Int32)), (.ref b1)]) _
    refine st11 _ ?_
    show SS p e below T11 (mkF m 85 #[vi p0, vi p1, vi p2, vi p3, vi vM, vr b1, uu, uu] []) _
    refine XS.aload X11.here hx rfl (hb hby at_85) rfl rfl ?_
    show SS p e below T11 (mkF m 87 #[vi p0, vi p1, vi p2, vi p3, vi vM, vr b1, uu, uu] [(.ref b1)]) _
    refine XS.bipush X11.here hx rfl (hb hby at_87) ?_
    show SS p e below T11 (mkF m 89 #[vi p0, vi p1, vi p2, vi p3, vi vM, vr b1, uu, uu] [(.int (10 : Int32)), (.ref b1)]) _
    refine XS.iloadN X11.here hx rfl (hb hby at_89) rfl ?_
    show SS p e below T11 (mkF m 90 #[vi p0, vi p1, vi p2, vi p3, vi vM, vr b1, uu, uu] [(.int p0), (.int (10 : Int32)), (.ref b1)]) _
    refine XS.bipush X11.here hx rfl (hb hby at_90) ?_
    show SS p e below T11 (mkF m 92 #[vi p0, vi p1, vi p2, vi p3, vi vM, vr b1, uu, uu] [(.int (8 : Int32)), (.int p0), (.int (10 : Int32)), (.ref b1)]) _
    refine XS.iushr X11.here hx rfl (hb hby at_92) rfl ?_
    show SS p e below T11 (mkF m 93 #[vi p0, vi p1, vi p2, vi p3, vi vM, vr b1, uu, uu] [(.int ((p0.toUInt32 >>> ((8 : Int32) &&& 31).toUInt32).toInt32)), (.int (10 : Int32)), (.ref b1)]) _
    refine XS.i2b X11.here hx rfl (hb hby at_93) rfl ?_
    show SS p e below T11 (mkF m 94 #[vi p0, vi p1, vi p2, vi p3, vi vM, vr b1, uu, uu] [(.int (((p0.toUInt32 >>> ((8 : Int32) &&& 31).toUInt32).toInt32).toInt8.toInt32)), (.int (10 : Int32)), (.ref b1)]) _
    refine st12 _ ?_
    show SS p e below T12 (mkF m 95 #[vi p0, vi p1, vi p2, vi p3, vi vM, vr b1, uu, uu] []) _
    refine XS.aload X12.here hx rfl (hb hby at_95) rfl rfl ?_
    show SS p e below T12 (mkF m 97 #[vi p0, vi p1, vi p2, vi p3, vi vM, vr b1, uu, uu] [(.ref b1)]) _
    refine XS.bipush X12.here hx rfl (hb hby at_97) ?_
    show SS p e below T12 (mkF m 99 #[vi p0, vi p1, vi p2, vi p3, vi vM, vr b1, uu, uu] [(.int (11 : Int32)), (.ref b1)]) _
    refine XS.iloadN X12.here hx rfl (hb hby at_99) rfl ?_
    show SS p e below T12 (mkF m 100 #[vi p0, vi p1, vi p2, vi p3, vi vM, vr b1, uu, uu] [(.int p0), (.int (11 : Int32)), (.ref b1)]) _
    refine XS.i2b X12.here hx rfl (hb hby at_100) rfl ?_
    show SS p e below T12 (mkF m 101 #[vi p0, vi p1, vi p2, vi p3, vi vM, vr b1, uu, uu] [(.int (p0.toInt8.toInt32)), (.int (11 : Int32)), (.ref b1)]) _
    refine st13 _ ?_
    show SS p e below T13 (mkF m 102 #[vi p0, vi p1, vi p2, vi p3, vi vM, vr b1, uu, uu] []) _
    refine XS.aload X13.here hx rfl (hb hby at_102) rfl rfl ?_
    show SS p e below T13 (mkF m 104 #[vi p0, vi p1, vi p2, vi p3, vi vM, vr b1, uu, uu] [(.ref b1)]) _
    refine XS.bipush X13.here hx rfl (hb hby at_104) ?_
    show SS p e below T13 (mkF m 106 #[vi p0, vi p1, vi p2, vi p3, vi vM, vr b1, uu, uu] [(.int (12 : Int32)), (.ref b1)]) _
    refine XS.iloadN X13.here hx rfl (hb hby at_106) rfl ?_
    show SS p e below T13 (mkF m 107 #[vi p0, vi p1, vi p2, vi p3, vi vM, vr b1, uu, uu] [(.int p1), (.int (12 : Int32)), (.ref b1)]) _
    refine XS.bipush X13.here hx rfl (hb hby at_107) ?_
    show SS p e below T13 (mkF m 109 #[vi p0, vi p1, vi p2, vi p3, vi vM, vr b1, uu, uu] [(.int (8 : Int32)), (.int p1), (.int (12 : Int32)), (.ref b1)]) _
    refine XS.iushr X13.here hx rfl (hb hby at_109) rfl ?_
    show SS p e below T13 (mkF m 110 #[vi p0, vi p1, vi p2, vi p3, vi vM, vr b1, uu, uu] [(.int ((p1.toUInt32 >>> ((8 : Int32) &&& 31).toUInt32).toInt32)), (.int (12 : Int32)), (.ref b1)]) _
    refine XS.i2b X13.here hx rfl (hb hby at_110) rfl ?_
    show SS p e below T13 (mkF m 111 #[vi p0, vi p1, vi p2, vi p3, vi vM, vr b1, uu, uu] [(.int (((p1.toUInt32 >>> ((8 : Int32) &&& 31).toUInt32).toInt32).toInt8.toInt32)), (.int (12 : Int32)), (.ref b1)]) _
    refine st14 _ ?_
    show SS p e below T14 (mkF m 112 #[vi p0, vi p1, vi p2, vi p3, vi vM, vr b1, uu, uu] []) _
    refine XS.aload X14.here hx rfl (hb hby at_112) rfl rfl ?_
    show SS p e below T14 (mkF m 114 #[vi p0, vi p1, vi p2, vi p3, vi vM, vr b1, uu, uu] [(.ref b1)]) _
    refine XS.bipush X14.here hx rfl (hb hby at_114) ?_
    show SS p e below T14 (mkF m 116 #[vi p0, vi p1, vi p2, vi p3, vi vM, vr b1, uu, uu] [(.int (13 : Int32)), (.ref b1)]) _
    refine XS.iloadN X14.here hx rfl (hb hby at_116) rfl ?_
    show SS p e below T14 (mkF m 117 #[vi p0, vi p1, vi p2, vi p3, vi vM, vr b1, uu, uu] [(.int p1), (.int (13 : Int32)), (.ref b1)]) _
    refine XS.i2b X14.here hx rfl (hb hby at_117) rfl ?_
    show SS p e below T14 (mkF m 118 #[vi p0, vi p1, vi p2, vi p3, vi vM, vr b1, uu, uu] [(.int (p1.toInt8.toInt32)), (.int (13 : Int32)), (.ref b1)]) _
    refine st15 _ ?_
    show SS p e below T15 (mkF m 119 #[vi p0, vi p1, vi p2, vi p3, vi vM, vr b1, uu, uu] []) _
    refine st16 _ ?_
    show SS p e below T16 (mkF m 122 #[vi p0, vi p1, vi p2, vi p3, vi vM, vr b1, uu, uu] [(.ref b16)]) _
    refine XS.dup X16.here hx rfl (hb hby at_122) rfl rfl ?_
    show SS p e below T16 (mkF m 123 #[vi p0, vi p1, vi p2, vi p3, vi vM, vr b1, uu, uu] [(.ref b16), (.ref b16)]) _
    refine st17.trans ?_
    show SS p e below T17 (mkF m 126 #[vi p0, vi p1, vi p2, vi p3, vi vM, vr b1, uu, uu] [(.ref b16)]) _
    refine XS.astore X17.here hx rfl (hb hby at_126) rfl rfl (l' := #[vi p0, vi p1, vi p2, vi p3, vi vM, vr b1, vr b16, uu]) rfl ?_
    show SS p e below T17 (mkF m 128 #[vi p0, vi p1, vi p2, vi p3, vi vM, vr b1, vr b16, uu] []) _
    refine XS.aload X17.here hx rfl (hb hby at_128) rfl rfl ?_
    show SS p e below T17 (mkF m 130 #[vi p0, vi p1, vi p2, vi p3, vi vM, vr b1, vr b16, uu] [(.ref b16)]) _
    refine XS.aload X17.here hx rfl (hb hby at_130) rfl rfl ?_
    show SS p e below T17 (mkF m 132 #[vi p0, vi p1, vi p2, vi p3, vi vM, vr b1, vr b16, uu] [(.ref b1), (.ref b16)]) _
    refine XS.bipush X17.here hx rfl (hb hby at_132) ?_
    show SS p e below T17 (mkF m 134 #[vi p0, vi p1, vi p2, vi p3, vi vM, vr b1, vr b16, uu] [(.int (14 : Int32)), (.ref b1), (.ref b16)]) _
    refine st19.trans ?_
    show SS p e below T19 (mkF m 137 #[vi p0, vi p1, vi p2, vi p3, vi vM, vr b1, vr b16, uu] [(.ref b16)]) _
    refine XS.pop X19.here hx rfl (hb hby at_137) rfl rfl ?_
    show SS p e below T19 (mkF m 138 #[vi p0, vi p1, vi p2, vi p3, vi vM, vr b1, vr b16, uu] []) _
    refine XS.aload X19.here hx rfl (hb hby at_138) rfl rfl ?_
    show SS p e below T19 (mkF m 140 #[vi p0, vi p1, vi p2, vi p3, vi vM, vr b1, vr b16, uu] [(.ref b16)]) _
    refine XS.bipush X19.here hx rfl (hb hby at_140) ?_
    show SS p e below T19 (mkF m 142 #[vi p0, vi p1, vi p2, vi p3, vi vM, vr b1, vr b16, uu] [(.int (10 : Int32)), (.ref b16)]) _
    refine st21.trans ?_
    show SS p e below T21 (mkF m 145 #[vi p0, vi p1, vi p2, vi p3, vi vM, vr b1, vr b16, uu] [(.int (own_u2 (nar .byte (((p0.toUInt32 >>> ((8 : Int32) &&& 31).toUInt32).toInt32).toInt8.toInt32)) (nar .byte (p0.toInt8.toInt32))))]) _
    refine XS.iloadN X21.here hx rfl (hb hby at_145) rfl ?_
    show SS p e below T21 (mkF m 146 #[vi p0, vi p1, vi p2, vi p3, vi vM, vr b1, vr b16, uu] [(.int p0), (.int (own_u2 (nar .byte (((p0.toUInt32 >>> ((8 : Int32) &&& 31).toUInt32).toInt32).toInt8.toInt32)) (nar .byte (p0.toInt8.toInt32))))]) _
    refine X21.ldcInt hx hown (mvT hZ (wd hw 39 rfl)) (g := (mkF m 146 #[vi p0, vi p1, vi p2, vi p3, vi vM, vr b1, vr b16, uu] [(.int p0), (.int (own_u2 (nar .byte (((p0.toUInt32 >>> ((8 : Int32) &&& 31).toUInt32).toInt32).toInt8.toInt32)) (nar .byte (p0.toInt8.toInt32))))])) rfl (hb hby at_146) _ ?_
    show SS p e below T21 (mkF m 148 #[vi p0, vi p1, vi p2, vi p3, vi vM, vr b1, vr b16, uu] [(.int (65535 : Int32)), (.int p0), (.int (own_u2 (nar .byte (((p0.toUInt32 >>> ((8 : Int32) &&& 31).toUInt32).toInt32).toInt8.toInt32)) (nar .byte (p0.toInt8.toInt32))))]) _
    refine XS.iand X21.here hx rfl (hb hby at_148) rfl ?_
    show SS p e below T21 (mkF m 149 #[vi p0, vi p1, vi p2, vi p3, vi vM, vr b1, vr b16, uu] [(.int (p0 &&& (65535 : Int32))), (.int (own_u2 (nar .byte (((p0.toUInt32 >>> ((8 : Int32) &&& 31).toUInt32).toInt32).toInt8.toInt32)) (nar .byte (p0.toInt8.toInt32))))]) _
    refine XS.icmpNo X21.here hx rfl (hb hby at_149) rfl (teq (own_a p0 : (own_u2 (nar .byte (((p0.toUInt32 >>> ((8 : Int32) &&& 31).toUInt32).toInt32).toInt8.toInt32)) (nar .byte (p0.toInt8.toInt32))) = (p0 &&& (65535 : Int32)))).2 ?_
    show SS p e below T21 (mkF m 152 #[vi p0, vi p1, vi p2, vi p3, vi vM, vr b1, vr b16, uu] []) _
    refine XS.iconst X21.here hx rfl (hb hby at_152) ?_
    show SS p e below T21 (mkF m 153 #[vi p0, vi p1, vi p2, vi p3, vi vM, vr b1, vr b16, uu] [(.int (1 : Int32))]) _
    refine XS.goto X21.here hx rfl (pc0 := 153) (pc' := 157) rfl (hb hby at_153) (by decide) (by decide) ?_
    show SS p e below T21 (mkF m 157 #[vi p0, vi p1, vi p2, vi p3, vi vM, vr b1, vr b16, uu] [(.int (1 : Int32))]) _
    refine XS.istore X21.here hx rfl (hb hby at_157) rfl (l' := #[vi p0, vi p1, vi p2, vi p3, vi vM, vr b1, vr b16, vi (1 : Int32)]) rfl ?_
    show SS p e below T21 (mkF m 159 #[vi p0, vi p1, vi p2, vi p3, vi vM, vr b1, vr b16, vi (1 : Int32)] []) _
    refine XS.iload X21.here hx rfl (hb hby at_159) rfl ?_
    show SS p e below T21 (mkF m 161 #[vi p0, vi p1, vi p2, vi p3, vi vM, vr b1, vr b16, vi (1 : Int32)] [(.int (1 : Int32))]) _
    refine XS.ifNo X21.here hx rfl (hb hby at_161) rfl ((if0 _ _).trans (feq (by decide : ¬ ((1 : Int32) = (0 : Int32)))).1) ?_
    show SS p e below T21 (mkF m 164 #[vi p0, vi p1, vi p2, vi p3, vi vM, vr b1, vr b16, vi (1 : Int32)] []) _
    refine XS.aload X21.here hx rfl (hb hby at_164) rfl rfl ?_
    show SS p e below T21 (mkF m 166 #[vi p0, vi p1, vi p2, vi p3, vi vM, vr b1, vr b16, vi (1 : Int32)] [(.ref b16)]) _
    refine XS.bipush X21.here hx rfl (hb hby at_166) ?_
    show SS p e below T21 (mkF m 168 #[vi p0, vi p1, vi p2, vi p3, vi vM, vr b1, vr b16, vi (1 : Int32)] [(.int (12 : Int32)), (.ref b16)]) _
    refine st23.trans ?_
    show SS p e below T23 (mkF m 171 #[vi p0, vi p1, vi p2, vi p3, vi vM, vr b1, vr b16, vi (1 : Int32)] [(.int (own_u2 (nar .byte (((p1.toUInt32 >>> ((8 : Int32) &&& 31).toUInt32).toInt32).toInt8.toInt32)) (nar .byte (p1.toInt8.toInt32))))]) _
    refine XS.iloadN X23.here hx rfl (hb hby at_171) rfl ?_
    show SS p e below T23 (mkF m 172 #[vi p0, vi p1, vi p2, vi p3, vi vM, vr b1, vr b16, vi (1 : Int32)] [(.int p1), (.int (own_u2 (nar .byte (((p1.toUInt32 >>> ((8 : Int32) &&& 31).toUInt32).toInt32).toInt8.toInt32)) (nar .byte (p1.toInt8.toInt32))))]) _
    refine X23.ldcInt hx hown (mvT hZ (wd hw 39 rfl)) (g := (mkF m 172 #[vi p0, vi p1, vi p2, vi p3, vi vM, vr b1, vr b16, vi (1 : Int32)] [(.int p1), (.int (own_u2 (nar .byte (((p1.toUInt32 >>> ((8 : Int32) &&& 31).toUInt32).toInt32).toInt8.toInt32)) (nar .byte (p1.toInt8.toInt32))))])) rfl (hb hby at_172) _ ?_
    show SS p e below T23 (mkF m 174 #[vi p0, vi p1, vi p2, vi p3, vi vM, vr b1, vr b16, vi (1 : Int32)] [(.int (65535 : Int32)), (.int p1), (.int (own_u2 (nar .byte (((p1.toUInt32 >>> ((8 : Int32) &&& 31).toUInt32).toInt32).toInt8.toInt32)) (nar .byte (p1.toInt8.toInt32))))]) _
    refine XS.iand X23.here hx rfl (hb hby at_174) rfl ?_
    show SS p e below T23 (mkF m 175 #[vi p0, vi p1, vi p2, vi p3, vi vM, vr b1, vr b16, vi (1 : Int32)] [(.int (p1 &&& (65535 : Int32))), (.int (own_u2 (nar .byte (((p1.toUInt32 >>> ((8 : Int32) &&& 31).toUInt32).toInt32).toInt8.toInt32)) (nar .byte (p1.toInt8.toInt32))))]) _
    refine XS.icmpNo X23.here hx rfl (hb hby at_175) rfl (teq (own_a p1 : (own_u2 (nar .byte (((p1.toUInt32 >>> ((8 : Int32) &&& 31).toUInt32).toInt32).toInt8.toInt32)) (nar .byte (p1.toInt8.toInt32))) = (p1 &&& (65535 : Int32)))).2 ?_
    show SS p e below T23 (mkF m 178 #[vi p0, vi p1, vi p2, vi p3, vi vM, vr b1, vr b16, vi (1 : Int32)] []) _
    refine XS.iconst X23.here hx rfl (hb hby at_178) ?_
    show SS p e below T23 (mkF m 179 #[vi p0, vi p1, vi p2, vi p3, vi vM, vr b1, vr b16, vi (1 : Int32)] [(.int (1 : Int32))]) _
    refine XS.goto X23.here hx rfl (pc0 := 179) (pc' := 183) rfl (hb hby at_179) (by decide) (by decide) ?_
    show SS p e below T23 (mkF m 183 #[vi p0, vi p1, vi p2, vi p3, vi vM, vr b1, vr b16, vi (1 : Int32)] [(.int (1 : Int32))]) _
    refine XS.istore X23.here hx rfl (hb hby at_183) rfl (l' := #[vi p0, vi p1, vi p2, vi p3, vi vM, vr b1, vr b16, vi (1 : Int32)]) rfl ?_
    show SS p e below T23 (mkF m 185 #[vi p0, vi p1, vi p2, vi p3, vi vM, vr b1, vr b16, vi (1 : Int32)] []) _
    refine XS.iload X23.here hx rfl (hb hby at_185) rfl ?_
    show SS p e below T23 (mkF m 187 #[vi p0, vi p1, vi p2, vi p3, vi vM, vr b1, vr b16, vi (1 : Int32)] [(.int (1 : Int32))]) _
    refine XS.ifNo X23.here hx rfl (hb hby at_187) rfl ((if0 _ _).trans (feq (by decide : ¬ ((1 : Int32) = (0 : Int32)))).1) ?_
    show SS p e below T23 (mkF m 190 #[vi p0, vi p1, vi p2, vi p3, vi vM, vr b1, vr b16, vi (1 : Int32)] []) _
    refine XS.aload X23.here hx rfl (hb hby at_190) rfl rfl ?_
    show SS p e below T23 (mkF m 192 #[vi p0, vi p1, vi p2, vi p3, vi vM, vr b1, vr b16, vi (1 : Int32)] [(.ref b16)]) _
    refine XS.bipush X23.here hx rfl (hb hby at_192) ?_
    show SS p e below T23 (mkF m 194 #[vi p0, vi p1, vi p2, vi p3, vi vM, vr b1, vr b16, vi (1 : Int32)] [(.int (11 : Int32)), (.ref b16)]) _
    refine st24.trans ?_
    show SS p e below T24 (mkF m 197 #[vi p0, vi p1, vi p2, vi p3, vi vM, vr b1, vr b16, vi (1 : Int32)] [(.int (own_u2 (nar .byte (p0.toInt8.toInt32)) (nar .byte (((p1.toUInt32 >>> ((8 : Int32) &&& 31).toUInt32).toInt32).toInt8.toInt32))))]) _
    refine XS.iloadN X24.here hx rfl (hb hby at_197) rfl ?_
    show SS p e below T24 (mkF m 198 #[vi p0, vi p1, vi p2, vi p3, vi vM, vr b1, vr b16, vi (1 : Int32)] [(.int p0), (.int (own_u2 (nar .byte (p0.toInt8.toInt32)) (nar .byte (((p1.toUInt32 >>> ((8 : Int32) &&& 31).toUInt32).toInt32).toInt8.toInt32))))]) _
    refine XS.sipush X24.here hx rfl (hb hby at_198) ?_
    show SS p e below T24 (mkF m 201 #[vi p0, vi p1, vi p2, vi p3, vi vM, vr b1, vr b16, vi (1 : Int32)] [(.int (255 : Int32)), (.int p0), (.int (own_u2 (nar .byte (p0.toInt8.toInt32)) (nar .byte (((p1.toUInt32 >>> ((8 : Int32) &&& 31).toUInt32).toInt32).toInt8.toInt32))))]) _
    refine XS.iand X24.here hx rfl (hb hby at_201) rfl ?_
    show SS p e below T24 (mkF m 202 #[vi p0, vi p1, vi p2, vi p3, vi vM, vr b1, vr b16, vi (1 : Int32)] [(.int (p0 &&& (255 : Int32))), (.int (own_u2 (nar .byte (p0.toInt8.toInt32)) (nar .byte (((p1.toUInt32 >>> ((8 : Int32) &&& 31).toUInt32).toInt32).toInt8.toInt32))))]) _
    refine XS.sipush X24.here hx rfl (hb hby at_202) ?_
    show SS p e below T24 (mkF m 205 #[vi p0, vi p1, vi p2, vi p3, vi vM, vr b1, vr b16, vi (1 : Int32)] [(.int (256 : Int32)), (.int (p0 &&& (255 : Int32))), (.int (own_u2 (nar .byte (p0.toInt8.toInt32)) (nar .byte (((p1.toUInt32 >>> ((8 : Int32) &&& 31).toUInt32).toInt32).toInt8.toInt32))))]) _
    refine XS.imul X24.here hx rfl (hb hby at_205) rfl ?_
    show SS p e below T24 (mkF m 206 #[vi p0, vi p1, vi p2, vi p3, vi vM, vr b1, vr b16, vi (1 : Int32)] [(.int ((p0 &&& (255 : Int32)) * (256 : Int32))), (.int (own_u2 (nar .byte (p0.toInt8.toInt32)) (nar .byte (((p1.toUInt32 >>> ((8 : Int32) &&& 31).toUInt32).toInt32).toInt8.toInt32))))]) _
    refine XS.iloadN X24.here hx rfl (hb hby at_206) rfl ?_
    show SS p e below T24 (mkF m 207 #[vi p0, vi p1, vi p2, vi p3, vi vM, vr b1, vr b16, vi (1 : Int32)] [(.int p1), (.int ((p0 &&& (255 : Int32)) * (256 : Int32))), (.int (own_u2 (nar .byte (p0.toInt8.toInt32)) (nar .byte (((p1.toUInt32 >>> ((8 : Int32) &&& 31).toUInt32).toInt32).toInt8.toInt32))))]) _
    refine XS.bipush X24.here hx rfl (hb hby at_207) ?_
    show SS p e below T24 (mkF m 209 #[vi p0, vi p1, vi p2, vi p3, vi vM, vr b1, vr b16, vi (1 : Int32)] [(.int (8 : Int32)), (.int p1), (.int ((p0 &&& (255 : Int32)) * (256 : Int32))), (.int (own_u2 (nar .byte (p0.toInt8.toInt32)) (nar .byte (((p1.toUInt32 >>> ((8 : Int32) &&& 31).toUInt32).toInt32).toInt8.toInt32))))]) _
    refine XS.iushr X24.here hx rfl (hb hby at_209) rfl ?_
    show SS p e below T24 (mkF m 210 #[vi p0, vi p1, vi p2, vi p3, vi vM, vr b1, vr b16, vi (1 : Int32)] [(.int ((p1.toUInt32 >>> ((8 : Int32) &&& 31).toUInt32).toInt32)), (.int ((p0 &&& (255 : Int32)) * (256 : Int32))), (.int (own_u2 (nar .byte (p0.toInt8.toInt32)) (nar .byte (((p1.toUInt32 >>> ((8 : Int32) &&& 31).toUInt32).toInt32).toInt8.toInt32))))]) _
    refine XS.sipush X24.here hx rfl (hb hby at_210) ?_
    show SS p e below T24 (mkF m 213 #[vi p0, vi p1, vi p2, vi p3, vi vM, vr b1, vr b16, vi (1 : Int32)] [(.int (255 : Int32)), (.int ((p1.toUInt32 >>> ((8 : Int32) &&& 31).toUInt32).toInt32)), (.int ((p0 &&& (255 : Int32)) * (256 : Int32))), (.int (own_u2 (nar .byte (p0.toInt8.toInt32)) (nar .byte (((p1.toUInt32 >>> ((8 : Int32) &&& 31).toUInt32).toInt32).toInt8.toInt32))))]) _
    refine XS.iand X24.here hx rfl (hb hby at_213) rfl ?_
    show SS p e below T24 (mkF m 214 #[vi p0, vi p1, vi p2, vi p3, vi vM, vr b1, vr b16, vi (1 : Int32)] [(.int (((p1.toUInt32 >>> ((8 : Int32) &&& 31).toUInt32).toInt32) &&& (255 : Int32))), (.int ((p0 &&& (255 : Int32)) * (256 : Int32))), (.int (own_u2 (nar .byte (p0.toInt8.toInt32)) (nar .byte (((p1.toUInt32 >>> ((8 : Int32) &&& 31).toUInt32).toInt32).toInt8.toInt32))))]) _
    refine XS.iadd X24.here hx rfl (hb hby at_214) rfl ?_
    show SS p e below T24 (mkF m 215 #[vi p0, vi p1, vi p2, vi p3, vi vM, vr b1, vr b16, vi (1 : Int32)] [(.int (((p0 &&& (255 : Int32)) * (256 : Int32)) + (((p1.toUInt32 >>> ((8 : Int32) &&& 31).toUInt32).toInt32) &&& (255 : Int32)))), (.int (own_u2 (nar .byte (p0.toInt8.toInt32)) (nar .byte (((p1.toUInt32 >>> ((8 : Int32) &&& 31).toUInt32).toInt32).toInt8.toInt32))))]) _
    refine XS.icmpNo X24.here hx rfl (hb hby at_215) rfl (teq (own_b p0 p1 : (own_u2 (nar .byte (p0.toInt8.toInt32)) (nar .byte (((p1.toUInt32 >>> ((8 : Int32) &&& 31).toUInt32).toInt32).toInt8.toInt32))) = (((p0 &&& (255 : Int32)) * (256 : Int32)) + (((p1.toUInt32 >>> ((8 : Int32) &&& 31).toUInt32).toInt32) &&& (255 : Int32))))).2 ?_
    show SS p e below T24 (mkF m 218 #[vi p0, vi p1, vi p2, vi p3, vi vM, vr b1, vr b16, vi (1 : Int32)] []) _
    refine XS.iconst X24.here hx rfl (hb hby at_218) ?_
    show SS p e below T24 (mkF m 219 #[vi p0, vi p1, vi p2, vi p3, vi vM, vr b1, vr b16, vi (1 : Int32)] [(.int (1 : Int32))]) _
    refine XS.goto X24.here hx rfl (pc0 := 219) (pc' := 223) rfl (hb hby at_219) (by decide) (by decide) ?_
    show SS p e below T24 (mkF m 223 #[vi p0, vi p1, vi p2, vi p3, vi vM, vr b1, vr b16, vi (1 : Int32)] [(.int (1 : Int32))]) _
    refine XS.istore X24.here hx rfl (hb hby at_223) rfl (l' := #[vi p0, vi p1, vi p2, vi p3, vi vM, vr b1, vr b16, vi (1 : Int32)]) rfl ?_
    show SS p e below T24 (mkF m 225 #[vi p0, vi p1, vi p2, vi p3, vi vM, vr b1, vr b16, vi (1 : Int32)] []) _
    refine XS.iload X24.here hx rfl (hb hby at_225) rfl ?_
    show SS p e below T24 (mkF m 227 #[vi p0, vi p1, vi p2, vi p3, vi vM, vr b1, vr b16, vi (1 : Int32)] [(.int (1 : Int32))]) _
    refine XS.ifNo X24.here hx rfl (hb hby at_227) rfl ((if0 _ _).trans (feq (by decide : ¬ ((1 : Int32) = (0 : Int32)))).1) ?_
    show SS p e below T24 (mkF m 230 #[vi p0, vi p1, vi p2, vi p3, vi vM, vr b1, vr b16, vi (1 : Int32)] []) _
    refine XS.aload X24.here hx rfl (hb hby at_230) rfl rfl ?_
    show SS p e below T24 (mkF m 232 #[vi p0, vi p1, vi p2, vi p3, vi vM, vr b1, vr b16, vi (1 : Int32)] [(.ref b16)]) _
    refine XS.iconst X24.here hx rfl (hb hby at_232) ?_
    show SS p e below T24 (mkF m 233 #[vi p0, vi p1, vi p2, vi p3, vi vM, vr b1, vr b16, vi (1 : Int32)] [(.int (4 : Int32)), (.ref b16)]) _
    refine st25.trans ?_
    show SS p e below T25 (mkF m 236 #[vi p0, vi p1, vi p2, vi p3, vi vM, vr b1, vr b16, vi (1 : Int32)] [(.int (own_u2 (nar .byte (((p2.toUInt32 >>> ((8 : Int32) &&& 31).toUInt32).toInt32).toInt8.toInt32)) (nar .byte (p2.toInt8.toInt32))))]) _
    refine XS.iloadN X25.here hx rfl (hb hby at_236) rfl ?_
    show SS p e below T25 (mkF m 237 #[vi p0, vi p1, vi p2, vi p3, vi vM, vr b1, vr b16, vi (1 : Int32)] [(.int p2), (.int (own_u2 (nar .byte (((p2.toUInt32 >>> ((8 : Int32) &&& 31).toUInt32).toInt32).toInt8.toInt32)) (nar .byte (p2.toInt8.toInt32))))]) _
    refine X25.ldcInt hx hown (mvT hZ (wd hw 39 rfl)) (g := (mkF m 237 #[vi p0, vi p1, vi p2, vi p3, vi vM, vr b1, vr b16, vi (1 : Int32)] [(.int p2), (.int (own_u2 (nar .byte (((p2.toUInt32 >>> ((8 : Int32) &&& 31).toUInt32).toInt32).toInt8.toInt32)) (nar .byte (p2.toInt8.toInt32))))])) rfl (hb hby at_237) _ ?_
    show SS p e below T25 (mkF m 239 #[vi p0, vi p1, vi p2, vi p3, vi vM, vr b1, vr b16, vi (1 : Int32)] [(.int (65535 : Int32)), (.int p2), (.int (own_u2 (nar .byte (((p2.toUInt32 >>> ((8 : Int32) &&& 31).toUInt32).toInt32).toInt8.toInt32)) (nar .byte (p2.toInt8.toInt32))))]) _
    refine XS.iand X25.here hx rfl (hb hby at_239) rfl ?_
    show SS p e below T25 (mkF m 240 #[vi p0, vi p1, vi p2, vi p3, vi vM, vr b1, vr b16, vi (1 : Int32)] [(.int (p2 &&& (65535 : Int32))), (.int (own_u2 (nar .byte (((p2.toUInt32 >>> ((8 : Int32) &&& 31).toUInt32).toInt32).toInt8.toInt32)) (nar .byte (p2.toInt8.toInt32))))]) _
    refine XS.icmpNo X25.here hx rfl (hb hby at_240) rfl (teq (own_a p2 : (own_u2 (nar .byte (((p2.toUInt32 >>> ((8 : Int32) &&& 31).toUInt32).toInt32).toInt8.toInt32)) (nar .byte (p2.toInt8.toInt32))) = (p2 &&& (65535 : Int32)))).2 ?_
    show SS p e below T25 (mkF m 243 #[vi p0, vi p1, vi p2, vi p3, vi vM, vr b1, vr b16, vi (1 : Int32)] []) _
    refine XS.iconst X25.here hx rfl (hb hby at_243) ?_
    show SS p e below T25 (mkF m 244 #[vi p0, vi p1, vi p2, vi p3, vi vM, vr b1, vr b16, vi (1 : Int32)] [(.int (1 : Int32))]) _
    refine XS.goto X25.here hx rfl (pc0 := 244) (pc' := 248) rfl (hb hby at_244) (by decide) (by decide) ?_
    show SS p e below T25 (mkF m 248 #[vi p0, vi p1, vi p2, vi p3, vi vM, vr b1, vr b16, vi (1 : Int32)] [(.int (1 : Int32))]) _
    refine XS.istore X25.here hx rfl (hb hby at_248) rfl (l' := #[vi p0, vi p1, vi p2, vi p3, vi vM, vr b1, vr b16, vi (1 : Int32)]) rfl ?_
    show SS p e below T25 (mkF m 250 #[vi p0, vi p1, vi p2, vi p3, vi vM, vr b1, vr b16, vi (1 : Int32)] []) _
    refine XS.iload X25.here hx rfl (hb hby at_250) rfl ?_
    show SS p e below T25 (mkF m 252 #[vi p0, vi p1, vi p2, vi p3, vi vM, vr b1, vr b16, vi (1 : Int32)] [(.int (1 : Int32))]) _
    refine XS.ifNo X25.here hx rfl (hb hby at_252) rfl ((if0 _ _).trans (feq (by decide : ¬ ((1 : Int32) = (0 : Int32)))).1) ?_
    show SS p e below T25 (mkF m 255 #[vi p0, vi p1, vi p2, vi p3, vi vM, vr b1, vr b16, vi (1 : Int32)] []) _
    refine XS.aload X25.here hx rfl (hb hby at_255) rfl rfl ?_
    show SS p e below T25 (mkF m 257 #[vi p0, vi p1, vi p2, vi p3, vi vM, vr b1, vr b16, vi (1 : Int32)] [(.ref b16)]) _
    refine XS.bipush X25.here hx rfl (hb hby at_257) ?_
    show SS p e below T25 (mkF m 259 #[vi p0, vi p1, vi p2, vi p3, vi vM, vr b1, vr b16, vi (1 : Int32)] [(.int (6 : Int32)), (.ref b16)]) _
    refine st26.trans ?_
    show SS p e below T26 (mkF m 262 #[vi p0, vi p1, vi p2, vi p3, vi vM, vr b1, vr b16, vi (1 : Int32)] [(.int (own_u2 (nar .byte (((vM.toUInt32 >>> ((8 : Int32) &&& 31).toUInt32).toInt32).toInt8.toInt32)) (nar .byte (vM.toInt8.toInt32))))]) _
    refine XS.iload X26.here hx rfl (hb hby at_262) rfl ?_
    show SS p e below T26 (mkF m 264 #[vi p0, vi p1, vi p2, vi p3, vi vM, vr b1, vr b16, vi (1 : Int32)] [(.int vM), (.int (own_u2 (nar .byte (((vM.toUInt32 >>> ((8 : Int32) &&& 31).toUInt32).toInt32).toInt8.toInt32)) (nar .byte (vM.toInt8.toInt32))))]) _
    refine XS.icmpNo X26.here hx rfl (hb hby at_264) rfl (teq (own_m vM uM0 uM1 : (own_u2 (nar .byte (((vM.toUInt32 >>> ((8 : Int32) &&& 31).toUInt32).toInt32).toInt8.toInt32)) (nar .byte (vM.toInt8.toInt32))) = vM)).2 ?_
    show SS p e below T26 (mkF m 267 #[vi p0, vi p1, vi p2, vi p3, vi vM, vr b1, vr b16, vi (1 : Int32)] []) _
    refine XS.iconst X26.here hx rfl (hb hby at_267) ?_
    show SS p e below T26 (mkF m 268 #[vi p0, vi p1, vi p2, vi p3, vi vM, vr b1, vr b16, vi (1 : Int32)] [(.int (1 : Int32))]) _
    refine XS.goto X26.here hx rfl (pc0 := 268) (pc' := 272) rfl (hb hby at_268) (by decide) (by decide) ?_
    show SS p e below T26 (mkF m 272 #[vi p0, vi p1, vi p2, vi p3, vi vM, vr b1, vr b16, vi (1 : Int32)] [(.int (1 : Int32))]) _
    refine XS.istore X26.here hx rfl (hb hby at_272) rfl (l' := #[vi p0, vi p1, vi p2, vi p3, vi vM, vr b1, vr b16, vi (1 : Int32)]) rfl ?_
    show SS p e below T26 (mkF m 274 #[vi p0, vi p1, vi p2, vi p3, vi vM, vr b1, vr b16, vi (1 : Int32)] []) _
    refine XS.iload X26.here hx rfl (hb hby at_274) rfl ?_
    show SS p e below T26 (mkF m 276 #[vi p0, vi p1, vi p2, vi p3, vi vM, vr b1, vr b16, vi (1 : Int32)] [(.int (1 : Int32))]) _
    refine XS.ifNo X26.here hx rfl (hb hby at_276) rfl ((if0 _ _).trans (feq (by decide : ¬ ((1 : Int32) = (0 : Int32)))).1) ?_
    show SS p e below T26 (mkF m 279 #[vi p0, vi p1, vi p2, vi p3, vi vM, vr b1, vr b16, vi (1 : Int32)] []) _
    refine XS.aload X26.here hx rfl (hb hby at_279) rfl rfl ?_
    show SS p e below T26 (mkF m 281 #[vi p0, vi p1, vi p2, vi p3, vi vM, vr b1, vr b16, vi (1 : Int32)] [(.ref b16)]) _
    refine XS.iconst X26.here hx rfl (hb hby at_281) ?_
    show SS p e below T26 (mkF m 282 #[vi p0, vi p1, vi p2, vi p3, vi vM, vr b1, vr b16, vi (1 : Int32)] [(.int (0 : Int32)), (.ref b16)]) _
    refine st27.trans ?_
    show SS p e below T27 (mkF m 285 #[vi p0, vi p1, vi p2, vi p3, vi vM, vr b1, vr b16, vi (1 : Int32)] [(.int (own_u2 (nar .byte (-54 : Int32)) (nar .byte (-2 : Int32))))]) _
    refine X27.ldcInt hx hown (mvT hZ (wd hw 40 rfl)) (g := (mkF m 285 #[vi p0, vi p1, vi p2, vi p3, vi vM, vr b1, vr b16, vi (1 : Int32)] [(.int (own_u2 (nar .byte (-54 : Int32)) (nar .byte (-2 : Int32))))])) rfl (hb hby at_285) _ ?_
    show SS p e below T27 (mkF m 287 #[vi p0, vi p1, vi p2, vi p3, vi vM, vr b1, vr b16, vi (1 : Int32)] [(.int (51966 : Int32)), (.int (own_u2 (nar .byte (-54 : Int32)) (nar .byte (-2 : Int32))))]) _
    refine XS.icmpNo X27.here hx rfl (hb hby at_287) rfl (teq (by decide : (own_u2 (nar .byte (-54 : Int32)) (nar .byte (-2 : Int32))) = (51966 : Int32))).2 ?_
    show SS p e below T27 (mkF m 290 #[vi p0, vi p1, vi p2, vi p3, vi vM, vr b1, vr b16, vi (1 : Int32)] []) _
    refine XS.iconst X27.here hx rfl (hb hby at_290) ?_
    show SS p e below T27 (mkF m 291 #[vi p0, vi p1, vi p2, vi p3, vi vM, vr b1, vr b16, vi (1 : Int32)] [(.int (1 : Int32))]) _
    refine XS.goto X27.here hx rfl (pc0 := 291) (pc' := 295) rfl (hb hby at_291) (by decide) (by decide) ?_
    show SS p e below T27 (mkF m 295 #[vi p0, vi p1, vi p2, vi p3, vi vM, vr b1, vr b16, vi (1 : Int32)] [(.int (1 : Int32))]) _
    refine XS.istore X27.here hx rfl (hb hby at_295) rfl (l' := #[vi p0, vi p1, vi p2, vi p3, vi vM, vr b1, vr b16, vi (1 : Int32)]) rfl ?_
    show SS p e below T27 (mkF m 297 #[vi p0, vi p1, vi p2, vi p3, vi vM, vr b1, vr b16, vi (1 : Int32)] []) _
    refine XS.iload X27.here hx rfl (hb hby at_297) rfl ?_
    show SS p e below T27 (mkF m 299 #[vi p0, vi p1, vi p2, vi p3, vi vM, vr b1, vr b16, vi (1 : Int32)] [(.int (1 : Int32))]) _
    refine XS.ifNo X27.here hx rfl (hb hby at_299) rfl ((if0 _ _).trans (feq (by decide : ¬ ((1 : Int32) = (0 : Int32)))).1) ?_
    show SS p e below T27 (mkF m 302 #[vi p0, vi p1, vi p2, vi p3, vi vM, vr b1, vr b16, vi (1 : Int32)] []) _
    refine XS.aload X27.here hx rfl (hb hby at_302) rfl rfl ?_
    show SS p e below T27 (mkF m 304 #[vi p0, vi p1, vi p2, vi p3, vi vM, vr b1, vr b16, vi (1 : Int32)] [(.ref b16)]) _
    refine XS.iconst X27.here hx rfl (hb hby at_304) ?_
    show SS p e below T27 (mkF m 305 #[vi p0, vi p1, vi p2, vi p3, vi vM, vr b1, vr b16, vi (1 : Int32)] [(.int (2 : Int32)), (.ref b16)]) _
    refine st28.trans ?_
    show SS p e below T28 (mkF m 308 #[vi p0, vi p1, vi p2, vi p3, vi vM, vr b1, vr b16, vi (1 : Int32)] [(.int (own_u2 (nar .byte (-70 : Int32)) (nar .byte (-66 : Int32))))]) _
    refine X28.ldcInt hx hown (mvT hZ (wd hw 41 rfl)) (g := (mkF m 308 #[vi p0, vi p1, vi p2, vi p3, vi vM, vr b1, vr b16, vi (1 : Int32)] [(.int (own_u2 (nar .byte (-70 : Int32)) (nar .byte (-66 : Int32))))])) rfl (hb hby at_308) _ ?_
    show SS p e below T28 (mkF m 310 #[vi p0, vi p1, vi p2, vi p3, vi vM, vr b1, vr b16, vi (1 : Int32)] [(.int (47806 : Int32)), (.int (own_u2 (nar .byte (-70 : Int32)) (nar .byte (-66 : Int32))))]) _
    refine XS.icmpNo X28.here hx rfl (hb hby at_310) rfl (teq (by decide : (own_u2 (nar .byte (-70 : Int32)) (nar .byte (-66 : Int32))) = (47806 : Int32))).2 ?_
    show SS p e below T28 (mkF m 313 #[vi p0, vi p1, vi p2, vi p3, vi vM, vr b1, vr b16, vi (1 : Int32)] []) _
    refine XS.iconst X28.here hx rfl (hb hby at_313) ?_
    show SS p e below T28 (mkF m 314 #[vi p0, vi p1, vi p2, vi p3, vi vM, vr b1, vr b16, vi (1 : Int32)] [(.int (1 : Int32))]) _
    refine XS.goto X28.here hx rfl (pc0 := 314) (pc' := 318) rfl (hb hby at_314) (by decide) (by decide) ?_
    show SS p e below T28 (mkF m 318 #[vi p0, vi p1, vi p2, vi p3, vi vM, vr b1, vr b16, vi (1 : Int32)] [(.int (1 : Int32))]) _
    refine XS.istore X28.here hx rfl (hb hby at_318) rfl (l' := #[vi p0, vi p1, vi p2, vi p3, vi vM, vr b1, vr b16, vi (1 : Int32)]) rfl ?_
    show SS p e below T28 (mkF m 320 #[vi p0, vi p1, vi p2, vi p3, vi vM, vr b1, vr b16, vi (1 : Int32)] []) _
    refine XS.iload X28.here hx rfl (hb hby at_320) rfl ?_
    show SS p e below T28 (mkF m 322 #[vi p0, vi p1, vi p2, vi p3, vi vM, vr b1, vr b16, vi (1 : Int32)] [(.int (1 : Int32))]) _
    exact retN X28 hx (t := .boolean) Bd.returns (by simp) (hb hby at_322) hr
  · show Q_rm0 Z p0 p1 p2 p3 vM h0 n0 _ T28.heap _
    rw [eh28]
    exact ⟨rfl, N28⟩
set_option maxRecDepth 65536 in
set_option maxHeartbeats 40000000 in
theorem comes_1 {Post : Tables → Env → Array Value → State → Outcome → State → Prop} (hpost : ∀ tb e args s v u, (limb_1_1.after args s (.returned v) u = true ∧ limb_1_2.after args s (.returned v) u = true ∧ True) → FrameEnd s (.returned v) u (Jvm.fieldLocs frame_1_writes args s ++ Jvm.arrayLocs frame_1_arrays args s ++ Jvm.staticLocs frame_1_statics s) 16 128 → Post tb e args s (.returned v) u) :
    ArmFor flags0 classFile x code maxLocals ret World_1 tables_1 room_1 Calls_1 rest_1 Pre_1 Post := by
  intro l hfl _ _ p e ha hc hk s m args below hf hA hF happ hP
  obtain ⟨hcalls, hrest, hpre⟩ := hP
  obtain ⟨-, -, -, hnamed, -, -, -, hat⟩ := (Spec.applies_iff hf).mp happ
  obtain ⟨hg, hn⟩ := and_e (Cond.before_iff.mp (show (Jvm.Cond.and given_1 narrow_1).before args s = true from hpre))
  obtain ⟨g1, g2⟩ := and_e hg
  obtain ⟨g3, g4⟩ := and_e g2
  obtain ⟨g5, g6⟩ := and_e g4
  obtain ⟨g7, g8⟩ := and_e g6
  obtain ⟨w0, w1, w2, w3, rfl⟩ : ∃ w0 w1 w2 w3 : Value, args = #[w0, w1, w2, w3] := by
    have hs : args.size = 4 := by simpa [Cond.value, given_1] using g1
    obtain ⟨L⟩ := args
    match L, hs with
    | [w0, w1, w2, w3], _ => exact ⟨w0, w1, w2, w3, rfl⟩
  have hw := fun d (hd : d ∈ tables_1) => atoms_spec (ws := Jvm.Cond.code x code maxLocals ret :: tables_1) hat d (List.mem_cons_of_mem _ hd)
  have hfit : Fit s := fun {y c} hc i hi => by
    obtain ⟨ha, rfl⟩ := Array.getElem?_eq_some_iff.mp hc
    have q := List.all_eq_true.mp ((Array.all_eq_true_iff_forall_mem.mp hF) _ (Array.getElem_mem ha)) i (List.mem_range.mpr hi)
    simpa [Array.getElem?_eq_getElem hi] using q
  obtain ⟨i0, ei0⟩ := is_v g3
  obtain rfl : w0 = (.int i0) := Option.some.inj ei0
  obtain ⟨i1, ei1⟩ := is_v g5
  obtain rfl : w1 = (.int i1) := Option.some.inj ei1
  obtain ⟨i2, ei2⟩ := is_v g7
  obtain rfl : w2 = (.int i2) := Option.some.inj ei2
  obtain ⟨i3, ei3⟩ := is_v g8
  obtain rfl : w3 = (.int i3) := Option.some.inj ei3
  have hm := own_major i3
  obtain ⟨n, o, h1, h2, h3, _, L, rfl, ⟨rfl, N⟩, hq⟩ := rm0 l s _ hw tables_1 i0 i1 i2 i3 _ s.heap s.heap.size (Nat.le_refl _) rfl hm.1 hm.2 p e ha hc hk s m _ below hf ((Spec.applies_iff_loose hf).mp happ).1 ⟨rfl, State.Warmed39.refl s, rfl⟩ trivial
  refine ⟨n, _, h1, h2, h3, hpost _ _ _ _ _ _ ⟨Cond.after_iff.mpr rfl, Cond.after_iff.mpr (eq_i res_at (Term.int_eval (1)) rfl), trivial⟩ ⟨hq.1, hq.2.1, (hq.2.2.sift fun y hy => Or.inr (N y hy)).mono (by decide) (by decide)⟩⟩
theorem main_1_1 : Claimed_1_1 := comes_1 fun _ _ _ _ _ _ h hF => ⟨h.1, hF⟩
theorem main_1_2 : Claimed_1_2 := comes_1 fun _ _ _ _ _ _ h hF => ⟨h.2.1, hF⟩
end Jvm.Pilot.@@N@@
namespace Jvm.Pilot.@@N@@
open Jvm Jvm.ClassFile Sem Op Lib Jvm.Free Jvm.Stand Jvm.Pilot.@@N@@.Jvm.D
/-! MADE BY PROGRAM (witnessworld.py) out of the Statement's table words and the real class files: 9 classes; the members and pool entries that the words name. The judged class is class 1, her method 1. -/
namespace start1
open Jvm.ClassFile
def u (s : String) : CpInfo := .utf8 (stringToUtf16 s)
/-- a pool by its gaps: so many unusable entries, then the entry; so many at the end -/
def gap : Nat → List CpInfo → List CpInfo
  | 0, r => r
  | n + 1, r => .unusable :: gap n r
def poolList (es : List (Nat × CpInfo)) (last : Nat) : List CpInfo := es.foldr (fun e r => gap e.1 (e.2 :: r)) (gap last [])
def pool (es : List (Nat × CpInfo)) (last : Nat) : Array CpInfo := ⟨poolList es last⟩
def fileOf (pool : Array CpInfo) (this : Nat) (attrs : Array Attribute := #[]) (ms : Array MethodInfo := #[]) (fl : Nat := 33) (sup : Nat := 0) (ifs : Array Nat := #[]) (fds : Array FieldInfo := #[]) : ClassFile where
  minorVersion := 0
  majorVersion := 65
  constantPool := pool
  accessFlags := fl
  thisClass := this
  superClass := sup
  interfaces := ifs
  fields := fds
  methods := ms
  attributes := attrs
def plain (name : String) (sup : Option ClassId) : Class where
  name := name
  kind := .ordinary
  loader := none
  accessFlags := 33
  super := sup
  interfaces := #[]
  cf := none
  fields := #[]
  methods := #[]
  instanceTypes := #[]
  staticTypes := #[]
  resolved := #[]
  callSites := []
  init := .initialized
  statics := none
  mirror := none

def pool0 : Array CpInfo := pool [(5, u "<init>"), (0, u "()V"), (1, .class_ 10), (1, u "java/lang/Object")] 113

def k0c0 : Code := { maxStack := 0, maxLocals := 1, code := object_method_1_code, exceptionTable := #[], attributes := #[] }
def k0m0 : Method := { name := "<init>", desc := "()V", sig := { parameters := [], returnType := none }, accessFlags := 1, code := some k0c0 }
/-- java/lang/Object -/
def k0 : Class := { plain "java/lang/Object" none with
  accessFlags := 33
  interfaces := #[]
  cf := some (fileOf pool0 8 #[] #[{ accessFlags := 1, nameIndex := 5, descriptorIndex := 6, attributes := #[] }] 33 0 #[] #[])
  fields := #[]
  methods := #[k0m0]
  instanceTypes := #[]
  staticTypes := #[]
  resolved := Array.replicate 124 none
  statics := none }

def pool1 : Array CpInfo := pool [(2, .class_ 4), (0, .nameAndType 5 6), (0, u "java/lang/Object"), (0, u "<init>"), (0, u "()V"), (0, .integer 2147483647), (0, .class_ 9), (0, u "com/example/bean_wiring/beanwiring/internal/ClassFile"), (0, .methodref 8 3), (0, .methodref 8 12), (0, .nameAndType 13 14), (0, u "layOut"), (0, u "([BI)Lcom/example/bean_wiring/beanwiring/internal/ClassFile;"), (0, .methodref 8 16), (0, .nameAndType 17 18), (0, u "u2"), (0, u "(I)I"), (0, .integer 65535), (0, .integer 51966), (0, .integer 47806), (0, .class_ 23), (0, u "com/example/bean_wiring/beanwiring/internal/ClassFileU2PinLaw"), (2, u "law"), (0, u "(IIII)Z")] 5

def k1m0 : Method := { name := "<init>", desc := "()V", sig := { parameters := [], returnType := none }, accessFlags := 1, code := none }
def k1c1 : Code := { maxStack := 4, maxLocals := 8, code := code, exceptionTable := #[], attributes := #[] }
def k1m1 : Method := { name := "law", desc := "(IIII)Z", sig := { parameters := [.int, .int, .int, .int], returnType := some .boolean }, accessFlags := 9, code := some k1c1 }
/-- com/example/bean_wiring/beanwiring/internal/ClassFileU2PinLaw -/
def k1 : Class := { plain "com/example/bean_wiring/beanwiring/internal/ClassFileU2PinLaw" (some 0) with
  accessFlags := 49
  interfaces := #[]
  cf := some (fileOf pool1 22 #[] #[{ accessFlags := 1, nameIndex := 5, descriptorIndex := 6, attributes := #[] }, { accessFlags := 9, nameIndex := 26, descriptorIndex := 27, attributes := #[] }] 49 2 #[] #[])
  fields := #[]
  methods := #[k1m0, k1m1]
  instanceTypes := #[]
  staticTypes := #[]
  resolved := Array.replicate 33 none
  statics := none }

def pool2 : Array CpInfo := pool [(1, .methodref 2 3), (0, .class_ 4), (0, .nameAndType 5 6), (0, u "java/lang/Object"), (0, u "<init>"), (0, u "()V"), (0, .fieldref 8 9), (0, .class_ 10), (0, .nameAndType 11 12), (0, u "com/example/bean_wiring/beanwiring/internal/ClassFile"), (0, u "entries"), (0, u "[I"), (0, .fieldref 8 14), (0, .nameAndType 15 16), (0, u "bytes"), (0, u "[B"), (0, .fieldref 8 18), (0, .nameAndType 19 20), (0, u "length"), (0, u "I"), (0, .fieldref 8 22), (0, .nameAndType 23 20), (0, u "count"), (0, .methodref 8 25), (0, .nameAndType 26 27), (0, u "u4"), (0, u "(I)I"), (0, .integer 3405691582), (7, .methodref 8 37), (0, .nameAndType 38 27), (0, u "u2"), (7, .fieldref 8 47), (0, .nameAndType 48 20), (0, u "header"), (100, u "NEWEST_MAJOR"), (2, u "MAGIC"), (0, u "UTF8"), (1, u "INTEGER"), (1, u "FLOAT"), (1, u "LONG"), (1, u "DOUBLE"), (1, u "CLASS"), (1, u "STRING"), (1, u "FIELD"), (1, u "METHOD"), (1, u "INTERFACE_METHOD"), (1, u "NAME_AND_TYPE"), (1, u "METHOD_HANDLE"), (1, u "METHOD_TYPE"), (1, u "DYNAMIC"), (1, u "INVOKE_DYNAMIC"), (1, u "MODULE"), (1, u "PACKAGE"), (3, u "layOut"), (0, u "([BI)Lcom/example/bean_wiring/beanwiring/internal/ClassFile;")] 39

def k2c0 : Code := { maxStack := 2, maxLocals := 1, code := prog_88_method_1_code, exceptionTable := #[], attributes := #[] }
def k2m0 : Method := { name := "<init>", desc := "()V", sig := { parameters := [], returnType := none }, accessFlags := 0, code := some k2c0 }
def k2c1 : Code := { maxStack := 5, maxLocals := 8, code := prog_88_method_2_code, exceptionTable := #[], attributes := #[] }
def k2m1 : Method := { name := "layOut", desc := "([BI)Lcom/example/bean_wiring/beanwiring/internal/ClassFile;", sig := { parameters := [(.array .byte), .int], returnType := some (.object "com/example/bean_wiring/beanwiring/internal/ClassFile") }, accessFlags := 0, code := some k2c1 }
def k2c2 : Code := { maxStack := 4, maxLocals := 2, code := prog_88_method_8_code, exceptionTable := #[], attributes := #[] }
def k2m2 : Method := { name := "u2", desc := "(I)I", sig := { parameters := [.int], returnType := some .int }, accessFlags := 0, code := some k2c2 }
def k2c3 : Code := { maxStack := 4, maxLocals := 2, code := prog_88_method_9_code, exceptionTable := #[], attributes := #[] }
def k2m3 : Method := { name := "u4", desc := "(I)I", sig := { parameters := [.int], returnType := some .int }, accessFlags := 0, code := some k2c3 }
/-- com/example/bean_wiring/beanwiring/internal/ClassFile -/
def k2 : Class := { plain "com/example/bean_wiring/beanwiring/internal/ClassFile" (some 0) with
  accessFlags := 48
  interfaces := #[]
  cf := some (fileOf pool2 8 #[] #[{ accessFlags := 0, nameIndex := 5, descriptorIndex := 6, attributes := #[] }, { accessFlags := 0, nameIndex := 189, descriptorIndex := 190, attributes := #[] }, { accessFlags := 0, nameIndex := 38, descriptorIndex := 27, attributes := #[] }, { accessFlags := 0, nameIndex := 26, descriptorIndex := 27, attributes := #[] }] 48 2 #[] #[{ accessFlags := 24, nameIndex := 149, descriptorIndex := 20, attributes := #[] }, { accessFlags := 24, nameIndex := 152, descriptorIndex := 20, attributes := #[] }, { accessFlags := 24, nameIndex := 153, descriptorIndex := 20, attributes := #[] }, { accessFlags := 24, nameIndex := 155, descriptorIndex := 20, attributes := #[] }, { accessFlags := 24, nameIndex := 157, descriptorIndex := 20, attributes := #[] }, { accessFlags := 24, nameIndex := 159, descriptorIndex := 20, attributes := #[] }, { accessFlags := 24, nameIndex := 161, descriptorIndex := 20, attributes := #[] }, { accessFlags := 24, nameIndex := 163, descriptorIndex := 20, attributes := #[] }, { accessFlags := 24, nameIndex := 165, descriptorIndex := 20, attributes := #[] }, { accessFlags := 24, nameIndex := 167, descriptorIndex := 20, attributes := #[] }, { accessFlags := 24, nameIndex := 169, descriptorIndex := 20, attributes := #[] }, { accessFlags := 24, nameIndex := 171, descriptorIndex := 20, attributes := #[] }, { accessFlags := 24, nameIndex := 173, descriptorIndex := 20, attributes := #[] }, { accessFlags := 24, nameIndex := 175, descriptorIndex := 20, attributes := #[] }, { accessFlags := 24, nameIndex := 177, descriptorIndex := 20, attributes := #[] }, { accessFlags := 24, nameIndex := 179, descriptorIndex := 20, attributes := #[] }, { accessFlags := 24, nameIndex := 181, descriptorIndex := 20, attributes := #[] }, { accessFlags := 24, nameIndex := 183, descriptorIndex := 20, attributes := #[] }, { accessFlags := 24, nameIndex := 185, descriptorIndex := 20, attributes := #[] }, { accessFlags := 2, nameIndex := 15, descriptorIndex := 16, attributes := #[] }, { accessFlags := 2, nameIndex := 19, descriptorIndex := 20, attributes := #[] }, { accessFlags := 2, nameIndex := 11, descriptorIndex := 12, attributes := #[] }, { accessFlags := 2, nameIndex := 23, descriptorIndex := 20, attributes := #[] }, { accessFlags := 2, nameIndex := 48, descriptorIndex := 20, attributes := #[] }])
  fields := #[{ name := "NEWEST_MAJOR", type := .int, accessFlags := 24, slot := 0, constantValue := 0 }, { name := "MAGIC", type := .int, accessFlags := 24, slot := 1, constantValue := 0 }, { name := "UTF8", type := .int, accessFlags := 24, slot := 2, constantValue := 0 }, { name := "INTEGER", type := .int, accessFlags := 24, slot := 3, constantValue := 0 }, { name := "FLOAT", type := .int, accessFlags := 24, slot := 4, constantValue := 0 }, { name := "LONG", type := .int, accessFlags := 24, slot := 5, constantValue := 0 }, { name := "DOUBLE", type := .int, accessFlags := 24, slot := 6, constantValue := 0 }, { name := "CLASS", type := .int, accessFlags := 24, slot := 7, constantValue := 0 }, { name := "STRING", type := .int, accessFlags := 24, slot := 8, constantValue := 0 }, { name := "FIELD", type := .int, accessFlags := 24, slot := 9, constantValue := 0 }, { name := "METHOD", type := .int, accessFlags := 24, slot := 10, constantValue := 0 }, { name := "INTERFACE_METHOD", type := .int, accessFlags := 24, slot := 11, constantValue := 0 }, { name := "NAME_AND_TYPE", type := .int, accessFlags := 24, slot := 12, constantValue := 0 }, { name := "METHOD_HANDLE", type := .int, accessFlags := 24, slot := 13, constantValue := 0 }, { name := "METHOD_TYPE", type := .int, accessFlags := 24, slot := 14, constantValue := 0 }, { name := "DYNAMIC", type := .int, accessFlags := 24, slot := 15, constantValue := 0 }, { name := "INVOKE_DYNAMIC", type := .int, accessFlags := 24, slot := 16, constantValue := 0 }, { name := "MODULE", type := .int, accessFlags := 24, slot := 17, constantValue := 0 }, { name := "PACKAGE", type := .int, accessFlags := 24, slot := 18, constantValue := 0 }, { name := "bytes", type := (.array .byte), accessFlags := 2, slot := 0, constantValue := 0 }, { name := "length", type := .int, accessFlags := 2, slot := 1, constantValue := 0 }, { name := "entries", type := (.array .int), accessFlags := 2, slot := 2, constantValue := 0 }, { name := "count", type := .int, accessFlags := 2, slot := 3, constantValue := 0 }, { name := "header", type := .int, accessFlags := 2, slot := 4, constantValue := 0 }]
  methods := #[k2m0, k2m1, k2m2, k2m3]
  instanceTypes := #[(.array .byte), .int, (.array .int), .int, .int]
  staticTypes := #[.int, .int, .int, .int, .int, .int, .int, .int, .int, .int, .int, .int, .int, .int, .int, .int, .int, .int, .int]
  resolved := Array.replicate 230 none
  statics := none }

def pool3 : Array CpInfo := pool [(1, u "java/lang/Cloneable"), (0, .class_ 1), (0, u "java/lang/Object"), (0, .class_ 3)] 3

/-- java/lang/Cloneable -/
def k3 : Class := { plain "java/lang/Cloneable" (some 0) with
  accessFlags := 1537
  interfaces := #[]
  cf := some (fileOf pool3 2 #[] #[] 1537 4 #[] #[])
  fields := #[]
  methods := #[]
  instanceTypes := #[]
  staticTypes := #[]
  resolved := Array.replicate 8 none
  statics := none }

def pool4 : Array CpInfo := pool [(1, u "java/io/Serializable"), (0, .class_ 1), (0, u "java/lang/Object"), (0, .class_ 3)] 3

/-- java/io/Serializable -/
def k4 : Class := { plain "java/io/Serializable" (some 0) with
  accessFlags := 1537
  interfaces := #[]
  cf := some (fileOf pool4 2 #[] #[] 1537 4 #[] #[])
  fields := #[]
  methods := #[]
  instanceTypes := #[]
  staticTypes := #[]
  resolved := Array.replicate 8 none
  statics := none }

/-- the primitive byte -/
def k5 : Class := { plain "byte" none with kind := .primitive 'B', accessFlags := 0x411 }
/-- [B -/
def k6 : Class := { plain "[B" (some 0) with kind := .array 5 .byte, interfaces := #[3, 4], accessFlags := 1041 }

/-- the primitive int -/
def k7 : Class := { plain "int" none with kind := .primitive 'I', accessFlags := 0x411 }
/-- [I -/
def k8 : Class := { plain "[I" (some 0) with kind := .array 7 .int, interfaces := #[3, 4], accessFlags := 1041 }

def heap : Heap := #[]
def classes : Array Class := #[k0, k1, k2, k3, k4, k5, k6, k7, k8]
def interned : List (Array UInt16 × Addr) := []
def slotsUsed : Nat := 0
def theMethod : MethodId := ⟨1, 1⟩
def args0 : Array Value := #[.int 5, .int 6, .int 7, .int 8]
def aboutOver (below : List Frame) : State where
  vm := { classes := classes, interned := interned.toArray }
  heap := heap
  slotsUsed := slotsUsed
  threads := #[{ frames := .invoking theMethod args0 :: below }]
def below0 : List Frame := [.native { method := ⟨0, 0⟩, args := #[] }]
def about1 : State := aboutOver below0
def p0 : Program := .bare "" "" ""
def e0 : Env := launch0.env 0 0 0
theorem w_frames : about1.frames = Frame.invoking theMethod args0 :: below0 := rfl
set_option maxRecDepth 65536 in
theorem w_args : argsFit about1.vm theMethod args0 = true := by decide +kernel
set_option maxRecDepth 65536 in
theorem w_heap : heapFits about1 = true := by decide +kernel
set_option maxRecDepth 65536 in
theorem w_runnable : about1.curStatus? = some .runnable := by decide +kernel
set_option maxRecDepth 65536 in
theorem w_alone : about1.alone = true := by decide +kernel
set_option maxRecDepth 65536 in
theorem w_named : about1.methodNamed? x = some theMethod := by decide +kernel
set_option maxRecDepth 65536 in
theorem w_hears : about1.hears theMethod below0 = true := by decide +kernel
set_option maxRecDepth 65536 in
theorem w_ripe : about1.ripe theMethod args0 below0 = true := by decide +kernel
theorem w_running : about1.status = .running := rfl
set_option maxRecDepth 65536 in
theorem w_room : about1.hasRoom e0.platform room_1 = true :=
  launch0.hasRoom_least _ room_1 (by decide +kernel) (by decide +kernel) (by decide +kernel) (by decide +kernel) (by decide +kernel) (by decide +kernel)
theorem allAtoms_all (ts : List Jvm.Cond) (a : Array Jvm.Value) (st : Jvm.State) : (allAtoms ts).before a st = ts.all (fun c => c.before a st) := by
  induction ts with
  | nil => rfl
  | cons c t ih =>
    show (Jvm.Cond.and c (allAtoms t)).before a st = _
    rw [Jvm.Cond.before_and, ih, List.all_cons]
def words1 : List Jvm.Cond := Jvm.Cond.code x code maxLocals ret :: tables_1
/-- a 'code' word, met by the world's own term for the bytes: nothing is compared byte by byte -/
theorem code_word {y : MethodName} {bytes : ByteArray} {mx : Nat} {rt : Option FieldType} {a : Array Value} {s : State} {m : MethodId} {meth : Method} {c : Code} (h1 : s.methodNamed? y = some m) (h2 : s.vm.method? m = some meth) (h3 : meth.code = some c) (h4 : c.code = bytes)
    (h5 : (c.maxLocals == mx && c.exceptionTable.isEmpty && decide (c.maxStack ≤ mostOperands) && decide (meth.sig.returnType = rt) && !meth.locks && decide (parseMethodDescriptor y.desc = some meth.sig)) = true) : (Jvm.Cond.code y bytes mx rt).before a s = true := by
  simp only [Bool.and_eq_true, beq_iff_eq, Bool.not_eq_true', decide_eq_true_eq] at h5
  obtain ⟨⟨⟨⟨⟨g1, g2⟩, g3⟩, g4⟩, g5⟩, g6⟩ := h5
  simp [Cond.before, Cond.holds, Cond.value, h1, h2, h3, h4, g1, g2, g3, g4, g5, g6]
def isCode : Jvm.Cond → Bool
  | .code _ _ _ _ => true
  | _ => false
theorem all_split {L : List Jvm.Cond} {P : Jvm.Cond → Bool} (h1 : L.all (fun c => isCode c || P c) = true) (h2 : ∀ c ∈ L.filter isCode, P c = true) : L.all P = true := by
  refine List.all_eq_true.mpr fun c hc => ?_
  have h := List.all_eq_true.mp h1 c hc
  rcases Bool.eq_false_or_eq_true (isCode c) with hi | hi
  · exact h2 c (List.mem_filter.mpr ⟨hc, hi⟩)
  · simpa [hi] using h
set_option maxRecDepth 65536 in
theorem w_c0 : (Jvm.Cond.code x code maxLocals ret).before args0 about1 = true := code_word (m := ⟨1, 1⟩) (meth := k1m1) (c := k1c1) (by decide +kernel) rfl rfl rfl (by decide +kernel)
set_option maxRecDepth 65536 in
theorem w_c1 : (Jvm.Cond.code ({ cls := "com/example/bean_wiring/beanwiring/internal/ClassFile", name := "<init>", desc := "()V" } : Jvm.MethodName) prog_88_method_1_code (1 : Nat) (Option.none : Option Jvm.ClassFile.FieldType)).before args0 about1 = true := code_word (m := ⟨2, 0⟩) (meth := k2m0) (c := k2c0) (by decide +kernel) rfl rfl rfl (by decide +kernel)
set_option maxRecDepth 65536 in
theorem w_c2 : (Jvm.Cond.code ({ cls := "java/lang/Object", name := "<init>", desc := "()V" } : Jvm.MethodName) object_method_1_code (1 : Nat) (Option.none : Option Jvm.ClassFile.FieldType)).before args0 about1 = true := code_word (m := ⟨0, 0⟩) (meth := k0m0) (c := k0c0) (by decide +kernel) rfl rfl rfl (by decide +kernel)
set_option maxRecDepth 65536 in
theorem w_c3 : (Jvm.Cond.code ({ cls := "com/example/bean_wiring/beanwiring/internal/ClassFile", name := "layOut", desc := "([BI)Lcom/example/bean_wiring/beanwiring/internal/ClassFile;" } : Jvm.MethodName) prog_88_method_2_code (8 : Nat) (Option.some (Jvm.ClassFile.FieldType.object "com/example/bean_wiring/beanwiring/internal/ClassFile"))).before args0 about1 = true := code_word (m := ⟨2, 1⟩) (meth := k2m1) (c := k2c1) (by decide +kernel) rfl rfl rfl (by decide +kernel)
set_option maxRecDepth 65536 in
theorem w_c4 : (Jvm.Cond.code ({ cls := "com/example/bean_wiring/beanwiring/internal/ClassFile", name := "u4", desc := "(I)I" } : Jvm.MethodName) prog_88_method_9_code (2 : Nat) (Option.some Jvm.ClassFile.FieldType.int)).before args0 about1 = true := code_word (m := ⟨2, 3⟩) (meth := k2m3) (c := k2c3) (by decide +kernel) rfl rfl rfl (by decide +kernel)
set_option maxRecDepth 65536 in
theorem w_c5 : (Jvm.Cond.code ({ cls := "com/example/bean_wiring/beanwiring/internal/ClassFile", name := "u2", desc := "(I)I" } : Jvm.MethodName) prog_88_method_8_code (2 : Nat) (Option.some Jvm.ClassFile.FieldType.int)).before args0 about1 = true := code_word (m := ⟨2, 2⟩) (meth := k2m2) (c := k2c2) (by decide +kernel) rfl rfl rfl (by decide +kernel)
def codes1 : List Jvm.Cond := [Jvm.Cond.code x code maxLocals ret, Jvm.Cond.code ({ cls := "com/example/bean_wiring/beanwiring/internal/ClassFile", name := "<init>", desc := "()V" } : Jvm.MethodName) prog_88_method_1_code (1 : Nat) (Option.none : Option Jvm.ClassFile.FieldType), Jvm.Cond.code ({ cls := "java/lang/Object", name := "<init>", desc := "()V" } : Jvm.MethodName) object_method_1_code (1 : Nat) (Option.none : Option Jvm.ClassFile.FieldType), Jvm.Cond.code ({ cls := "com/example/bean_wiring/beanwiring/internal/ClassFile", name := "layOut", desc := "([BI)Lcom/example/bean_wiring/beanwiring/internal/ClassFile;" } : Jvm.MethodName) prog_88_method_2_code (8 : Nat) (Option.some (Jvm.ClassFile.FieldType.object "com/example/bean_wiring/beanwiring/internal/ClassFile")), Jvm.Cond.code ({ cls := "com/example/bean_wiring/beanwiring/internal/ClassFile", name := "u4", desc := "(I)I" } : Jvm.MethodName) prog_88_method_9_code (2 : Nat) (Option.some Jvm.ClassFile.FieldType.int), Jvm.Cond.code ({ cls := "com/example/bean_wiring/beanwiring/internal/ClassFile", name := "u2", desc := "(I)I" } : Jvm.MethodName) prog_88_method_8_code (2 : Nat) (Option.some Jvm.ClassFile.FieldType.int)]
set_option maxRecDepth 65536 in
theorem codes_eq : words1.filter isCode = codes1 := rfl
theorem w_codes : ∀ c ∈ words1.filter isCode, c.before args0 about1 = true := by
  rw [codes_eq]
  intro c hc
  simp only [codes1, List.mem_cons, List.not_mem_nil, or_false] at hc
  rcases hc with rfl | rfl | rfl | rfl | rfl | rfl
  · exact w_c0
  · exact w_c1
  · exact w_c2
  · exact w_c3
  · exact w_c4
  · exact w_c5
set_option maxRecDepth 65536 in
theorem w_t1 : (words1.take 24).all (fun c => isCode c || c.before args0 about1) = true := by decide +kernel
set_option maxRecDepth 65536 in
theorem w_t2 : (words1.drop 24).all (fun c => isCode c || c.before args0 about1) = true := by decide +kernel
theorem w_tables : (allAtoms (Jvm.Cond.code x code maxLocals ret :: tables_1)).before args0 about1 = true := by
  rw [allAtoms_all]
  show words1.all (fun c => c.before args0 about1) = true
  refine all_split ?_ w_codes
  rw [← List.take_append_drop 24 words1, List.all_append, w_t1, w_t2]
  rfl
set_option maxRecDepth 65536 in
theorem w_case : (Jvm.Cond.and given_1 narrow_1).before args0 about1 = true := by decide +kernel
theorem w_applies : (headSpec (Jvm.Cond.code x code maxLocals ret :: tables_1) room_1).applies x e0.platform about1 = true :=
  (Spec.applies_iff w_frames).mpr ⟨w_running, w_runnable, w_alone, w_named, w_hears, w_ripe, w_room, w_tables⟩
theorem atStart : AtStart classFile x code maxLocals ret World_1 tables_1 room_1 Calls_1 rest_1 Pre_1 launch0 p0 e0 about1 theMethod args0 below0 :=
  ⟨lists_1, trivial, launch0.admits_env _ _ _, launch0.least_env, fairChoices_fair.cas, fairChoices_fair.clock, w_frames, w_args, w_heap, w_applies, trivial, trivial, w_case⟩
end start1
theorem witness_1 : WitnessClaimed_1 := ⟨start1.p0, start1.e0, start1.about1, start1.theMethod, start1.args0, start1.below0, start1.atStart⟩
end Jvm.Pilot.@@N@@
