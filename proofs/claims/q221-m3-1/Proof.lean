import JvmDerived
import JvmDerived.Pilot.@@N@@Statement
import JvmDerived.Pilot.@@N@@Code
set_option linter.unusedVariables false
set_option linter.unusedSimpArgs false
namespace Jvm.RoadKit
open Sem ClassFile Op Lib Jvm.Stand Jvm.Free Jvm.LawKit
section New
variable {p : Program} {l : Launch} {e : Env} {R : Room} {s : State} {m : MethodId} {args : Array Value} {below : List Frame} {meth : Method} {c : Code} {T : State} {locs : List Loc} {cells slots : Nat}
theorem retI (X : Stand p l e R s m args below meth c T locs cells slots) (hx : p.tables.exec = Jvm.exec) {pc : Nat} {Ls : Array Slot} {z : Int32} {rest : List Value} (hret : meth.sig.returnType = some .int) (hd : decode c.code pc = .ok (.ireturn, 1)) {fs : List Frame}
    (hl : ∀ (f : JFrame) (acts : List Action), f.method = m → f.locked = none → f.entered = [] → (doReturn e (T.setTop f) acts (some (.int z))).1 = T.setFrames fs) : Steps p.tables e below (T.setTop (mkF m pc Ls (.int z :: rest))) (T.setFrames fs) := by
  have hm' : T.vm.method? m = some meth := X.method'
  have hn : narrow .int (.int z) = .int z := rfl
  show Steps p.tables e below (T.setTop { method := m, pc := pc, locals := Ls, stack := _ :: rest, locked := none }) _
  jvm_step X.here [X.here.top, hx, hd, hm', hret, hn]
  first | (intro acts; rw [hl _ acts rfl rfl rfl]) | rw [hl _ _ rfl rfl rfl]
  exact Steps.refl _
end New
end Jvm.RoadKit
namespace Jvm.Pilot.@@N@@
open Jvm Jvm.ClassFile Sem Op Lib Jvm.Free Jvm.Stand Jvm.LawKit Jvm.RoadKit Bundle Jvm.Pilot.@@N@@.Jvm.D
abbrev SS (p : Program) (e : Env) (below : List Frame) (T : State) (g : JFrame) (t : State) : Prop := Steps p.tables e below (T.setTop g) t
abbrev vi (x : Int32) : Slot := .val (.int x)
abbrev vl (x : Int64) : Slot := .val (.long x)
abbrev vr (x : Addr) : Slot := .val (.ref x)
abbrev vd (x : UInt64) : Slot := .val (.double x)
abbrev uu : Slot := .unset
abbrev us : Slot := .second
theorem wd {a0 : Array Value} {Z : State} (hw : ∀ d ∈ tables_1, d.before a0 Z = true) (i : Nat) {d : Jvm.Cond} (h : tables_1[i]? = some d) : d.before a0 Z = true := hw _ (List.mem_of_getElem? h)
theorem own_hk {T : State} {h : Heap} {k : Nat} (e : T.heap = h) (q : k ≤ h.size) : k ≤ T.heap.size := e ▸ q
theorem own_szW {h h' : Heap} {a : Addr} {sl : Nat} {v : Value} {k : Nat} (W : Wr h h' a sl v) (q : k ≤ h.size) : k ≤ h'.size := by rw [W.size]; exact q
theorem own_at {T : State} {h : Heap} {a : Addr} {c : Cell} (e : T.heap = h) (q : h[a]? = some c) : T.heap[a]? = some c := e ▸ q
theorem own_max {a : UInt64} (h : Jvm.Free.Fl.Fin64 a) : ¬ ((0 : Int32) < (cmpValue (FP.dcmp (a &&& (0x7fffffffffffffff : UInt64)) (9218868437227405311 : UInt64)) .g)) := by
  have q := (Jvm.Free.Fl.le_max_iff h.noNaN).mpr h
  rcases Jvm.Free.Fl.relLe_iff.mp q with e | e
  · have e' : FP.dcmp (a &&& (0x7fffffffffffffff : UInt64)) (9218868437227405311 : UInt64) = some .lt := e
    rw [e']; decide
  · have e' : FP.dcmp (a &&& (0x7fffffffffffffff : UInt64)) (9218868437227405311 : UInt64) = some .eq := e
    rw [e']; decide
theorem own_fin (x : Int32) : Jvm.Free.Fl.Fin64 (FP.i2d x) := by rw [i2d_w]; exact Jvm.Free.Fl.l2d_fin _
theorem own_bx (x : Int32) : B53 x.toInt64 := by
  have r := rng32 x
  have e := c_i2l x
  exact ⟨by omega, by omega⟩
theorem own_nn {v : Int32} (h0 : 0 ≤ v.toInt) : ¬ ((cmpValue (FP.dcmp (FP.i2d v) (0 : UInt64)) .l) < (0 : Int32)) := by
  rw [i2d_w, ← l2d_zero, dcmpV_w (own_bx v) (⟨by decide, by decide⟩ : B53 0), lw_lt, Int64.lt_iff_toInt_lt, c_i2l]
  have : ((0 : Int64)).toInt = 0 := by decide
  omega
theorem own_nz {t : Int32} (h : t ≠ 0) : t.toInt64 ≠ 0 := fun e => h (by
  apply Int32.toInt_inj.mp
  rw [← c_i2l t, e]; decide)
theorem own_dnn (s : Int32) {t : Int32} (h : t ≠ 0) : Jvm.Free.Fl.NoNaN64 (FP.ddiv (FP.i2d s) (FP.i2d t)) := by
  rw [i2d_w, i2d_w]
  exact Jvm.Free.Fl.ddiv_out (Jvm.Free.Fl.l2d_fin _).noNaN (Jvm.Free.Fl.l2d_fin _) (Jvm.Free.Fl.l2d_nz (own_nz h))
theorem own_eq {a b w : Int32} (h : FP.ddiv (FP.i2d a) (FP.i2d b) = FP.i2d w) {o : CmpOp} : cmpValue (FP.dcmp (FP.ddiv (FP.i2d a) (FP.i2d b)) (FP.i2d w)) o = (0 : Int32) := by
  rw [h]; exact dcmpV_self (own_fin w).noNaN o
theorem own_eq0 {o : CmpOp} : cmpValue (FP.dcmp (0 : UInt64) (0 : UInt64)) o = (0 : Int32) := by
  have h : Jvm.Free.Fl.NoNaN64 (0 : UInt64) := by rw [← l2d_zero]; exact (Jvm.Free.Fl.l2d_fin 0).noNaN
  exact dcmpV_self h o
open Jvm.FP.Core in
theorem own_quot {f : Fmt} {c d : Nat} {q r : Int} {w t : Nat} (ht : 0 < t) (hx : Whole ((w * t : Nat) : Int) (.fin false c q)) (hy : Whole (t : Int) (.fin false d r)) :
    quotient f (.fin false c q) (.fin false d r) = round f (ofInt (w : Int)) := by
  have h1 : c * 2 ^ q.toNat = w * t * 2 ^ (-q).toNat := by
    have h : ((c * 2 ^ q.toNat : Nat) : Int) = ((w * t : Nat) : Int) * ((2 ^ (-q).toNat : Nat) : Int) := hx
    exact_mod_cast h
  have h2 : d * 2 ^ r.toNat = t * 2 ^ (-r).toNat := by
    have h : ((d * 2 ^ r.toNat : Nat) : Int) = (t : Int) * ((2 ^ (-r).toNat : Nat) : Int) := hy
    exact_mod_cast h
  have hd : 0 < d := by
    rcases Nat.eq_zero_or_pos d with h | h
    · rw [h, Nat.zero_mul] at h2
      have : 0 < t * 2 ^ (-r).toNat := Nat.mul_pos ht (Nat.two_pow_pos _)
      omega
    · exact h
  have e1 : quotient f (.fin false c q) (.fin false d r) = roundRatio f false c d (q - r) := by
    show (if d = 0 then _ else roundRatio f (false != false) c d (q - r)) = _
    rw [if_neg (by omega)]; rfl
  have e2 : round f (ofInt (w : Int)) = roundRatio f false w 1 0 := by
    show roundRatio f (decide ((w : Int) < 0)) ((w : Int).natAbs) 1 0 = _
    rw [decide_eq_false (by omega)]; rfl
  rw [e1, e2]
  refine roundRatio_congr hd (by decide) ?_
  rw [Nat.mul_one]
  -- c * 2^(q-r) = w * d * 2^(r-q)
  have key : (c * 2 ^ ((q - r) - 0).toNat) * (2 ^ q.toNat * t * 2 ^ (-r).toNat * 2 ^ r.toNat) = (w * d * 2 ^ (0 - (q - r)).toNat) * (2 ^ q.toNat * t * 2 ^ (-r).toNat * 2 ^ r.toNat) := by
    have p1 : 2 ^ ((q - r) - 0).toNat * 2 ^ (-q).toNat * 2 ^ r.toNat = 2 ^ (0 - (q - r)).toNat * 2 ^ q.toNat * 2 ^ (-r).toNat := by
      rw [← Nat.pow_add, ← Nat.pow_add, ← Nat.pow_add, ← Nat.pow_add]
      congr 1
      omega
    calc (c * 2 ^ ((q - r) - 0).toNat) * (2 ^ q.toNat * t * 2 ^ (-r).toNat * 2 ^ r.toNat)
        = (c * 2 ^ q.toNat) * (2 ^ ((q - r) - 0).toNat * 2 ^ r.toNat * t * 2 ^ (-r).toNat) := by ac_rfl
      _ = (w * t * 2 ^ (-q).toNat) * (2 ^ ((q - r) - 0).toNat * 2 ^ r.toNat * t * 2 ^ (-r).toNat) := by rw [h1]
      _ = (w * t) * (t * 2 ^ (-r).toNat) * (2 ^ ((q - r) - 0).toNat * 2 ^ (-q).toNat * 2 ^ r.toNat) := by ac_rfl
      _ = (w * t) * (d * 2 ^ r.toNat) * (2 ^ (0 - (q - r)).toNat * 2 ^ q.toNat * 2 ^ (-r).toNat) := by rw [h2, p1]
      _ = (w * d * 2 ^ (0 - (q - r)).toNat) * (2 ^ q.toNat * t * 2 ^ (-r).toNat * 2 ^ r.toNat) := by ac_rfl
  have pos : 0 < 2 ^ q.toNat * t * 2 ^ (-r).toNat * 2 ^ r.toNat := Nat.mul_pos (Nat.mul_pos (Nat.mul_pos (Nat.two_pow_pos _) ht) (Nat.two_pow_pos _)) (Nat.two_pow_pos _)
  exact Nat.eq_of_mul_eq_mul_right pos key
open Jvm.FP.Core in
theorem own_ddiv {a t w : Int64} (ha : Small53 a) (ht : Small53 t) (h0 : 0 ≤ w.toInt) (h1 : 0 < t.toInt) (he : a.toInt = w.toInt * t.toInt) : Jvm.FP.Core.ddiv (Jvm.FP.Core.l2d a) (Jvm.FP.Core.l2d t) = Jvm.FP.Core.l2d w := by
  have wa := l2d_whole ha
  have wt := l2d_whole ht
  obtain ⟨c, q, ea⟩ := l2d_shape a
  obtain ⟨d, r, et⟩ := l2d_shape t
  show of64 (quotient b64 (val64 (Jvm.FP.Core.l2d a)) (val64 (Jvm.FP.Core.l2d t))) = of64 (round b64 (ofInt w.toInt))
  have a0 : 0 ≤ a.toInt := by rw [he]; exact Int.mul_nonneg h0 (by omega)
  rw [decide_eq_false (by omega)] at ea et
  rw [ea] at wa
  rw [et] at wt
  rw [ea, et]
  obtain ⟨wn, hw⟩ : ∃ n : Nat, w.toInt = (n : Int) := ⟨w.toInt.toNat, by omega⟩
  obtain ⟨tn, htn⟩ : ∃ n : Nat, t.toInt = (n : Int) := ⟨t.toInt.toNat, by omega⟩
  rw [hw]
  refine congrArg of64 (own_quot (t := tn) (by omega) ?_ ?_)
  · rw [he, hw, htn] at wa; exact_mod_cast wa
  · rw [htn] at wt; exact wt
theorem own_w (x : Int32) : 0 ≤ (x &&& (1023 : Int32)).toInt ∧ (x &&& (1023 : Int32)).toInt ≤ 1023 := by
  have h := c_mask x (1023 : Int32) 10 (by decide) (by decide)
  omega
theorem own_tot (x : Int32) : (((x &&& (1023 : Int32)) + (1 : Int32)) ≠ 0) ∧ 1 ≤ ((x &&& (1023 : Int32)) + (1 : Int32)).toInt ∧ ((x &&& (1023 : Int32)) + (1 : Int32)).toInt ≤ 1024 := by
  have h := own_w x
  have a := c_iadd (x &&& (1023 : Int32)) (1 : Int32)
  have ar := rng32 ((x &&& (1023 : Int32)) + (1 : Int32))
  have e1 : ((1 : Int32)).toInt = 1 := by decide
  refine ⟨fun e => ?_, by omega, by omega⟩
  have e0 : ((0 : Int32)).toInt = 0 := by decide
  rw [e] at a ar
  omega
theorem own_prod (x y : Int32) : ((x &&& (1023 : Int32)) * ((y &&& (1023 : Int32)) + (1 : Int32))).toInt = (x &&& (1023 : Int32)).toInt * ((y &&& (1023 : Int32)) + (1 : Int32)).toInt ∧ 0 ≤ (x &&& (1023 : Int32)).toInt * ((y &&& (1023 : Int32)) + (1 : Int32)).toInt ∧ (x &&& (1023 : Int32)).toInt * ((y &&& (1023 : Int32)) + (1 : Int32)).toInt ≤ 1047552 := by
  have hx := own_w x
  have hy := own_tot y
  have m := c_imul (x &&& (1023 : Int32)) ((y &&& (1023 : Int32)) + (1 : Int32))
  have mr := rng32 ((x &&& (1023 : Int32)) * ((y &&& (1023 : Int32)) + (1 : Int32)))
  have p0 : 0 ≤ (x &&& (1023 : Int32)).toInt * ((y &&& (1023 : Int32)) + (1 : Int32)).toInt := Int.mul_nonneg hx.1 (by omega)
  have p1 : (x &&& (1023 : Int32)).toInt * ((y &&& (1023 : Int32)) + (1 : Int32)).toInt ≤ 1023 * 1024 := Int.mul_le_mul hx.2 hy.2.2 (by omega) (by decide)
  exact ⟨by omega, p0, by omega⟩
theorem own_pos (x y : Int32) : 0 ≤ ((x &&& (1023 : Int32)) * ((y &&& (1023 : Int32)) + (1 : Int32))).toInt := by
  have h := own_prod x y
  omega
theorem own_div (x y : Int32) : FP.ddiv (FP.i2d ((x &&& (1023 : Int32)) * ((y &&& (1023 : Int32)) + (1 : Int32)))) (FP.i2d ((y &&& (1023 : Int32)) + (1 : Int32))) = FP.i2d (x &&& (1023 : Int32)) := by
  have h := own_prod x y
  have hx := own_w x
  have hy := own_tot y
  rw [i2d_w, i2d_w, i2d_w]
  refine own_ddiv (sm (own_bx _)) (sm (own_bx _)) ?_ ?_ ?_
  · rw [c_i2l]; omega
  · rw [c_i2l]; omega
  · rw [c_i2l, c_i2l, c_i2l]; omega
theorem own_near (x : Int32) : (x &&& (3 : Int32)) = 0 ∨ (x &&& (3 : Int32)) = 1 ∨ (x &&& (3 : Int32)) = 2 ∨ (x &&& (3 : Int32)) = 3 := by
  have h := c_mask x (3 : Int32) 2 (by decide) (by decide)
  have e0 : ((0 : Int32)).toInt = 0 := by decide
  have e1 : ((1 : Int32)).toInt = 1 := by decide
  have e2 : ((2 : Int32)).toInt = 2 := by decide
  have e3 : ((3 : Int32)).toInt = 3 := by decide
  simp only [← Int32.toInt_inj]
  omega
theorem own_hi {x : Int32} (h : ¬ x < (0 : Int32)) (n0 : ¬ x = (0 : Int32)) (n1 : ¬ x = (1 : Int32)) (n2 : ¬ x = (2 : Int32)) : ¬ (x < (3 : Int32)) := by
  have e0 : ((0 : Int32)).toInt = 0 := by decide
  have e1 : ((1 : Int32)).toInt = 1 := by decide
  have e2 : ((2 : Int32)).toInt = 2 := by decide
  have e3 : ((3 : Int32)).toInt = 3 := by decide
  rw [Int32.lt_iff_toInt_lt] at h ⊢
  simp only [← Int32.toInt_inj] at n0 n1 n2
  omega
theorem own_five (x : Int32) : x = (0 : Int32) ∨ x = (1 : Int32) ∨ x = (2 : Int32) ∨ (x < (0 : Int32) ∧ ¬ (x = (0 : Int32)) ∧ ¬ (x = (1 : Int32)) ∧ ¬ (x = (2 : Int32))) ∨ (¬ (x < (0 : Int32)) ∧ ¬ (x < (3 : Int32)) ∧ ¬ (x = (0 : Int32)) ∧ ¬ (x = (1 : Int32)) ∧ ¬ (x = (2 : Int32))) := by
  by_cases e0 : x = (0 : Int32)
  · exact Or.inl e0
  by_cases e1 : x = (1 : Int32)
  · exact Or.inr (Or.inl e1)
  by_cases e2 : x = (2 : Int32)
  · exact Or.inr (Or.inr (Or.inl e2))
  by_cases e3 : x < (0 : Int32)
  · exact Or.inr (Or.inr (Or.inr (Or.inl ⟨e3, e0, e1, e2⟩)))
  · exact Or.inr (Or.inr (Or.inr (Or.inr ⟨e3, own_hi e3 e0 e1 e2, e0, e1, e2⟩)))
theorem ef_0 (m : MethodId) (x0 : UInt64) : entryFrame m #[(.double x0)] 2 = mkF m 0 #[vd x0, us] [] := by first | (simp [entryFrame, mkF, argsToLocals, Value.category]; done) | rfl
theorem pn_0 : plainName "java/lang/Double" = true := by first | (simp [plainName, overriddenIn]; done) | decide +kernel
theorem d4_0 : decode jdk_117_method_8_code 0 = .ok (.dload_n 0, 1) := by decide +kernel
theorem d4_1 : decode jdk_117_method_8_code 1 = .ok (.invokestatic 38, 3) := by decide +kernel
theorem pd_0 : parseMethodDescriptor "(D)D" = some ⟨[.double], some .double⟩ := by decide +kernel
theorem d4_4 : decode jdk_117_method_8_code 4 = .ok (.ldc2_w 111, 3) := by decide +kernel
theorem d4_7 : decode jdk_117_method_8_code 7 = .ok (.dcmp .g, 1) := by decide +kernel
theorem d4_8 : decode jdk_117_method_8_code 8 = .ok (.ifCond .gt 7, 3) := by decide +kernel
theorem d4_11 : decode jdk_117_method_8_code 11 = .ok (.iconst 1, 1) := by decide +kernel
theorem d4_12 : decode jdk_117_method_8_code 12 = .ok (.goto 4, 3) := by decide +kernel
theorem d4_16 : decode jdk_117_method_8_code 16 = .ok (.ireturn, 1) := by decide +kernel
def Q_rmF (Z : State) (f0 : UInt64) (h0 : Heap) (n0 : Nat) (v : Option Value) (h : Heap) (L : List Loc) : Prop := (v = some (.int (1 : Int32)) ∧ Fr n0 L ∧ h = h0)
set_option maxRecDepth 65536 in
set_option maxHeartbeats 40000000 in
theorem rmF (l : Launch) (Z : State) (a0 : Array Value) (hw : ∀ d ∈ tables_1, d.before a0 Z = true) (ws : List Jvm.Cond) (f0 : UInt64) (h0 : Heap) (n0 : Nat) (Z0 : n0 ≤ h0.size) (uF : Jvm.Free.Fl.Fin64 f0) :
    MetFree l (⟨"java/lang/Double", "isFinite", "(D)Z"⟩ : MethodName) (head1 (Jvm.Cond.code (⟨"java/lang/Double", "isFinite", "(D)Z"⟩ : MethodName) jdk_117_method_8_code 2 (some .boolean) :: ws) ({ frames := 1, cells := 0, slots := 0, locals := 13 } : Room)) (fun a U => a = #[(.double f0)] ∧ Z.Warmed39 U.vm ∧ U.heap = h0) (fun _ _ _ _ _ => True) (fun _ U o U' => ∃ v L, o = .returned v ∧ Q_rmF Z f0 h0 n0 v U'.heap L ∧ FrameEnd U o U' L ({ frames := 1, cells := 0, slots := 0, locals := 13 } : Room).cells ({ frames := 1, cells := 0, slots := 0, locals := 13 } : Room).slots) := by
  refine MetFree.of_bodySF (plainFor_of_name pn_0) hisR ?_
  intro p e s m args below meth c s₁ Bd hml0 hP hK
  obtain ⟨rfl, hZ, hh⟩ := hP
  have hx := Bd.exec
  have hby := Bd.bytes
  have hml : c.maxLocals = 2 := hml0
  have hown : s.vm.findClass "java/lang/Double" = some m.cls := findClass_of_methodNamed Bd.named
  have hnm := (name_of_methodNamed Bd.named Bd.method).1
  have X0 : Stand p l e ({ frames := 1, cells := 0, slots := 0, locals := 13 } : Room) s m #[(.double f0)] below meth c s₁ [] 0 0 := Stand.of_body Bd
  have e0 : s₁.heap = h0 := by rw [← hh, Bd.state]; rfl
  have N0 := Fr.nil n0
  have pre0 : ∀ t, Steps p.tables e below (s₁.setTop (mkF m 0 #[vd f0, us] [])) t → Steps p.tables e below (s₁.setTop (entryFrame m #[(.double f0)] 2)) t := fun t k => castTop (ef_0 m f0) k
  obtain ⟨T1, X1, e1, st1⟩ := natS X0 hx hZ (y := (⟨"java/lang/Math", "abs", "(D)D"⟩ : MethodName)) hown (wd hw 17 rfl) (wd hw 18 rfl) (wd hw 19 rfl) (wd hw 20 rfl) (by decide) e0 (W := 0) (fun hc => Jvm.Free.Fl.Abs.absD_pays f0 hc (by decide) (by decide)) (g := (mkF m 1 #[vd f0, us] [(.double f0)])) rfl (by rw [hml]; rfl) (argsL := [(.double f0)]) (rest := []) (lenOf pd_0 rfl) rfl (by show 2 * 0 + _ ≤ _; exact Nat.le_of_eq rfl) (hb hby d4_1) (by decide) (by decide) ⟨rfl, uF.noNaN⟩ (val' := (.double (f0 &&& (0x7fffffffffffffff : UInt64)))) rfl
  obtain ⟨fs, hr, hrun, hended, hW, hsame⟩ := X1.leave (v := some (.int (nar .boolean (1 : Int32)))) (fun h => by rw [Bd.returns] at h; cases h)
  refine ⟨_, _, pre0 _ ?_, hrun, hended, _, _, rfl, ?_, ⟨_, rfl⟩, hW, hsame.mono (by decide) (by decide)⟩
  · show SS p e below s₁ (mkF m 0 #[vd f0, us] []) _
    refine XS.dloadN X0.here hx rfl (hb hby d4_0) rfl ?_
    show SS p e below s₁ (mkF m 1 #[vd f0, us] [(.double f0)]) _
    refine st1 _ ?_
    show SS p e below T1 (mkF m 4 #[vd f0, us] [(.double (f0 &&& (0x7fffffffffffffff : UInt64)))]) _
    refine X1.ldc2DoubleC hx hown (mvT hZ (wd hw 21 rfl)) (g := (mkF m 4 #[vd f0, us] [(.double (f0 &&& (0x7fffffffffffffff : UInt64)))])) rfl (hb hby d4_4) _ ?_
    show SS p e below T1 (mkF m 7 #[vd f0, us] [(.double (9218868437227405311 : UInt64)), (.double (f0 &&& (0x7fffffffffffffff : UInt64)))]) _
    refine XS.dcmpS X1.here hx rfl (hb hby d4_7) rfl (v := (cmpValue (FP.dcmp (f0 &&& (0x7fffffffffffffff : UInt64)) (9218868437227405311 : UInt64)) .g)) rfl ?_
    show SS p e below T1 (mkF m 8 #[vd f0, us] [(.int (cmpValue (FP.dcmp (f0 &&& (0x7fffffffffffffff : UInt64)) (9218868437227405311 : UInt64)) .g))]) _
    refine XS.ifNo X1.here hx rfl (hb hby d4_8) rfl ((if0 _ _).trans (flt (own_max uF : ¬ ((0 : Int32) < (cmpValue (FP.dcmp (f0 &&& (0x7fffffffffffffff : UInt64)) (9218868437227405311 : UInt64)) .g)))).2.2.1) ?_
    show SS p e below T1 (mkF m 11 #[vd f0, us] []) _
    refine XS.iconst X1.here hx rfl (hb hby d4_11) ?_
    show SS p e below T1 (mkF m 12 #[vd f0, us] [(.int (1 : Int32))]) _
    refine XS.goto X1.here hx rfl (pc0 := 12) (pc' := 16) rfl (hb hby d4_12) (by decide) (by decide) ?_
    show SS p e below T1 (mkF m 16 #[vd f0, us] [(.int (1 : Int32))]) _
    exact retN X1 hx (t := .boolean) Bd.returns (by simp) (hb hby d4_16) hr
  · show Q_rmF Z f0 h0 n0 _ T1.heap _
    rw [e1]
    exact ⟨rfl, N0, rfl⟩
theorem ef_1 (m : MethodId) (x0 : UInt64) : entryFrame m #[(.double x0)] 2 = mkF m 0 #[vd x0, us] [] := by first | (simp [entryFrame, mkF, argsToLocals, Value.category]; done) | rfl
theorem pn_1 : plainName "org/quarrel/model/Distribution" = true := by first | (simp [plainName, overriddenIn]; done) | decide +kernel
theorem d3_0 : decode prog_15_method_6_code 0 = .ok (.dload_n 0, 1) := by decide +kernel
theorem d3_1 : decode prog_15_method_6_code 1 = .ok (.dconst 0, 1) := by decide +kernel
theorem d3_2 : decode prog_15_method_6_code 2 = .ok (.dcmp .l, 1) := by decide +kernel
theorem d3_3 : decode prog_15_method_6_code 3 = .ok (.ifCond .lt 10, 3) := by decide +kernel
theorem d3_6 : decode prog_15_method_6_code 6 = .ok (.dload_n 0, 1) := by decide +kernel
theorem d3_7 : decode prog_15_method_6_code 7 = .ok (.invokestatic 51, 3) := by decide +kernel
theorem pd_1 : parseMethodDescriptor "(D)Z" = some ⟨[.double], some .boolean⟩ := by decide +kernel
theorem d3_10 : decode prog_15_method_6_code 10 = .ok (.ifCond .ne 17, 3) := by decide +kernel
theorem d3_27 : decode prog_15_method_6_code 27 = .ok (.return_, 1) := by decide +kernel
def Q_rmR (Z : State) (f0 : UInt64) (h0 : Heap) (n0 : Nat) (v : Option Value) (h : Heap) (L : List Loc) : Prop := (v = none ∧ Fr n0 L ∧ h = h0)
set_option maxRecDepth 65536 in
set_option maxHeartbeats 40000000 in
theorem rmR (l : Launch) (Z : State) (a0 : Array Value) (hw : ∀ d ∈ tables_1, d.before a0 Z = true) (ws : List Jvm.Cond) (f0 : UInt64) (h0 : Heap) (n0 : Nat) (Z0 : n0 ≤ h0.size) (uF : Jvm.Free.Fl.Fin64 f0) (uN : ¬ ((cmpValue (FP.dcmp f0 (0 : UInt64)) .l) < (0 : Int32))) :
    MetFree l (⟨"org/quarrel/model/Distribution", "requireProbability", "(D)V"⟩ : MethodName) (head1 (Jvm.Cond.code (⟨"org/quarrel/model/Distribution", "requireProbability", "(D)V"⟩ : MethodName) prog_15_method_6_code 2 none :: ws) ({ frames := 2, cells := 0, slots := 0, locals := 26 } : Room)) (fun a U => a = #[(.double f0)] ∧ Z.Warmed39 U.vm ∧ U.heap = h0) (fun _ _ _ _ _ => True) (fun _ U o U' => ∃ v L, o = .returned v ∧ Q_rmR Z f0 h0 n0 v U'.heap L ∧ FrameEnd U o U' L ({ frames := 2, cells := 0, slots := 0, locals := 26 } : Room).cells ({ frames := 2, cells := 0, slots := 0, locals := 26 } : Room).slots) := by
  refine MetFree.of_bodySF (plainFor_of_name pn_1) hisR ?_
  intro p e s m args below meth c s₁ Bd hml0 hP hK
  obtain ⟨rfl, hZ, hh⟩ := hP
  have hx := Bd.exec
  have hby := Bd.bytes
  have hml : c.maxLocals = 2 := hml0
  have hown : s.vm.findClass "org/quarrel/model/Distribution" = some m.cls := findClass_of_methodNamed Bd.named
  have hnm := (name_of_methodNamed Bd.named Bd.method).1
  have X0 : Stand p l e ({ frames := 2, cells := 0, slots := 0, locals := 26 } : Room) s m #[(.double f0)] below meth c s₁ [] 0 0 := Stand.of_body Bd
  have e0 : s₁.heap = h0 := by rw [← hh, Bd.state]; rfl
  have N0 := Fr.nil n0
  have pre0 : ∀ t, Steps p.tables e below (s₁.setTop (mkF m 0 #[vd f0, us] [])) t → Steps p.tables e below (s₁.setTop (entryFrame m #[(.double f0)] 2)) t := fun t k => castTop (ef_1 m f0) k
  obtain ⟨_, _, ⟨T1, L1, k1, n1⟩, -, X1, ⟨Lc1, hQ1, l1, y1, z1⟩, st1⟩ := Jvm.LawKit.callS X0 hx (y := (⟨"java/lang/Double", "isFinite", "(D)Z"⟩ : MethodName)) hown (mvT hZ (wd hw 13 rfl)) (mvT hZ (wd hw 14 rfl)) (mvT hZ (wd hw 15 rfl)) (mvT hZ (wd hw 16 rfl)) (by decide) (backOf (W := 0) (rmF l Z a0 hw [] f0 h0 n0 Z0 uF) hZ (wd hw 16 rfl) (wd hw 15 rfl) (by decide) (by decide)) (g := (mkF m 7 #[vd f0, us] [(.double f0)])) rfl (by rw [hml]; rfl) (argsL := [(.double f0)]) (rest := []) (lenOf pd_1 rfl) rfl (by show 2 * 0 + _ ≤ _; exact Nat.le_of_eq rfl) (hb hby d3_7) (fun _ _ => ⟨rfl, e0, (by decide : 0 + 0 ≤ _), (by decide : 0 + 0 ≤ _)⟩)
  dsimp only [Pt.U, Pt.locs, Pt.cells, Pt.slots] at X1 l1 y1 z1 st1 hQ1
  subst l1 y1 z1
  obtain ⟨rfl, Nq1, eh1⟩ := hQ1
  have N1 := Fr.app N0 Nq1
  obtain ⟨fs, hr, hrun, hended, hW, hsame⟩ := X1.leave (v := none) (fun _ => rfl)
  refine ⟨_, _, pre0 _ ?_, hrun, hended, _, _, rfl, ?_, ⟨_, rfl⟩, hW, hsame.mono (by decide) (by decide)⟩
  · show SS p e below s₁ (mkF m 0 #[vd f0, us] []) _
    refine XS.dloadN X0.here hx rfl (hb hby d3_0) rfl ?_
    show SS p e below s₁ (mkF m 1 #[vd f0, us] [(.double f0)]) _
    refine XS.dconst0 X0.here hx rfl (hb hby d3_1) (v := (0 : UInt64)) (by decide) ?_
    show SS p e below s₁ (mkF m 2 #[vd f0, us] [(.double (0 : UInt64)), (.double f0)]) _
    refine XS.dcmpS X0.here hx rfl (hb hby d3_2) rfl (v := (cmpValue (FP.dcmp f0 (0 : UInt64)) .l)) rfl ?_
    show SS p e below s₁ (mkF m 3 #[vd f0, us] [(.int (cmpValue (FP.dcmp f0 (0 : UInt64)) .l))]) _
    refine XS.ifNo X0.here hx rfl (hb hby d3_3) rfl ((if0 _ _).trans (flt (uN : ¬ ((cmpValue (FP.dcmp f0 (0 : UInt64)) .l) < (0 : Int32)))).1) ?_
    show SS p e below s₁ (mkF m 6 #[vd f0, us] []) _
    refine XS.dloadN X0.here hx rfl (hb hby d3_6) rfl ?_
    show SS p e below s₁ (mkF m 7 #[vd f0, us] [(.double f0)]) _
    refine st1 _ ?_
    show SS p e below T1 (mkF m 10 #[vd f0, us] [(.int (1 : Int32))]) _
    refine XS.ifYes X1.here hx rfl (pc0 := 10) (pc' := 27) rfl (hb hby d3_10) rfl ((if0 _ _).trans (feq (by decide : ¬ ((1 : Int32) = (0 : Int32)))).2) (by decide) (by decide) ?_
    show SS p e below T1 (mkF m 27 #[vd f0, us] []) _
    exact X1.returnOut hx Bd.returns (hb hby d3_27) hr
  · show Q_rmR Z f0 h0 n0 _ T1.heap _
    rw [eh1]
    exact ⟨rfl, N1, rfl⟩
theorem ef_2 (m : MethodId) (x0 : Addr) (x1 : Addr) (x2 : UInt64) : entryFrame m #[(.ref x0), (.ref x1), (.double x2)] 9 = mkF m 0 #[vr x0, vr x1, vd x2, us, uu, uu, uu, uu, uu] [] := by first | (simp [entryFrame, mkF, argsToLocals, Value.category]; done) | rfl
theorem d1_0 : decode prog_15_method_2_code 0 = .ok (.aload_n 0, 1) := by decide +kernel
theorem d1_1 : decode prog_15_method_2_code 1 = .ok (.invokespecial 7, 3) := by decide +kernel
theorem d1_4 : decode prog_15_method_2_code 4 = .ok (.aload_n 1, 1) := by decide +kernel
theorem d1_5 : decode prog_15_method_2_code 5 = .ok (.astore 4, 2) := by decide +kernel
theorem d1_7 : decode prog_15_method_2_code 7 = .ok (.aload 4, 2) := by decide +kernel
theorem d1_9 : decode prog_15_method_2_code 9 = .ok (.arraylength, 1) := by decide +kernel
theorem d1_10 : decode prog_15_method_2_code 10 = .ok (.istore 5, 2) := by decide +kernel
theorem d1_12 : decode prog_15_method_2_code 12 = .ok (.iconst 0, 1) := by decide +kernel
theorem d1_13 : decode prog_15_method_2_code 13 = .ok (.istore 6, 2) := by decide +kernel
theorem d1_15 : decode prog_15_method_2_code 15 = .ok (.iload 6, 2) := by decide +kernel
theorem d1_17 : decode prog_15_method_2_code 17 = .ok (.iload 5, 2) := by decide +kernel
theorem d1_19 : decode prog_15_method_2_code 19 = .ok (.if_icmp .ge 21, 3) := by decide +kernel
theorem d1_22 : decode prog_15_method_2_code 22 = .ok (.aload 4, 2) := by decide +kernel
theorem d1_24 : decode prog_15_method_2_code 24 = .ok (.iload 6, 2) := by decide +kernel
theorem d1_26 : decode prog_15_method_2_code 26 = .ok (.daload, 1) := by decide +kernel
theorem d1_27 : decode prog_15_method_2_code 27 = .ok (.dstore 7, 2) := by decide +kernel
theorem d1_29 : decode prog_15_method_2_code 29 = .ok (.dload 7, 2) := by decide +kernel
theorem d1_31 : decode prog_15_method_2_code 31 = .ok (.invokestatic 12, 3) := by decide +kernel
theorem pd_2 : parseMethodDescriptor "(D)V" = some ⟨[.double], none⟩ := by decide +kernel
theorem d1_34 : decode prog_15_method_2_code 34 = .ok (.iinc 6 1, 3) := by decide +kernel
theorem d1_37 : decode prog_15_method_2_code 37 = .ok (.goto (-22), 3) := by decide +kernel
theorem d1_40 : decode prog_15_method_2_code 40 = .ok (.aload_n 0, 1) := by decide +kernel
theorem d1_41 : decode prog_15_method_2_code 41 = .ok (.aload_n 1, 1) := by decide +kernel
theorem d1_42 : decode prog_15_method_2_code 42 = .ok (.invokevirtual 16, 3) := by decide +kernel
theorem d1_45 : decode prog_15_method_2_code 45 = .ok (.checkcast 17, 3) := by decide +kernel
theorem d1_48 : decode prog_15_method_2_code 48 = .ok (.putfield 22, 3) := by decide +kernel
theorem d1_51 : decode prog_15_method_2_code 51 = .ok (.aload_n 0, 1) := by decide +kernel
theorem d1_52 : decode prog_15_method_2_code 52 = .ok (.dload_n 2, 1) := by decide +kernel
theorem d1_53 : decode prog_15_method_2_code 53 = .ok (.putfield 25, 3) := by decide +kernel
theorem d1_56 : decode prog_15_method_2_code 56 = .ok (.return_, 1) := by decide +kernel
def Q_rmI (Z : State) (r0 : Addr) (r1 : Addr) (f2 : UInt64) (kb : ClassId) (v0 : Int32) (v1 : Int32) (v2 : Int32) (h0 : Heap) (n0 : Nat) (v : Option Value) (h : Heap) (L : List Loc) : Prop := ∃ (nb : Addr), (v = none ∧ Fr n0 L ∧ Keep h0 h [r0] ∧ Exa Z h r0 "org/quarrel/model/Distribution" ∧ Fld Z h r0 "org/quarrel/model/Distribution" "weights" "[D" (.ref nb) ∧ Fld Z h r0 "org/quarrel/model/Distribution" "total" "D" (.double f2) ∧ h0.size ≤ nb ∧ Arv Z h nb kb .double (3 : Int32) [(.double (FP.i2d v0)), (.double (FP.i2d v1)), (.double (FP.i2d v2))] (.double 0))
set_option maxRecDepth 65536 in
set_option maxHeartbeats 40000000 in
theorem rmI (l : Launch) (Z : State) (a0 : Array Value) (hw : ∀ d ∈ tables_1, d.before a0 Z = true) (ws : List Jvm.Cond) (r0 : Addr) (r1 : Addr) (f2 : UInt64) (kb : ClassId) (v0 : Int32) (v1 : Int32) (v2 : Int32) (h0 : Heap) (n0 : Nat) (Z0 : n0 ≤ h0.size) (uE : Exa Z h0 r0 "org/quarrel/model/Distribution") (uw : Fld Z h0 r0 "org/quarrel/model/Distribution" "weights" "[D" .null) (uo : Fld Z h0 r0 "org/quarrel/model/Distribution" "total" "D" (.double 0)) (ug : n0 ≤ r0) (uEb : Exa Z h0 r1 "[D") (uV : Arv Z h0 r1 kb .double (3 : Int32) [(.double (FP.i2d v0)), (.double (FP.i2d v1)), (.double (FP.i2d v2))] (.double 0)) (uz_v0 : 0 ≤ v0.toInt) (uz_v1 : 0 ≤ v1.toInt) (uz_v2 : 0 ≤ v2.toInt) :
    MetFree l (⟨"org/quarrel/model/Distribution", "<init>", "([DD)V"⟩ : MethodName) (head1 (Jvm.Cond.code (⟨"org/quarrel/model/Distribution", "<init>", "([DD)V"⟩ : MethodName) prog_15_method_2_code 9 none :: ws) ({ frames := 3, cells := 1, slots := 3, locals := 39 } : Room)) (fun a U => a = #[(.ref r0), (.ref r1), (.double f2)] ∧ Z.Warmed39 U.vm ∧ U.heap = h0) (fun _ _ _ _ _ => True) (fun _ U o U' => ∃ v L, o = .returned v ∧ Q_rmI Z r0 r1 f2 kb v0 v1 v2 h0 n0 v U'.heap L ∧ FrameEnd U o U' L ({ frames := 3, cells := 1, slots := 3, locals := 39 } : Room).cells ({ frames := 3, cells := 1, slots := 3, locals := 39 } : Room).slots) := by
  refine MetFree.of_bodySF (plainFor_of_name pn_1) hisR ?_
  intro p e s m args below meth c s₁ Bd hml0 hP hK
  obtain ⟨rfl, hZ, hh⟩ := hP
  have hx := Bd.exec
  have hby := Bd.bytes
  have hml : c.maxLocals = 9 := hml0
  have hown : s.vm.findClass "org/quarrel/model/Distribution" = some m.cls := findClass_of_methodNamed Bd.named
  have hnm := (name_of_methodNamed Bd.named Bd.method).1
  have X0 : Stand p l e ({ frames := 3, cells := 1, slots := 3, locals := 39 } : Room) s m #[(.ref r0), (.ref r1), (.double f2)] below meth c s₁ [] 0 0 := Stand.of_body Bd
  have e0 : s₁.heap = h0 := by rw [← hh, Bd.state]; rfl
  have N0 := Fr.nil n0
  have pre0 : ∀ t, Steps p.tables e below (s₁.setTop (mkF m 0 #[vr r0, vr r1, vd f2, us, uu, uu, uu, uu, uu] [])) t → Steps p.tables e below (s₁.setTop (entryFrame m #[(.ref r0), (.ref r1), (.double f2)] 9)) t := fun t k => castTop (ef_2 m r0 r1 f2) k
  obtain ⟨T1, X1, e1, st1⟩ := initO X0 hx hZ hown (wd hw 7 rfl) (wd hw 8 rfl) (wd hw 9 rfl) e0 (g := (mkF m 1 #[vr r0, vr r1, vd f2, us, uu, uu, uu, uu, uu] [(.ref r0)])) rfl (by rw [hml]; rfl) rfl (hb hby d1_1) (by decide) (W := 0) (by show 2 * 0 + _ ≤ _; exact Nat.le_of_eq rfl) (by decide)
  obtain ⟨cl2, Ar2, q2, S2, Nn2, H2, G2⟩ := (id uV)
  obtain ⟨cl3, Ar3, q3, S3, Nn3, H3, G3⟩ := (id uV)
  have hin3 : ¬ ((0 : Int32) < 0 ∨ cl3.slots.size ≤ ((0 : Int32)).toNatClampNeg) := inb_of S3 ⟨by decide, by decide⟩
  have hat3 : cl3.slots[((0 : Int32)).toNatClampNeg]? = some (.double (FP.i2d v0)) := H3.at hin3 rfl
  obtain ⟨_, _, ⟨T4, L4, k4, n4⟩, -, X4, ⟨Lc4, hQ4, l4, y4, z4⟩, st4⟩ := Jvm.LawKit.callS X1 hx (y := (⟨"org/quarrel/model/Distribution", "requireProbability", "(D)V"⟩ : MethodName)) hown (mvT hZ (wd hw 10 rfl)) (mvT hZ (wd hw 11 rfl)) (mvT hZ (wd hw 3 rfl)) (mvT hZ (wd hw 12 rfl)) (by decide) (backOf (W := 0) (rmR l Z a0 hw [] (FP.i2d v0) h0 n0 Z0 (own_fin _) (own_nn uz_v0)) hZ (wd hw 12 rfl) (wd hw 3 rfl) (by decide) (by decide)) (g := (mkF m 31 #[vr r0, vr r1, vd f2, us, vr r1, vi (3 : Int32), vi (0 : Int32), vd (FP.i2d v0), us] [(.double (FP.i2d v0))])) rfl (by rw [hml]; rfl) (argsL := [(.double (FP.i2d v0))]) (rest := []) (lenOf pd_2 rfl) rfl (by show 2 * 0 + _ ≤ _; exact Nat.le_of_eq rfl) (hb hby d1_31) (fun _ _ => ⟨rfl, e1, (by decide : 0 + 0 ≤ _), (by decide : 0 + 0 ≤ _)⟩)
  dsimp only [Pt.U, Pt.locs, Pt.cells, Pt.slots] at X4 l4 y4 z4 st4 hQ4
  subst l4 y4 z4
  obtain ⟨rfl, Nq4, eh4⟩ := hQ4
  have N4 := Fr.app N0 Nq4
  obtain ⟨cl5, Ar5, q5, S5, Nn5, H5, G5⟩ := (id uV)
  have hin5 : ¬ ((1 : Int32) < 0 ∨ cl5.slots.size ≤ ((1 : Int32)).toNatClampNeg) := inb_of S5 ⟨by decide, by decide⟩
  have hat5 : cl5.slots[((1 : Int32)).toNatClampNeg]? = some (.double (FP.i2d v1)) := H5.at hin5 rfl
  obtain ⟨_, _, ⟨T6, L6, k6, n6⟩, -, X6, ⟨Lc6, hQ6, l6, y6, z6⟩, st6⟩ := Jvm.LawKit.callS X4 hx (y := (⟨"org/quarrel/model/Distribution", "requireProbability", "(D)V"⟩ : MethodName)) hown (mvT hZ (wd hw 10 rfl)) (mvT hZ (wd hw 11 rfl)) (mvT hZ (wd hw 3 rfl)) (mvT hZ (wd hw 12 rfl)) (by decide) (backOf (W := 0) (rmR l Z a0 hw [] (FP.i2d v1) h0 n0 Z0 (own_fin _) (own_nn uz_v1)) hZ (wd hw 12 rfl) (wd hw 3 rfl) (by decide) (by decide)) (g := (mkF m 31 #[vr r0, vr r1, vd f2, us, vr r1, vi (3 : Int32), vi (1 : Int32), vd (FP.i2d v1), us] [(.double (FP.i2d v1))])) rfl (by rw [hml]; rfl) (argsL := [(.double (FP.i2d v1))]) (rest := []) (lenOf pd_2 rfl) rfl (by show 2 * 0 + _ ≤ _; exact Nat.le_of_eq rfl) (hb hby d1_31) (fun _ _ => ⟨rfl, eh4, (by decide : 0 + 0 ≤ _), (by decide : 0 + 0 ≤ _)⟩)
  dsimp only [Pt.U, Pt.locs, Pt.cells, Pt.slots] at X6 l6 y6 z6 st6 hQ6
  subst l6 y6 z6
  obtain ⟨rfl, Nq6, eh6⟩ := hQ6
  have N6 := Fr.app N4 Nq6
  obtain ⟨cl7, Ar7, q7, S7, Nn7, H7, G7⟩ := (id uV)
  have hin7 : ¬ ((2 : Int32) < 0 ∨ cl7.slots.size ≤ ((2 : Int32)).toNatClampNeg) := inb_of S7 ⟨by decide, by decide⟩
  have hat7 : cl7.slots[((2 : Int32)).toNatClampNeg]? = some (.double (FP.i2d v2)) := H7.at hin7 rfl
  obtain ⟨_, _, ⟨T8, L8, k8, n8⟩, -, X8, ⟨Lc8, hQ8, l8, y8, z8⟩, st8⟩ := Jvm.LawKit.callS X6 hx (y := (⟨"org/quarrel/model/Distribution", "requireProbability", "(D)V"⟩ : MethodName)) hown (mvT hZ (wd hw 10 rfl)) (mvT hZ (wd hw 11 rfl)) (mvT hZ (wd hw 3 rfl)) (mvT hZ (wd hw 12 rfl)) (by decide) (backOf (W := 0) (rmR l Z a0 hw [] (FP.i2d v2) h0 n0 Z0 (own_fin _) (own_nn uz_v2)) hZ (wd hw 12 rfl) (wd hw 3 rfl) (by decide) (by decide)) (g := (mkF m 31 #[vr r0, vr r1, vd f2, us, vr r1, vi (3 : Int32), vi (2 : Int32), vd (FP.i2d v2), us] [(.double (FP.i2d v2))])) rfl (by rw [hml]; rfl) (argsL := [(.double (FP.i2d v2))]) (rest := []) (lenOf pd_2 rfl) rfl (by show 2 * 0 + _ ≤ _; exact Nat.le_of_eq rfl) (hb hby d1_31) (fun _ _ => ⟨rfl, eh6, (by decide : 0 + 0 ≤ _), (by decide : 0 + 0 ≤ _)⟩)
  dsimp only [Pt.U, Pt.locs, Pt.cells, Pt.slots] at X8 l8 y8 z8 st8 hQ8
  subst l8 y8 z8
  obtain ⟨rfl, Nq8, eh8⟩ := hQ8
  have N8 := Fr.app N6 Nq8
  obtain ⟨T9, h9, X9, e9, E9, V9, A9, st9⟩ := cloneH X8 hx hZ hown (wd hw 22 rfl) (wd hw 23 rfl) (wd hw 27 rfl) (wd hw 25 rfl) (wd hw 26 rfl) (wd hw 28 rfl) eh8 (Arv.arh uV) uEb (g := (mkF m 42 #[vr r0, vr r1, vd f2, us, vr r1, vi (3 : Int32), vi (3 : Int32), vd (FP.i2d v2), us] [(.ref r1), (.ref r0)])) rfl (by rw [hml]; rfl) rfl (hb hby d1_42) (by decide) (W := 1) (cap := 3) (by show 2 * 0 + _ ≤ _; exact Nat.le_of_eq rfl) (by decide) (by decide) (by decide) (by decide)
  obtain ⟨b9, g9⟩ : ∃ z, z = h0.size := ⟨_, rfl⟩
  rw [← g9] at V9 A9 st9
  have ne_r0_b9 : r0 ≠ b9 := Nat.ne_of_lt (Nat.lt_of_lt_of_le uE.lt (Nat.le_of_eq g9.symm))
  have ne_r1_b9 : r1 ≠ b9 := Nat.ne_of_lt (Nat.lt_of_lt_of_le uEb.lt (Nat.le_of_eq g9.symm))
  have Va9 : Arv Z h9 b9 kb .double (3 : Int32) [(.double (FP.i2d v0)), (.double (FP.i2d v1)), (.double (FP.i2d v2))] (.double 0) := V9
  have g_b9 : n0 ≤ b9 := Nat.le_trans Z0 (Nat.le_of_eq g9.symm)
  have sz_b9 : h0.size ≤ b9 := Nat.le_trans (Keep.refl h0 [r0]).1 (Nat.le_of_eq g9.symm)
  have K9 : Keep h0 h9 [r0] := (Keep.refl h0 [r0]).ext E9
  have Z9 : n0 ≤ h9.size := Nat.le_trans Z0 E9.1
  obtain ⟨T10, X10, e10, st10⟩ := castY X9 hx hZ hown (wd hw 29 rfl) e9 (Ins.self A9) (g := (mkF m 45 #[vr r0, vr r1, vd f2, us, vr r1, vi (3 : Int32), vi (3 : Int32), vd (FP.i2d v2), us] [(.ref b9), (.ref r0)])) rfl rfl (hb hby d1_45)
  have c12 := (uE.ext E9)
  have c13 := (uw.ext E9)
  obtain ⟨T11, h11, X11, e11, W11, st11⟩ := putF X10 hx hZ hown (host := "") (Or.inl (wd hw 31 rfl)) Via.refl e10 c13 c12 (Or.inr ⟨(wd hw 32 rfl), rfl, hnm⟩) (wd hw 2 rfl) (ty := (.array .double)) (by decide) rfl rfl (g := (mkF m 48 #[vr r0, vr r1, vd f2, us, vr r1, vi (3 : Int32), vi (3 : Int32), vd (FP.i2d v2), us] [(.ref b9), (.ref r0)])) rfl rfl (hb hby d1_48)
  have Fw11 := c13.same W11
  have N11 := Fr.snoc X11 N8 ug
  have K11 : Keep h0 h11 [r0] := K9.wr W11 (Or.inl (List.mem_of_getElem? (i := 0) rfl))
  have Z11 : n0 ≤ h11.size := by rw [W11.size]; exact Z9
  have c15 := (c12.wr W11)
  have c16 := ((uo.ext E9).other W11 (Or.inr (slot_ne (Or.inr (wd hw 34 rfl)) (Or.inr (wd hw 32 rfl)) (by decide) (t := .double) (t' := (.array .double)) (by decide) (by decide))))
  obtain ⟨T14, h14, X14, e14, W14, st14⟩ := putF X11 hx hZ hown (host := "") (Or.inl (wd hw 33 rfl)) Via.refl e11 c16 c15 (Or.inr ⟨(wd hw 34 rfl), rfl, hnm⟩) (wd hw 2 rfl) (ty := .double) (by decide) rfl rfl (g := (mkF m 53 #[vr r0, vr r1, vd f2, us, vr r1, vi (3 : Int32), vi (3 : Int32), vd (FP.i2d v2), us] [(.double f2), (.ref r0)])) rfl rfl (hb hby d1_53)
  have Fw14 := c16.same W14
  have N14 := Fr.snoc X14 N11 ug
  have K14 : Keep h0 h14 [r0] := K11.wr W14 (Or.inl (List.mem_of_getElem? (i := 0) rfl))
  have Z14 : n0 ≤ h14.size := by rw [W14.size]; exact Z11
  have c17 := (c15.wr W14)
  have c18 := (Fw11.other W14 (Or.inr (slot_ne (Or.inr (wd hw 32 rfl)) (Or.inr (wd hw 34 rfl)) (by decide) (t := (.array .double)) (t' := .double) (by decide) (by decide))))
  have c19 := ((Va9.other W11 (Ne.symm ne_r0_b9)).other W14 (Ne.symm ne_r0_b9))
  obtain ⟨fs, hr, hrun, hended, hW, hsame⟩ := X14.leave (v := none) (fun _ => rfl)
  refine ⟨_, _, pre0 _ ?_, hrun, hended, _, _, rfl, ?_, ⟨_, rfl⟩, hW, hsame.mono (by decide) (by decide)⟩
  · show SS p e below s₁ (mkF m 0 #[vr r0, vr r1, vd f2, us, uu, uu, uu, uu, uu] []) _
    refine XS.aloadN X0.here hx rfl (hb hby d1_0) rfl rfl ?_
    show SS p e below s₁ (mkF m 1 #[vr r0, vr r1, vd f2, us, uu, uu, uu, uu, uu] [(.ref r0)]) _
    refine st1 _ ?_
    show SS p e below T1 (mkF m 4 #[vr r0, vr r1, vd f2, us, uu, uu, uu, uu, uu] []) _
    refine XS.aloadN X1.here hx rfl (hb hby d1_4) rfl rfl ?_
    show SS p e below T1 (mkF m 5 #[vr r0, vr r1, vd f2, us, uu, uu, uu, uu, uu] [(.ref r1)]) _
    refine XS.astore X1.here hx rfl (hb hby d1_5) rfl rfl (l' := #[vr r0, vr r1, vd f2, us, vr r1, uu, uu, uu, uu]) rfl ?_
    show SS p e below T1 (mkF m 7 #[vr r0, vr r1, vd f2, us, vr r1, uu, uu, uu, uu] []) _
    refine XS.aload X1.here hx rfl (hb hby d1_7) rfl rfl ?_
    show SS p e below T1 (mkF m 9 #[vr r0, vr r1, vd f2, us, vr r1, uu, uu, uu, uu] [(.ref r1)]) _
    refine X1.arraylength hx (own_at e1 Ar2.1) (State.isArrayOf_alike hZ.alike Ar2.2.1) (g := (mkF m 9 #[vr r0, vr r1, vd f2, us, vr r1, uu, uu, uu, uu] [(.ref r1)])) rfl rfl (hb hby d1_9) _ ?_
    rw [len_of S2 Nn2]
    show SS p e below T1 (mkF m 10 #[vr r0, vr r1, vd f2, us, vr r1, uu, uu, uu, uu] [(.int (3 : Int32))]) _
    refine XS.istore X1.here hx rfl (hb hby d1_10) rfl (l' := #[vr r0, vr r1, vd f2, us, vr r1, vi (3 : Int32), uu, uu, uu]) rfl ?_
    show SS p e below T1 (mkF m 12 #[vr r0, vr r1, vd f2, us, vr r1, vi (3 : Int32), uu, uu, uu] []) _
    refine XS.iconst X1.here hx rfl (hb hby d1_12) ?_
    show SS p e below T1 (mkF m 13 #[vr r0, vr r1, vd f2, us, vr r1, vi (3 : Int32), uu, uu, uu] [(.int (0 : Int32))]) _
    refine XS.istore X1.here hx rfl (hb hby d1_13) rfl (l' := #[vr r0, vr r1, vd f2, us, vr r1, vi (3 : Int32), vi (0 : Int32), uu, uu]) rfl ?_
    show SS p e below T1 (mkF m 15 #[vr r0, vr r1, vd f2, us, vr r1, vi (3 : Int32), vi (0 : Int32), uu, uu] []) _
    refine XS.iload X1.here hx rfl (hb hby d1_15) rfl ?_
    show SS p e below T1 (mkF m 17 #[vr r0, vr r1, vd f2, us, vr r1, vi (3 : Int32), vi (0 : Int32), uu, uu] [(.int (0 : Int32))]) _
    refine XS.iload X1.here hx rfl (hb hby d1_17) rfl ?_
    show SS p e below T1 (mkF m 19 #[vr r0, vr r1, vd f2, us, vr r1, vi (3 : Int32), vi (0 : Int32), uu, uu] [(.int (3 : Int32)), (.int (0 : Int32))]) _
    refine XS.icmpNo X1.here hx rfl (hb hby d1_19) rfl (tlt (by decide : (0 : Int32) < (3 : Int32))).2.1 ?_
    show SS p e below T1 (mkF m 22 #[vr r0, vr r1, vd f2, us, vr r1, vi (3 : Int32), vi (0 : Int32), uu, uu] []) _
    refine XS.aload X1.here hx rfl (hb hby d1_22) rfl rfl ?_
    show SS p e below T1 (mkF m 24 #[vr r0, vr r1, vd f2, us, vr r1, vi (3 : Int32), vi (0 : Int32), uu, uu] [(.ref r1)]) _
    refine XS.iload X1.here hx rfl (hb hby d1_24) rfl ?_
    show SS p e below T1 (mkF m 26 #[vr r0, vr r1, vd f2, us, vr r1, vi (3 : Int32), vi (0 : Int32), uu, uu] [(.int (0 : Int32)), (.ref r1)]) _
    refine X1.daload hx (j := (0 : Int32)) (v := (.double (FP.i2d v0))) (own_at e1 Ar3.1) (State.isArrayOf_alike hZ.alike Ar3.2.1) Ar3.2.2 hin3 hat3 (g := (mkF m 26 #[vr r0, vr r1, vd f2, us, vr r1, vi (3 : Int32), vi (0 : Int32), uu, uu] [(.int (0 : Int32)), (.ref r1)])) rfl rfl (hb hby d1_26) _ ?_
    show SS p e below T1 (mkF m 27 #[vr r0, vr r1, vd f2, us, vr r1, vi (3 : Int32), vi (0 : Int32), uu, uu] [(.double (FP.i2d v0))]) _
    refine XS.dstore X1.here hx rfl (hb hby d1_27) rfl (l' := #[vr r0, vr r1, vd f2, us, vr r1, vi (3 : Int32), vi (0 : Int32), vd (FP.i2d v0), us]) rfl ?_
    show SS p e below T1 (mkF m 29 #[vr r0, vr r1, vd f2, us, vr r1, vi (3 : Int32), vi (0 : Int32), vd (FP.i2d v0), us] []) _
    refine XS.dload X1.here hx rfl (hb hby d1_29) rfl ?_
    show SS p e below T1 (mkF m 31 #[vr r0, vr r1, vd f2, us, vr r1, vi (3 : Int32), vi (0 : Int32), vd (FP.i2d v0), us] [(.double (FP.i2d v0))]) _
    refine st4 _ ?_
    show SS p e below T4 (mkF m 34 #[vr r0, vr r1, vd f2, us, vr r1, vi (3 : Int32), vi (0 : Int32), vd (FP.i2d v0), us] []) _
    refine XS.iinc X4.here hx rfl (hb hby d1_34) rfl (l' := #[vr r0, vr r1, vd f2, us, vr r1, vi (3 : Int32), vi ((0 : Int32) + (1 : Int32)), vd (FP.i2d v0), us]) rfl ?_
    show SS p e below T4 (mkF m 37 #[vr r0, vr r1, vd f2, us, vr r1, vi (3 : Int32), vi ((0 : Int32) + (1 : Int32)), vd (FP.i2d v0), us] []) _
    rw [(by decide : ((0 : Int32) + (1 : Int32)) = (1 : Int32))]
    show SS p e below T4 (mkF m 37 #[vr r0, vr r1, vd f2, us, vr r1, vi (3 : Int32), vi (1 : Int32), vd (FP.i2d v0), us] []) _
    refine XS.goto X4.here hx rfl (pc0 := 37) (pc' := 15) rfl (hb hby d1_37) (by decide) (by decide) ?_
    show SS p e below T4 (mkF m 15 #[vr r0, vr r1, vd f2, us, vr r1, vi (3 : Int32), vi (1 : Int32), vd (FP.i2d v0), us] []) _
    refine XS.iload X4.here hx rfl (hb hby d1_15) rfl ?_
    show SS p e below T4 (mkF m 17 #[vr r0, vr r1, vd f2, us, vr r1, vi (3 : Int32), vi (1 : Int32), vd (FP.i2d v0), us] [(.int (1 : Int32))]) _
    refine XS.iload X4.here hx rfl (hb hby d1_17) rfl ?_
    show SS p e below T4 (mkF m 19 #[vr r0, vr r1, vd f2, us, vr r1, vi (3 : Int32), vi (1 : Int32), vd (FP.i2d v0), us] [(.int (3 : Int32)), (.int (1 : Int32))]) _
    refine XS.icmpNo X4.here hx rfl (hb hby d1_19) rfl (tlt (by decide : (1 : Int32) < (3 : Int32))).2.1 ?_
    show SS p e below T4 (mkF m 22 #[vr r0, vr r1, vd f2, us, vr r1, vi (3 : Int32), vi (1 : Int32), vd (FP.i2d v0), us] []) _
    refine XS.aload X4.here hx rfl (hb hby d1_22) rfl rfl ?_
    show SS p e below T4 (mkF m 24 #[vr r0, vr r1, vd f2, us, vr r1, vi (3 : Int32), vi (1 : Int32), vd (FP.i2d v0), us] [(.ref r1)]) _
    refine XS.iload X4.here hx rfl (hb hby d1_24) rfl ?_
    show SS p e below T4 (mkF m 26 #[vr r0, vr r1, vd f2, us, vr r1, vi (3 : Int32), vi (1 : Int32), vd (FP.i2d v0), us] [(.int (1 : Int32)), (.ref r1)]) _
    refine X4.daload hx (j := (1 : Int32)) (v := (.double (FP.i2d v1))) (own_at eh4 Ar5.1) (State.isArrayOf_alike hZ.alike Ar5.2.1) Ar5.2.2 hin5 hat5 (g := (mkF m 26 #[vr r0, vr r1, vd f2, us, vr r1, vi (3 : Int32), vi (1 : Int32), vd (FP.i2d v0), us] [(.int (1 : Int32)), (.ref r1)])) rfl rfl (hb hby d1_26) _ ?_
    show SS p e below T4 (mkF m 27 #[vr r0, vr r1, vd f2, us, vr r1, vi (3 : Int32), vi (1 : Int32), vd (FP.i2d v0), us] [(.double (FP.i2d v1))]) _
    refine XS.dstore X4.here hx rfl (hb hby d1_27) rfl (l' := #[vr r0, vr r1, vd f2, us, vr r1, vi (3 : Int32), vi (1 : Int32), vd (FP.i2d v1), us]) rfl ?_
    show SS p e below T4 (mkF m 29 #[vr r0, vr r1, vd f2, us, vr r1, vi (3 : Int32), vi (1 : Int32), vd (FP.i2d v1), us] []) _
    refine XS.dload X4.here hx rfl (hb hby d1_29) rfl ?_
    show SS p e below T4 (mkF m 31 #[vr r0, vr r1, vd f2, us, vr r1, vi (3 : Int32), vi (1 : Int32), vd (FP.i2d v1), us] [(.double (FP.i2d v1))]) _
    refine st6 _ ?_
    show SS p e below T6 (mkF m 34 #[vr r0, vr r1, vd f2, us, vr r1, vi (3 : Int32), vi (1 : Int32), vd (FP.i2d v1), us] []) _
    refine XS.iinc X6.here hx rfl (hb hby d1_34) rfl (l' := #[vr r0, vr r1, vd f2, us, vr r1, vi (3 : Int32), vi ((1 : Int32) + (1 : Int32)), vd (FP.i2d v1), us]) rfl ?_
    show SS p e below T6 (mkF m 37 #[vr r0, vr r1, vd f2, us, vr r1, vi (3 : Int32), vi ((1 : Int32) + (1 : Int32)), vd (FP.i2d v1), us] []) _
    rw [(by decide : ((1 : Int32) + (1 : Int32)) = (2 : Int32))]
    show SS p e below T6 (mkF m 37 #[vr r0, vr r1, vd f2, us, vr r1, vi (3 : Int32), vi (2 : Int32), vd (FP.i2d v1), us] []) _
    refine XS.goto X6.here hx rfl (pc0 := 37) (pc' := 15) rfl (hb hby d1_37) (by decide) (by decide) ?_
    show SS p e below T6 (mkF m 15 #[vr r0, vr r1, vd f2, us, vr r1, vi (3 : Int32), vi (2 : Int32), vd (FP.i2d v1), us] []) _
    refine XS.iload X6.here hx rfl (hb hby d1_15) rfl ?_
    show SS p e below T6 (mkF m 17 #[vr r0, vr r1, vd f2, us, vr r1, vi (3 : Int32), vi (2 : Int32), vd (FP.i2d v1), us] [(.int (2 : Int32))]) _
    refine XS.iload X6.here hx rfl (hb hby d1_17) rfl ?_
    show SS p e below T6 (mkF m 19 #[vr r0, vr r1, vd f2, us, vr r1, vi (3 : Int32), vi (2 : Int32), vd (FP.i2d v1), us] [(.int (3 : Int32)), (.int (2 : Int32))]) _
    refine XS.icmpNo X6.here hx rfl (hb hby d1_19) rfl (tlt (by decide : (2 : Int32) < (3 : Int32))).2.1 ?_
    show SS p e below T6 (mkF m 22 #[vr r0, vr r1, vd f2, us, vr r1, vi (3 : Int32), vi (2 : Int32), vd (FP.i2d v1), us] []) _
    refine XS.aload X6.here hx rfl (hb hby d1_22) rfl rfl ?_
    show SS p e below T6 (mkF m 24 #[vr r0, vr r1, vd f2, us, vr r1, vi (3 : Int32), vi (2 : Int32), vd (FP.i2d v1), us] [(.ref r1)]) _
    refine XS.iload X6.here hx rfl (hb hby d1_24) rfl ?_
    show SS p e below T6 (mkF m 26 #[vr r0, vr r1, vd f2, us, vr r1, vi (3 : Int32), vi (2 : Int32), vd (FP.i2d v1), us] [(.int (2 : Int32)), (.ref r1)]) _
    refine X6.daload hx (j := (2 : Int32)) (v := (.double (FP.i2d v2))) (own_at eh6 Ar7.1) (State.isArrayOf_alike hZ.alike Ar7.2.1) Ar7.2.2 hin7 hat7 (g := (mkF m 26 #[vr r0, vr r1, vd f2, us, vr r1, vi (3 : Int32), vi (2 : Int32), vd (FP.i2d v1), us] [(.int (2 : Int32)), (.ref r1)])) rfl rfl (hb hby d1_26) _ ?_
    show SS p e below T6 (mkF m 27 #[vr r0, vr r1, vd f2, us, vr r1, vi (3 : Int32), vi (2 : Int32), vd (FP.i2d v1), us] [(.double (FP.i2d v2))]) _
    refine XS.dstore X6.here hx rfl (hb hby d1_27) rfl (l' := #[vr r0, vr r1, vd f2, us, vr r1, vi (3 : Int32), vi (2 : Int32), vd (FP.i2d v2), us]) rfl ?_
    show SS p e below T6 (mkF m 29 #[vr r0, vr r1, vd f2, us, vr r1, vi (3 : Int32), vi (2 : Int32), vd (FP.i2d v2), us] []) _
    refine XS.dload X6.here hx rfl (hb hby d1_29) rfl ?_
    show SS p e below T6 (mkF m 31 #[vr r0, vr r1, vd f2, us, vr r1, vi (3 : Int32), vi (2 : Int32), vd (FP.i2d v2), us] [(.double (FP.i2d v2))]) _
    refine st8 _ ?_
    show SS p e below T8 (mkF m 34 #[vr r0, vr r1, vd f2, us, vr r1, vi (3 : Int32), vi (2 : Int32), vd (FP.i2d v2), us] []) _
    refine XS.iinc X8.here hx rfl (hb hby d1_34) rfl (l' := #[vr r0, vr r1, vd f2, us, vr r1, vi (3 : Int32), vi ((2 : Int32) + (1 : Int32)), vd (FP.i2d v2), us]) rfl ?_
    show SS p e below T8 (mkF m 37 #[vr r0, vr r1, vd f2, us, vr r1, vi (3 : Int32), vi ((2 : Int32) + (1 : Int32)), vd (FP.i2d v2), us] []) _
    rw [(by decide : ((2 : Int32) + (1 : Int32)) = (3 : Int32))]
    show SS p e below T8 (mkF m 37 #[vr r0, vr r1, vd f2, us, vr r1, vi (3 : Int32), vi (3 : Int32), vd (FP.i2d v2), us] []) _
    refine XS.goto X8.here hx rfl (pc0 := 37) (pc' := 15) rfl (hb hby d1_37) (by decide) (by decide) ?_
    show SS p e below T8 (mkF m 15 #[vr r0, vr r1, vd f2, us, vr r1, vi (3 : Int32), vi (3 : Int32), vd (FP.i2d v2), us] []) _
    refine XS.iload X8.here hx rfl (hb hby d1_15) rfl ?_
    show SS p e below T8 (mkF m 17 #[vr r0, vr r1, vd f2, us, vr r1, vi (3 : Int32), vi (3 : Int32), vd (FP.i2d v2), us] [(.int (3 : Int32))]) _
    refine XS.iload X8.here hx rfl (hb hby d1_17) rfl ?_
    show SS p e below T8 (mkF m 19 #[vr r0, vr r1, vd f2, us, vr r1, vi (3 : Int32), vi (3 : Int32), vd (FP.i2d v2), us] [(.int (3 : Int32)), (.int (3 : Int32))]) _
    refine XS.icmpYes X8.here hx rfl (pc0 := 19) (pc' := 40) rfl (hb hby d1_19) rfl (flt (by decide : ¬ ((3 : Int32) < (3 : Int32)))).2.1 (by decide) (by decide) ?_
    show SS p e below T8 (mkF m 40 #[vr r0, vr r1, vd f2, us, vr r1, vi (3 : Int32), vi (3 : Int32), vd (FP.i2d v2), us] []) _
    refine XS.aloadN X8.here hx rfl (hb hby d1_40) rfl rfl ?_
    show SS p e below T8 (mkF m 41 #[vr r0, vr r1, vd f2, us, vr r1, vi (3 : Int32), vi (3 : Int32), vd (FP.i2d v2), us] [(.ref r0)]) _
    refine XS.aloadN X8.here hx rfl (hb hby d1_41) rfl rfl ?_
    show SS p e below T8 (mkF m 42 #[vr r0, vr r1, vd f2, us, vr r1, vi (3 : Int32), vi (3 : Int32), vd (FP.i2d v2), us] [(.ref r1), (.ref r0)]) _
    refine st9 _ ?_
    show SS p e below T9 (mkF m 45 #[vr r0, vr r1, vd f2, us, vr r1, vi (3 : Int32), vi (3 : Int32), vd (FP.i2d v2), us] [(.ref b9), (.ref r0)]) _
    refine st10 _ ?_
    show SS p e below T10 (mkF m 48 #[vr r0, vr r1, vd f2, us, vr r1, vi (3 : Int32), vi (3 : Int32), vd (FP.i2d v2), us] [(.ref b9), (.ref r0)]) _
    refine st11 _ ?_
    show SS p e below T11 (mkF m 51 #[vr r0, vr r1, vd f2, us, vr r1, vi (3 : Int32), vi (3 : Int32), vd (FP.i2d v2), us] []) _
    refine XS.aloadN X11.here hx rfl (hb hby d1_51) rfl rfl ?_
    show SS p e below T11 (mkF m 52 #[vr r0, vr r1, vd f2, us, vr r1, vi (3 : Int32), vi (3 : Int32), vd (FP.i2d v2), us] [(.ref r0)]) _
    refine XS.dloadN X11.here hx rfl (hb hby d1_52) rfl ?_
    show SS p e below T11 (mkF m 53 #[vr r0, vr r1, vd f2, us, vr r1, vi (3 : Int32), vi (3 : Int32), vd (FP.i2d v2), us] [(.double f2), (.ref r0)]) _
    refine st14 _ ?_
    show SS p e below T14 (mkF m 56 #[vr r0, vr r1, vd f2, us, vr r1, vi (3 : Int32), vi (3 : Int32), vd (FP.i2d v2), us] []) _
    exact X14.returnOut hx Bd.returns (hb hby d1_56) hr
  · show Q_rmI Z r0 r1 f2 kb v0 v1 v2 h0 n0 _ T14.heap _
    rw [e14]
    exact ⟨b9, rfl, N14, K14, c17, c18, Fw14, sz_b9, c19⟩
theorem ef_3 (m : MethodId) (x0 : Addr) : entryFrame m #[(.ref x0), (.int (0 : Int32))] 2 = mkF m 0 #[vr x0, vi (0 : Int32)] [] := by first | (simp [entryFrame, mkF, argsToLocals, Value.category]; done) | rfl
theorem d6_0 : decode prog_15_method_8_code 0 = .ok (.iload_n 1, 1) := by decide +kernel
theorem d6_1 : decode prog_15_method_8_code 1 = .ok (.ifCond .lt 26, 3) := by decide +kernel
theorem d6_4 : decode prog_15_method_8_code 4 = .ok (.iload_n 1, 1) := by decide +kernel
theorem d6_5 : decode prog_15_method_8_code 5 = .ok (.aload_n 0, 1) := by decide +kernel
theorem d6_6 : decode prog_15_method_8_code 6 = .ok (.getfield 22, 3) := by decide +kernel
theorem d6_9 : decode prog_15_method_8_code 9 = .ok (.arraylength, 1) := by decide +kernel
theorem d6_10 : decode prog_15_method_8_code 10 = .ok (.if_icmp .ge 17, 3) := by decide +kernel
theorem d6_13 : decode prog_15_method_8_code 13 = .ok (.aload_n 0, 1) := by decide +kernel
theorem d6_14 : decode prog_15_method_8_code 14 = .ok (.getfield 22, 3) := by decide +kernel
theorem d6_17 : decode prog_15_method_8_code 17 = .ok (.iload_n 1, 1) := by decide +kernel
theorem d6_18 : decode prog_15_method_8_code 18 = .ok (.daload, 1) := by decide +kernel
theorem d6_19 : decode prog_15_method_8_code 19 = .ok (.aload_n 0, 1) := by decide +kernel
theorem d6_20 : decode prog_15_method_8_code 20 = .ok (.getfield 25, 3) := by decide +kernel
theorem d6_23 : decode prog_15_method_8_code 23 = .ok (.ddiv, 1) := by decide +kernel
theorem d6_24 : decode prog_15_method_8_code 24 = .ok (.goto 4, 3) := by decide +kernel
theorem d6_28 : decode prog_15_method_8_code 28 = .ok (.dreturn, 1) := by decide +kernel
def Q_rmP0 (Z : State) (r0 : Addr) (rb : Addr) (kb : ClassId) (vt : Int32) (v0 : Int32) (v1 : Int32) (v2 : Int32) (h0 : Heap) (n0 : Nat) (v : Option Value) (h : Heap) (L : List Loc) : Prop := (v = some (.double (FP.ddiv (FP.i2d v0) (FP.i2d vt))) ∧ Fr n0 L ∧ h = h0)
set_option maxRecDepth 65536 in
set_option maxHeartbeats 40000000 in
theorem rmP0 (l : Launch) (Z : State) (a0 : Array Value) (hw : ∀ d ∈ tables_1, d.before a0 Z = true) (ws : List Jvm.Cond) (r0 : Addr) (rb : Addr) (kb : ClassId) (vt : Int32) (v0 : Int32) (v1 : Int32) (v2 : Int32) (h0 : Heap) (n0 : Nat) (Z0 : n0 ≤ h0.size) (uw : Fld Z h0 r0 "org/quarrel/model/Distribution" "weights" "[D" (.ref rb)) (uo : Fld Z h0 r0 "org/quarrel/model/Distribution" "total" "D" (.double (FP.i2d vt))) (uV : Arv Z h0 rb kb .double (3 : Int32) [(.double (FP.i2d v0)), (.double (FP.i2d v1)), (.double (FP.i2d v2))] (.double 0)) (unz : vt ≠ 0) :
    MetFree l (⟨"org/quarrel/model/Distribution", "probability", "(I)D"⟩ : MethodName) (head1 (Jvm.Cond.code (⟨"org/quarrel/model/Distribution", "probability", "(I)D"⟩ : MethodName) prog_15_method_8_code 2 (some .double) :: ws) ({ frames := 0, cells := 0, slots := 0, locals := 0 } : Room)) (fun a U => a = #[(.ref r0), (.int (0 : Int32))] ∧ Z.Warmed39 U.vm ∧ U.heap = h0) (fun _ _ _ _ _ => True) (fun _ U o U' => ∃ v L, o = .returned v ∧ Q_rmP0 Z r0 rb kb vt v0 v1 v2 h0 n0 v U'.heap L ∧ FrameEnd U o U' L ({ frames := 0, cells := 0, slots := 0, locals := 0 } : Room).cells ({ frames := 0, cells := 0, slots := 0, locals := 0 } : Room).slots) := by
  refine MetFree.of_bodySF (plainFor_of_name pn_1) hisR ?_
  intro p e s m args below meth c s₁ Bd hml0 hP hK
  obtain ⟨rfl, hZ, hh⟩ := hP
  have hx := Bd.exec
  have hby := Bd.bytes
  have hml : c.maxLocals = 2 := hml0
  have hown : s.vm.findClass "org/quarrel/model/Distribution" = some m.cls := findClass_of_methodNamed Bd.named
  have hnm := (name_of_methodNamed Bd.named Bd.method).1
  have X0 : Stand p l e ({ frames := 0, cells := 0, slots := 0, locals := 0 } : Room) s m #[(.ref r0), (.int (0 : Int32))] below meth c s₁ [] 0 0 := Stand.of_body Bd
  have e0 : s₁.heap = h0 := by rw [← hh, Bd.state]; rfl
  have N0 := Fr.nil n0
  have pre0 : ∀ t, Steps p.tables e below (s₁.setTop (mkF m 0 #[vr r0, vi (0 : Int32)] [])) t → Steps p.tables e below (s₁.setTop (entryFrame m #[(.ref r0), (.int (0 : Int32))] 2)) t := fun t k => castTop (ef_3 m r0) k
  obtain ⟨T1, X1, e1, st1⟩ := getF X0 hx hZ hown (host := "") (Or.inl (wd hw 31 rfl)) Via.refl e0 uw (g := (mkF m 6 #[vr r0, vi (0 : Int32)] [(.ref r0), (.int (0 : Int32))])) rfl rfl (hb hby d6_6)
  obtain ⟨cl2, Ar2, q2, S2, Nn2, H2, G2⟩ := (id uV)
  obtain ⟨T3, X3, e3, st3⟩ := getF X1 hx hZ hown (host := "") (Or.inl (wd hw 31 rfl)) Via.refl e1 uw (g := (mkF m 14 #[vr r0, vi (0 : Int32)] [(.ref r0)])) rfl rfl (hb hby d6_14)
  obtain ⟨cl4, Ar4, q4, S4, Nn4, H4, G4⟩ := (id uV)
  have hin4 : ¬ ((0 : Int32) < 0 ∨ cl4.slots.size ≤ ((0 : Int32)).toNatClampNeg) := inb_of S4 ⟨by decide, by decide⟩
  have hat4 : cl4.slots[((0 : Int32)).toNatClampNeg]? = some (.double (FP.i2d v0)) := H4.at hin4 rfl
  obtain ⟨T5, X5, e5, st5⟩ := getF X3 hx hZ hown (host := "") (Or.inl (wd hw 33 rfl)) Via.refl e3 uo (g := (mkF m 20 #[vr r0, vi (0 : Int32)] [(.ref r0), (.double (FP.i2d v0))])) rfl rfl (hb hby d6_20)
  obtain ⟨fs, hr, hrun, hended, hW, hsame⟩ := X5.leave (v := some (.double (FP.ddiv (FP.i2d v0) (FP.i2d vt)))) (fun h => by rw [Bd.returns] at h; cases h)
  refine ⟨_, _, pre0 _ ?_, hrun, hended, _, _, rfl, ?_, ⟨_, rfl⟩, hW, hsame.mono (by decide) (by decide)⟩
  · show SS p e below s₁ (mkF m 0 #[vr r0, vi (0 : Int32)] []) _
    refine XS.iloadN X0.here hx rfl (hb hby d6_0) rfl ?_
    show SS p e below s₁ (mkF m 1 #[vr r0, vi (0 : Int32)] [(.int (0 : Int32))]) _
    refine XS.ifNo X0.here hx rfl (hb hby d6_1) rfl ((if0 _ _).trans (flt (by decide : ¬ ((0 : Int32) < (0 : Int32)))).1) ?_
    show SS p e below s₁ (mkF m 4 #[vr r0, vi (0 : Int32)] []) _
    refine XS.iloadN X0.here hx rfl (hb hby d6_4) rfl ?_
    show SS p e below s₁ (mkF m 5 #[vr r0, vi (0 : Int32)] [(.int (0 : Int32))]) _
    refine XS.aloadN X0.here hx rfl (hb hby d6_5) rfl rfl ?_
    show SS p e below s₁ (mkF m 6 #[vr r0, vi (0 : Int32)] [(.ref r0), (.int (0 : Int32))]) _
    refine st1 _ ?_
    show SS p e below T1 (mkF m 9 #[vr r0, vi (0 : Int32)] [(.ref rb), (.int (0 : Int32))]) _
    refine X1.arraylength hx (own_at e1 Ar2.1) (State.isArrayOf_alike hZ.alike Ar2.2.1) (g := (mkF m 9 #[vr r0, vi (0 : Int32)] [(.ref rb), (.int (0 : Int32))])) rfl rfl (hb hby d6_9) _ ?_
    rw [len_of S2 Nn2]
    show SS p e below T1 (mkF m 10 #[vr r0, vi (0 : Int32)] [(.int (3 : Int32)), (.int (0 : Int32))]) _
    refine XS.icmpNo X1.here hx rfl (hb hby d6_10) rfl (tlt (by decide : (0 : Int32) < (3 : Int32))).2.1 ?_
    show SS p e below T1 (mkF m 13 #[vr r0, vi (0 : Int32)] []) _
    refine XS.aloadN X1.here hx rfl (hb hby d6_13) rfl rfl ?_
    show SS p e below T1 (mkF m 14 #[vr r0, vi (0 : Int32)] [(.ref r0)]) _
    refine st3 _ ?_
    show SS p e below T3 (mkF m 17 #[vr r0, vi (0 : Int32)] [(.ref rb)]) _
    refine XS.iloadN X3.here hx rfl (hb hby d6_17) rfl ?_
    show SS p e below T3 (mkF m 18 #[vr r0, vi (0 : Int32)] [(.int (0 : Int32)), (.ref rb)]) _
    refine X3.daload hx (j := (0 : Int32)) (v := (.double (FP.i2d v0))) (own_at e3 Ar4.1) (State.isArrayOf_alike hZ.alike Ar4.2.1) Ar4.2.2 hin4 hat4 (g := (mkF m 18 #[vr r0, vi (0 : Int32)] [(.int (0 : Int32)), (.ref rb)])) rfl rfl (hb hby d6_18) _ ?_
    show SS p e below T3 (mkF m 19 #[vr r0, vi (0 : Int32)] [(.double (FP.i2d v0))]) _
    refine XS.aloadN X3.here hx rfl (hb hby d6_19) rfl rfl ?_
    show SS p e below T3 (mkF m 20 #[vr r0, vi (0 : Int32)] [(.ref r0), (.double (FP.i2d v0))]) _
    refine st5 _ ?_
    show SS p e below T5 (mkF m 23 #[vr r0, vi (0 : Int32)] [(.double (FP.i2d vt)), (.double (FP.i2d v0))]) _
    refine XS.ddivS X5.here hx rfl (hb hby d6_23) rfl (v := (FP.ddiv (FP.i2d v0) (FP.i2d vt))) (own_dnn _ unz) rfl ?_
    show SS p e below T5 (mkF m 24 #[vr r0, vi (0 : Int32)] [(.double (FP.ddiv (FP.i2d v0) (FP.i2d vt)))]) _
    refine XS.goto X5.here hx rfl (pc0 := 24) (pc' := 28) rfl (hb hby d6_24) (by decide) (by decide) ?_
    show SS p e below T5 (mkF m 28 #[vr r0, vi (0 : Int32)] [(.double (FP.ddiv (FP.i2d v0) (FP.i2d vt)))]) _
    exact retOut X5 hx Bd.returns rfl (Or.inr (Or.inr (Or.inl ⟨rfl, rfl, _, rfl⟩))) (hb hby d6_28) hr
  · show Q_rmP0 Z r0 rb kb vt v0 v1 v2 h0 n0 _ T5.heap _
    rw [e5]
    exact ⟨rfl, N0, rfl⟩
theorem ef_4 (m : MethodId) (x0 : Addr) : entryFrame m #[(.ref x0), (.int (1 : Int32))] 2 = mkF m 0 #[vr x0, vi (1 : Int32)] [] := by first | (simp [entryFrame, mkF, argsToLocals, Value.category]; done) | rfl
def Q_rmP1 (Z : State) (r0 : Addr) (rb : Addr) (kb : ClassId) (vt : Int32) (v0 : Int32) (v1 : Int32) (v2 : Int32) (h0 : Heap) (n0 : Nat) (v : Option Value) (h : Heap) (L : List Loc) : Prop := (v = some (.double (FP.ddiv (FP.i2d v1) (FP.i2d vt))) ∧ Fr n0 L ∧ h = h0)
set_option maxRecDepth 65536 in
set_option maxHeartbeats 40000000 in
theorem rmP1 (l : Launch) (Z : State) (a0 : Array Value) (hw : ∀ d ∈ tables_1, d.before a0 Z = true) (ws : List Jvm.Cond) (r0 : Addr) (rb : Addr) (kb : ClassId) (vt : Int32) (v0 : Int32) (v1 : Int32) (v2 : Int32) (h0 : Heap) (n0 : Nat) (Z0 : n0 ≤ h0.size) (uw : Fld Z h0 r0 "org/quarrel/model/Distribution" "weights" "[D" (.ref rb)) (uo : Fld Z h0 r0 "org/quarrel/model/Distribution" "total" "D" (.double (FP.i2d vt))) (uV : Arv Z h0 rb kb .double (3 : Int32) [(.double (FP.i2d v0)), (.double (FP.i2d v1)), (.double (FP.i2d v2))] (.double 0)) (unz : vt ≠ 0) :
    MetFree l (⟨"org/quarrel/model/Distribution", "probability", "(I)D"⟩ : MethodName) (head1 (Jvm.Cond.code (⟨"org/quarrel/model/Distribution", "probability", "(I)D"⟩ : MethodName) prog_15_method_8_code 2 (some .double) :: ws) ({ frames := 0, cells := 0, slots := 0, locals := 0 } : Room)) (fun a U => a = #[(.ref r0), (.int (1 : Int32))] ∧ Z.Warmed39 U.vm ∧ U.heap = h0) (fun _ _ _ _ _ => True) (fun _ U o U' => ∃ v L, o = .returned v ∧ Q_rmP1 Z r0 rb kb vt v0 v1 v2 h0 n0 v U'.heap L ∧ FrameEnd U o U' L ({ frames := 0, cells := 0, slots := 0, locals := 0 } : Room).cells ({ frames := 0, cells := 0, slots := 0, locals := 0 } : Room).slots) := by
  refine MetFree.of_bodySF (plainFor_of_name pn_1) hisR ?_
  intro p e s m args below meth c s₁ Bd hml0 hP hK
  obtain ⟨rfl, hZ, hh⟩ := hP
  have hx := Bd.exec
  have hby := Bd.bytes
  have hml : c.maxLocals = 2 := hml0
  have hown : s.vm.findClass "org/quarrel/model/Distribution" = some m.cls := findClass_of_methodNamed Bd.named
  have hnm := (name_of_methodNamed Bd.named Bd.method).1
  have X0 : Stand p l e ({ frames := 0, cells := 0, slots := 0, locals := 0 } : Room) s m #[(.ref r0), (.int (1 : Int32))] below meth c s₁ [] 0 0 := Stand.of_body Bd
  have e0 : s₁.heap = h0 := by rw [← hh, Bd.state]; rfl
  have N0 := Fr.nil n0
  have pre0 : ∀ t, Steps p.tables e below (s₁.setTop (mkF m 0 #[vr r0, vi (1 : Int32)] [])) t → Steps p.tables e below (s₁.setTop (entryFrame m #[(.ref r0), (.int (1 : Int32))] 2)) t := fun t k => castTop (ef_4 m r0) k
  obtain ⟨T1, X1, e1, st1⟩ := getF X0 hx hZ hown (host := "") (Or.inl (wd hw 31 rfl)) Via.refl e0 uw (g := (mkF m 6 #[vr r0, vi (1 : Int32)] [(.ref r0), (.int (1 : Int32))])) rfl rfl (hb hby d6_6)
  obtain ⟨cl2, Ar2, q2, S2, Nn2, H2, G2⟩ := (id uV)
  obtain ⟨T3, X3, e3, st3⟩ := getF X1 hx hZ hown (host := "") (Or.inl (wd hw 31 rfl)) Via.refl e1 uw (g := (mkF m 14 #[vr r0, vi (1 : Int32)] [(.ref r0)])) rfl rfl (hb hby d6_14)
  obtain ⟨cl4, Ar4, q4, S4, Nn4, H4, G4⟩ := (id uV)
  have hin4 : ¬ ((1 : Int32) < 0 ∨ cl4.slots.size ≤ ((1 : Int32)).toNatClampNeg) := inb_of S4 ⟨by decide, by decide⟩
  have hat4 : cl4.slots[((1 : Int32)).toNatClampNeg]? = some (.double (FP.i2d v1)) := H4.at hin4 rfl
  obtain ⟨T5, X5, e5, st5⟩ := getF X3 hx hZ hown (host := "") (Or.inl (wd hw 33 rfl)) Via.refl e3 uo (g := (mkF m 20 #[vr r0, vi (1 : Int32)] [(.ref r0), (.double (FP.i2d v1))])) rfl rfl (hb hby d6_20)
  obtain ⟨fs, hr, hrun, hended, hW, hsame⟩ := X5.leave (v := some (.double (FP.ddiv (FP.i2d v1) (FP.i2d vt)))) (fun h => by rw [Bd.returns] at h; cases h)
  refine ⟨_, _, pre0 _ ?_, hrun, hended, _, _, rfl, ?_, ⟨_, rfl⟩, hW, hsame.mono (by decide) (by decide)⟩
  · show SS p e below s₁ (mkF m 0 #[vr r0, vi (1 : Int32)] []) _
    refine XS.iloadN X0.here hx rfl (hb hby d6_0) rfl ?_
    show SS p e below s₁ (mkF m 1 #[vr r0, vi (1 : Int32)] [(.int (1 : Int32))]) _
    refine XS.ifNo X0.here hx rfl (hb hby d6_1) rfl ((if0 _ _).trans (flt (by decide : ¬ ((1 : Int32) < (0 : Int32)))).1) ?_
    show SS p e below s₁ (mkF m 4 #[vr r0, vi (1 : Int32)] []) _
    refine XS.iloadN X0.here hx rfl (hb hby d6_4) rfl ?_
    show SS p e below s₁ (mkF m 5 #[vr r0, vi (1 : Int32)] [(.int (1 : Int32))]) _
    refine XS.aloadN X0.here hx rfl (hb hby d6_5) rfl rfl ?_
    show SS p e below s₁ (mkF m 6 #[vr r0, vi (1 : Int32)] [(.ref r0), (.int (1 : Int32))]) _
    refine st1 _ ?_
    show SS p e below T1 (mkF m 9 #[vr r0, vi (1 : Int32)] [(.ref rb), (.int (1 : Int32))]) _
    refine X1.arraylength hx (own_at e1 Ar2.1) (State.isArrayOf_alike hZ.alike Ar2.2.1) (g := (mkF m 9 #[vr r0, vi (1 : Int32)] [(.ref rb), (.int (1 : Int32))])) rfl rfl (hb hby d6_9) _ ?_
    rw [len_of S2 Nn2]
    show SS p e below T1 (mkF m 10 #[vr r0, vi (1 : Int32)] [(.int (3 : Int32)), (.int (1 : Int32))]) _
    refine XS.icmpNo X1.here hx rfl (hb hby d6_10) rfl (tlt (by decide : (1 : Int32) < (3 : Int32))).2.1 ?_
    show SS p e below T1 (mkF m 13 #[vr r0, vi (1 : Int32)] []) _
    refine XS.aloadN X1.here hx rfl (hb hby d6_13) rfl rfl ?_
    show SS p e below T1 (mkF m 14 #[vr r0, vi (1 : Int32)] [(.ref r0)]) _
    refine st3 _ ?_
    show SS p e below T3 (mkF m 17 #[vr r0, vi (1 : Int32)] [(.ref rb)]) _
    refine XS.iloadN X3.here hx rfl (hb hby d6_17) rfl ?_
    show SS p e below T3 (mkF m 18 #[vr r0, vi (1 : Int32)] [(.int (1 : Int32)), (.ref rb)]) _
    refine X3.daload hx (j := (1 : Int32)) (v := (.double (FP.i2d v1))) (own_at e3 Ar4.1) (State.isArrayOf_alike hZ.alike Ar4.2.1) Ar4.2.2 hin4 hat4 (g := (mkF m 18 #[vr r0, vi (1 : Int32)] [(.int (1 : Int32)), (.ref rb)])) rfl rfl (hb hby d6_18) _ ?_
    show SS p e below T3 (mkF m 19 #[vr r0, vi (1 : Int32)] [(.double (FP.i2d v1))]) _
    refine XS.aloadN X3.here hx rfl (hb hby d6_19) rfl rfl ?_
    show SS p e below T3 (mkF m 20 #[vr r0, vi (1 : Int32)] [(.ref r0), (.double (FP.i2d v1))]) _
    refine st5 _ ?_
    show SS p e below T5 (mkF m 23 #[vr r0, vi (1 : Int32)] [(.double (FP.i2d vt)), (.double (FP.i2d v1))]) _
    refine XS.ddivS X5.here hx rfl (hb hby d6_23) rfl (v := (FP.ddiv (FP.i2d v1) (FP.i2d vt))) (own_dnn _ unz) rfl ?_
    show SS p e below T5 (mkF m 24 #[vr r0, vi (1 : Int32)] [(.double (FP.ddiv (FP.i2d v1) (FP.i2d vt)))]) _
    refine XS.goto X5.here hx rfl (pc0 := 24) (pc' := 28) rfl (hb hby d6_24) (by decide) (by decide) ?_
    show SS p e below T5 (mkF m 28 #[vr r0, vi (1 : Int32)] [(.double (FP.ddiv (FP.i2d v1) (FP.i2d vt)))]) _
    exact retOut X5 hx Bd.returns rfl (Or.inr (Or.inr (Or.inl ⟨rfl, rfl, _, rfl⟩))) (hb hby d6_28) hr
  · show Q_rmP1 Z r0 rb kb vt v0 v1 v2 h0 n0 _ T5.heap _
    rw [e5]
    exact ⟨rfl, N0, rfl⟩
theorem ef_5 (m : MethodId) (x0 : Addr) : entryFrame m #[(.ref x0), (.int (2 : Int32))] 2 = mkF m 0 #[vr x0, vi (2 : Int32)] [] := by first | (simp [entryFrame, mkF, argsToLocals, Value.category]; done) | rfl
def Q_rmP2 (Z : State) (r0 : Addr) (rb : Addr) (kb : ClassId) (vt : Int32) (v0 : Int32) (v1 : Int32) (v2 : Int32) (h0 : Heap) (n0 : Nat) (v : Option Value) (h : Heap) (L : List Loc) : Prop := (v = some (.double (FP.ddiv (FP.i2d v2) (FP.i2d vt))) ∧ Fr n0 L ∧ h = h0)
set_option maxRecDepth 65536 in
set_option maxHeartbeats 40000000 in
theorem rmP2 (l : Launch) (Z : State) (a0 : Array Value) (hw : ∀ d ∈ tables_1, d.before a0 Z = true) (ws : List Jvm.Cond) (r0 : Addr) (rb : Addr) (kb : ClassId) (vt : Int32) (v0 : Int32) (v1 : Int32) (v2 : Int32) (h0 : Heap) (n0 : Nat) (Z0 : n0 ≤ h0.size) (uw : Fld Z h0 r0 "org/quarrel/model/Distribution" "weights" "[D" (.ref rb)) (uo : Fld Z h0 r0 "org/quarrel/model/Distribution" "total" "D" (.double (FP.i2d vt))) (uV : Arv Z h0 rb kb .double (3 : Int32) [(.double (FP.i2d v0)), (.double (FP.i2d v1)), (.double (FP.i2d v2))] (.double 0)) (unz : vt ≠ 0) :
    MetFree l (⟨"org/quarrel/model/Distribution", "probability", "(I)D"⟩ : MethodName) (head1 (Jvm.Cond.code (⟨"org/quarrel/model/Distribution", "probability", "(I)D"⟩ : MethodName) prog_15_method_8_code 2 (some .double) :: ws) ({ frames := 0, cells := 0, slots := 0, locals := 0 } : Room)) (fun a U => a = #[(.ref r0), (.int (2 : Int32))] ∧ Z.Warmed39 U.vm ∧ U.heap = h0) (fun _ _ _ _ _ => True) (fun _ U o U' => ∃ v L, o = .returned v ∧ Q_rmP2 Z r0 rb kb vt v0 v1 v2 h0 n0 v U'.heap L ∧ FrameEnd U o U' L ({ frames := 0, cells := 0, slots := 0, locals := 0 } : Room).cells ({ frames := 0, cells := 0, slots := 0, locals := 0 } : Room).slots) := by
  refine MetFree.of_bodySF (plainFor_of_name pn_1) hisR ?_
  intro p e s m args below meth c s₁ Bd hml0 hP hK
  obtain ⟨rfl, hZ, hh⟩ := hP
  have hx := Bd.exec
  have hby := Bd.bytes
  have hml : c.maxLocals = 2 := hml0
  have hown : s.vm.findClass "org/quarrel/model/Distribution" = some m.cls := findClass_of_methodNamed Bd.named
  have hnm := (name_of_methodNamed Bd.named Bd.method).1
  have X0 : Stand p l e ({ frames := 0, cells := 0, slots := 0, locals := 0 } : Room) s m #[(.ref r0), (.int (2 : Int32))] below meth c s₁ [] 0 0 := Stand.of_body Bd
  have e0 : s₁.heap = h0 := by rw [← hh, Bd.state]; rfl
  have N0 := Fr.nil n0
  have pre0 : ∀ t, Steps p.tables e below (s₁.setTop (mkF m 0 #[vr r0, vi (2 : Int32)] [])) t → Steps p.tables e below (s₁.setTop (entryFrame m #[(.ref r0), (.int (2 : Int32))] 2)) t := fun t k => castTop (ef_5 m r0) k
  obtain ⟨T1, X1, e1, st1⟩ := getF X0 hx hZ hown (host := "") (Or.inl (wd hw 31 rfl)) Via.refl e0 uw (g := (mkF m 6 #[vr r0, vi (2 : Int32)] [(.ref r0), (.int (2 : Int32))])) rfl rfl (hb hby d6_6)
  obtain ⟨cl2, Ar2, q2, S2, Nn2, H2, G2⟩ := (id uV)
  obtain ⟨T3, X3, e3, st3⟩ := getF X1 hx hZ hown (host := "") (Or.inl (wd hw 31 rfl)) Via.refl e1 uw (g := (mkF m 14 #[vr r0, vi (2 : Int32)] [(.ref r0)])) rfl rfl (hb hby d6_14)
  obtain ⟨cl4, Ar4, q4, S4, Nn4, H4, G4⟩ := (id uV)
  have hin4 : ¬ ((2 : Int32) < 0 ∨ cl4.slots.size ≤ ((2 : Int32)).toNatClampNeg) := inb_of S4 ⟨by decide, by decide⟩
  have hat4 : cl4.slots[((2 : Int32)).toNatClampNeg]? = some (.double (FP.i2d v2)) := H4.at hin4 rfl
  obtain ⟨T5, X5, e5, st5⟩ := getF X3 hx hZ hown (host := "") (Or.inl (wd hw 33 rfl)) Via.refl e3 uo (g := (mkF m 20 #[vr r0, vi (2 : Int32)] [(.ref r0), (.double (FP.i2d v2))])) rfl rfl (hb hby d6_20)
  obtain ⟨fs, hr, hrun, hended, hW, hsame⟩ := X5.leave (v := some (.double (FP.ddiv (FP.i2d v2) (FP.i2d vt)))) (fun h => by rw [Bd.returns] at h; cases h)
  refine ⟨_, _, pre0 _ ?_, hrun, hended, _, _, rfl, ?_, ⟨_, rfl⟩, hW, hsame.mono (by decide) (by decide)⟩
  · show SS p e below s₁ (mkF m 0 #[vr r0, vi (2 : Int32)] []) _
    refine XS.iloadN X0.here hx rfl (hb hby d6_0) rfl ?_
    show SS p e below s₁ (mkF m 1 #[vr r0, vi (2 : Int32)] [(.int (2 : Int32))]) _
    refine XS.ifNo X0.here hx rfl (hb hby d6_1) rfl ((if0 _ _).trans (flt (by decide : ¬ ((2 : Int32) < (0 : Int32)))).1) ?_
    show SS p e below s₁ (mkF m 4 #[vr r0, vi (2 : Int32)] []) _
    refine XS.iloadN X0.here hx rfl (hb hby d6_4) rfl ?_
    show SS p e below s₁ (mkF m 5 #[vr r0, vi (2 : Int32)] [(.int (2 : Int32))]) _
    refine XS.aloadN X0.here hx rfl (hb hby d6_5) rfl rfl ?_
    show SS p e below s₁ (mkF m 6 #[vr r0, vi (2 : Int32)] [(.ref r0), (.int (2 : Int32))]) _
    refine st1 _ ?_
    show SS p e below T1 (mkF m 9 #[vr r0, vi (2 : Int32)] [(.ref rb), (.int (2 : Int32))]) _
    refine X1.arraylength hx (own_at e1 Ar2.1) (State.isArrayOf_alike hZ.alike Ar2.2.1) (g := (mkF m 9 #[vr r0, vi (2 : Int32)] [(.ref rb), (.int (2 : Int32))])) rfl rfl (hb hby d6_9) _ ?_
    rw [len_of S2 Nn2]
    show SS p e below T1 (mkF m 10 #[vr r0, vi (2 : Int32)] [(.int (3 : Int32)), (.int (2 : Int32))]) _
    refine XS.icmpNo X1.here hx rfl (hb hby d6_10) rfl (tlt (by decide : (2 : Int32) < (3 : Int32))).2.1 ?_
    show SS p e below T1 (mkF m 13 #[vr r0, vi (2 : Int32)] []) _
    refine XS.aloadN X1.here hx rfl (hb hby d6_13) rfl rfl ?_
    show SS p e below T1 (mkF m 14 #[vr r0, vi (2 : Int32)] [(.ref r0)]) _
    refine st3 _ ?_
    show SS p e below T3 (mkF m 17 #[vr r0, vi (2 : Int32)] [(.ref rb)]) _
    refine XS.iloadN X3.here hx rfl (hb hby d6_17) rfl ?_
    show SS p e below T3 (mkF m 18 #[vr r0, vi (2 : Int32)] [(.int (2 : Int32)), (.ref rb)]) _
    refine X3.daload hx (j := (2 : Int32)) (v := (.double (FP.i2d v2))) (own_at e3 Ar4.1) (State.isArrayOf_alike hZ.alike Ar4.2.1) Ar4.2.2 hin4 hat4 (g := (mkF m 18 #[vr r0, vi (2 : Int32)] [(.int (2 : Int32)), (.ref rb)])) rfl rfl (hb hby d6_18) _ ?_
    show SS p e below T3 (mkF m 19 #[vr r0, vi (2 : Int32)] [(.double (FP.i2d v2))]) _
    refine XS.aloadN X3.here hx rfl (hb hby d6_19) rfl rfl ?_
    show SS p e below T3 (mkF m 20 #[vr r0, vi (2 : Int32)] [(.ref r0), (.double (FP.i2d v2))]) _
    refine st5 _ ?_
    show SS p e below T5 (mkF m 23 #[vr r0, vi (2 : Int32)] [(.double (FP.i2d vt)), (.double (FP.i2d v2))]) _
    refine XS.ddivS X5.here hx rfl (hb hby d6_23) rfl (v := (FP.ddiv (FP.i2d v2) (FP.i2d vt))) (own_dnn _ unz) rfl ?_
    show SS p e below T5 (mkF m 24 #[vr r0, vi (2 : Int32)] [(.double (FP.ddiv (FP.i2d v2) (FP.i2d vt)))]) _
    refine XS.goto X5.here hx rfl (pc0 := 24) (pc' := 28) rfl (hb hby d6_24) (by decide) (by decide) ?_
    show SS p e below T5 (mkF m 28 #[vr r0, vi (2 : Int32)] [(.double (FP.ddiv (FP.i2d v2) (FP.i2d vt)))]) _
    exact retOut X5 hx Bd.returns rfl (Or.inr (Or.inr (Or.inl ⟨rfl, rfl, _, rfl⟩))) (hb hby d6_28) hr
  · show Q_rmP2 Z r0 rb kb vt v0 v1 v2 h0 n0 _ T5.heap _
    rw [e5]
    exact ⟨rfl, N0, rfl⟩
theorem ef_6 (m : MethodId) (x0 : Addr) (x1 : Int32) : entryFrame m #[(.ref x0), (.int x1)] 2 = mkF m 0 #[vr x0, vi x1] [] := by first | (simp [entryFrame, mkF, argsToLocals, Value.category]; done) | rfl
theorem d6_27 : decode prog_15_method_8_code 27 = .ok (.dconst 0, 1) := by decide +kernel
def Q_rmPl (Z : State) (r0 : Addr) (p1 : Int32) (rb : Addr) (kb : ClassId) (vt : Int32) (v0 : Int32) (v1 : Int32) (v2 : Int32) (h0 : Heap) (n0 : Nat) (v : Option Value) (h : Heap) (L : List Loc) : Prop := (v = some (.double (0 : UInt64)) ∧ Fr n0 L ∧ h = h0)
set_option maxRecDepth 65536 in
set_option maxHeartbeats 40000000 in
theorem rmPl (l : Launch) (Z : State) (a0 : Array Value) (hw : ∀ d ∈ tables_1, d.before a0 Z = true) (ws : List Jvm.Cond) (r0 : Addr) (p1 : Int32) (rb : Addr) (kb : ClassId) (vt : Int32) (v0 : Int32) (v1 : Int32) (v2 : Int32) (h0 : Heap) (n0 : Nat) (Z0 : n0 ≤ h0.size) (uw : Fld Z h0 r0 "org/quarrel/model/Distribution" "weights" "[D" (.ref rb)) (uo : Fld Z h0 r0 "org/quarrel/model/Distribution" "total" "D" (.double (FP.i2d vt))) (uV : Arv Z h0 rb kb .double (3 : Int32) [(.double (FP.i2d v0)), (.double (FP.i2d v1)), (.double (FP.i2d v2))] (.double 0)) (unz : vt ≠ 0) (uc : p1 < (0 : Int32)) :
    MetFree l (⟨"org/quarrel/model/Distribution", "probability", "(I)D"⟩ : MethodName) (head1 (Jvm.Cond.code (⟨"org/quarrel/model/Distribution", "probability", "(I)D"⟩ : MethodName) prog_15_method_8_code 2 (some .double) :: ws) ({ frames := 0, cells := 0, slots := 0, locals := 0 } : Room)) (fun a U => a = #[(.ref r0), (.int p1)] ∧ Z.Warmed39 U.vm ∧ U.heap = h0) (fun _ _ _ _ _ => True) (fun _ U o U' => ∃ v L, o = .returned v ∧ Q_rmPl Z r0 p1 rb kb vt v0 v1 v2 h0 n0 v U'.heap L ∧ FrameEnd U o U' L ({ frames := 0, cells := 0, slots := 0, locals := 0 } : Room).cells ({ frames := 0, cells := 0, slots := 0, locals := 0 } : Room).slots) := by
  refine MetFree.of_bodySF (plainFor_of_name pn_1) hisR ?_
  intro p e s m args below meth c s₁ Bd hml0 hP hK
  obtain ⟨rfl, hZ, hh⟩ := hP
  have hx := Bd.exec
  have hby := Bd.bytes
  have hml : c.maxLocals = 2 := hml0
  have hown : s.vm.findClass "org/quarrel/model/Distribution" = some m.cls := findClass_of_methodNamed Bd.named
  have hnm := (name_of_methodNamed Bd.named Bd.method).1
  have X0 : Stand p l e ({ frames := 0, cells := 0, slots := 0, locals := 0 } : Room) s m #[(.ref r0), (.int p1)] below meth c s₁ [] 0 0 := Stand.of_body Bd
  have e0 : s₁.heap = h0 := by rw [← hh, Bd.state]; rfl
  have N0 := Fr.nil n0
  have pre0 : ∀ t, Steps p.tables e below (s₁.setTop (mkF m 0 #[vr r0, vi p1] [])) t → Steps p.tables e below (s₁.setTop (entryFrame m #[(.ref r0), (.int p1)] 2)) t := fun t k => castTop (ef_6 m r0 p1) k
  obtain ⟨fs, hr, hrun, hended, hW, hsame⟩ := X0.leave (v := some (.double (0 : UInt64))) (fun h => by rw [Bd.returns] at h; cases h)
  refine ⟨_, _, pre0 _ ?_, hrun, hended, _, _, rfl, ?_, ⟨_, rfl⟩, hW, hsame.mono (by decide) (by decide)⟩
  · show SS p e below s₁ (mkF m 0 #[vr r0, vi p1] []) _
    refine XS.iloadN X0.here hx rfl (hb hby d6_0) rfl ?_
    show SS p e below s₁ (mkF m 1 #[vr r0, vi p1] [(.int p1)]) _
    refine XS.ifYes X0.here hx rfl (pc0 := 1) (pc' := 27) rfl (hb hby d6_1) rfl ((if0 _ _).trans (tlt (uc : p1 < (0 : Int32))).1) (by decide) (by decide) ?_
    show SS p e below s₁ (mkF m 27 #[vr r0, vi p1] []) _
    refine XS.dconst0 X0.here hx rfl (hb hby d6_27) (v := (0 : UInt64)) (by decide) ?_
    show SS p e below s₁ (mkF m 28 #[vr r0, vi p1] [(.double (0 : UInt64))]) _
    exact retOut X0 hx Bd.returns rfl (Or.inr (Or.inr (Or.inl ⟨rfl, rfl, _, rfl⟩))) (hb hby d6_28) hr
  · show Q_rmPl Z r0 p1 rb kb vt v0 v1 v2 h0 n0 _ s₁.heap _
    rw [e0]
    exact ⟨rfl, N0, rfl⟩
def Q_rmPh (Z : State) (r0 : Addr) (p1 : Int32) (rb : Addr) (kb : ClassId) (vt : Int32) (v0 : Int32) (v1 : Int32) (v2 : Int32) (h0 : Heap) (n0 : Nat) (v : Option Value) (h : Heap) (L : List Loc) : Prop := (v = some (.double (0 : UInt64)) ∧ Fr n0 L ∧ h = h0)
set_option maxRecDepth 65536 in
set_option maxHeartbeats 40000000 in
theorem rmPh (l : Launch) (Z : State) (a0 : Array Value) (hw : ∀ d ∈ tables_1, d.before a0 Z = true) (ws : List Jvm.Cond) (r0 : Addr) (p1 : Int32) (rb : Addr) (kb : ClassId) (vt : Int32) (v0 : Int32) (v1 : Int32) (v2 : Int32) (h0 : Heap) (n0 : Nat) (Z0 : n0 ≤ h0.size) (uw : Fld Z h0 r0 "org/quarrel/model/Distribution" "weights" "[D" (.ref rb)) (uo : Fld Z h0 r0 "org/quarrel/model/Distribution" "total" "D" (.double (FP.i2d vt))) (uV : Arv Z h0 rb kb .double (3 : Int32) [(.double (FP.i2d v0)), (.double (FP.i2d v1)), (.double (FP.i2d v2))] (.double 0)) (unz : vt ≠ 0) (ub : ¬ (p1 < (0 : Int32))) (uc : ¬ (p1 < (3 : Int32))) :
    MetFree l (⟨"org/quarrel/model/Distribution", "probability", "(I)D"⟩ : MethodName) (head1 (Jvm.Cond.code (⟨"org/quarrel/model/Distribution", "probability", "(I)D"⟩ : MethodName) prog_15_method_8_code 2 (some .double) :: ws) ({ frames := 0, cells := 0, slots := 0, locals := 0 } : Room)) (fun a U => a = #[(.ref r0), (.int p1)] ∧ Z.Warmed39 U.vm ∧ U.heap = h0) (fun _ _ _ _ _ => True) (fun _ U o U' => ∃ v L, o = .returned v ∧ Q_rmPh Z r0 p1 rb kb vt v0 v1 v2 h0 n0 v U'.heap L ∧ FrameEnd U o U' L ({ frames := 0, cells := 0, slots := 0, locals := 0 } : Room).cells ({ frames := 0, cells := 0, slots := 0, locals := 0 } : Room).slots) := by
  refine MetFree.of_bodySF (plainFor_of_name pn_1) hisR ?_
  intro p e s m args below meth c s₁ Bd hml0 hP hK
  obtain ⟨rfl, hZ, hh⟩ := hP
  have hx := Bd.exec
  have hby := Bd.bytes
  have hml : c.maxLocals = 2 := hml0
  have hown : s.vm.findClass "org/quarrel/model/Distribution" = some m.cls := findClass_of_methodNamed Bd.named
  have hnm := (name_of_methodNamed Bd.named Bd.method).1
  have X0 : Stand p l e ({ frames := 0, cells := 0, slots := 0, locals := 0 } : Room) s m #[(.ref r0), (.int p1)] below meth c s₁ [] 0 0 := Stand.of_body Bd
  have e0 : s₁.heap = h0 := by rw [← hh, Bd.state]; rfl
  have N0 := Fr.nil n0
  have pre0 : ∀ t, Steps p.tables e below (s₁.setTop (mkF m 0 #[vr r0, vi p1] [])) t → Steps p.tables e below (s₁.setTop (entryFrame m #[(.ref r0), (.int p1)] 2)) t := fun t k => castTop (ef_6 m r0 p1) k
  obtain ⟨T1, X1, e1, st1⟩ := getF X0 hx hZ hown (host := "") (Or.inl (wd hw 31 rfl)) Via.refl e0 uw (g := (mkF m 6 #[vr r0, vi p1] [(.ref r0), (.int p1)])) rfl rfl (hb hby d6_6)
  obtain ⟨cl2, Ar2, q2, S2, Nn2, H2, G2⟩ := (id uV)
  obtain ⟨fs, hr, hrun, hended, hW, hsame⟩ := X1.leave (v := some (.double (0 : UInt64))) (fun h => by rw [Bd.returns] at h; cases h)
  refine ⟨_, _, pre0 _ ?_, hrun, hended, _, _, rfl, ?_, ⟨_, rfl⟩, hW, hsame.mono (by decide) (by decide)⟩
  · show SS p e below s₁ (mkF m 0 #[vr r0, vi p1] []) _
    refine XS.iloadN X0.here hx rfl (hb hby d6_0) rfl ?_
    show SS p e below s₁ (mkF m 1 #[vr r0, vi p1] [(.int p1)]) _
    refine XS.ifNo X0.here hx rfl (hb hby d6_1) rfl ((if0 _ _).trans (flt (ub : ¬ (p1 < (0 : Int32)))).1) ?_
    show SS p e below s₁ (mkF m 4 #[vr r0, vi p1] []) _
    refine XS.iloadN X0.here hx rfl (hb hby d6_4) rfl ?_
    show SS p e below s₁ (mkF m 5 #[vr r0, vi p1] [(.int p1)]) _
    refine XS.aloadN X0.here hx rfl (hb hby d6_5) rfl rfl ?_
    show SS p e below s₁ (mkF m 6 #[vr r0, vi p1] [(.ref r0), (.int p1)]) _
    refine st1 _ ?_
    show SS p e below T1 (mkF m 9 #[vr r0, vi p1] [(.ref rb), (.int p1)]) _
    refine X1.arraylength hx (own_at e1 Ar2.1) (State.isArrayOf_alike hZ.alike Ar2.2.1) (g := (mkF m 9 #[vr r0, vi p1] [(.ref rb), (.int p1)])) rfl rfl (hb hby d6_9) _ ?_
    rw [len_of S2 Nn2]
    show SS p e below T1 (mkF m 10 #[vr r0, vi p1] [(.int (3 : Int32)), (.int p1)]) _
    refine XS.icmpYes X1.here hx rfl (pc0 := 10) (pc' := 27) rfl (hb hby d6_10) rfl (flt (uc : ¬ (p1 < (3 : Int32)))).2.1 (by decide) (by decide) ?_
    show SS p e below T1 (mkF m 27 #[vr r0, vi p1] []) _
    refine XS.dconst0 X1.here hx rfl (hb hby d6_27) (v := (0 : UInt64)) (by decide) ?_
    show SS p e below T1 (mkF m 28 #[vr r0, vi p1] [(.double (0 : UInt64))]) _
    exact retOut X1 hx Bd.returns rfl (Or.inr (Or.inr (Or.inl ⟨rfl, rfl, _, rfl⟩))) (hb hby d6_28) hr
  · show Q_rmPh Z r0 p1 rb kb vt v0 v1 v2 h0 n0 _ T1.heap _
    rw [e1]
    exact ⟨rfl, N0, rfl⟩
theorem ef_7 (m : MethodId) (x1 : Int32) (x2 : Int32) (x3 : Int32) : entryFrame m #[(.int (0 : Int32)), (.int x1), (.int x2), (.int x3)] 4 = mkF m 0 #[vi (0 : Int32), vi x1, vi x2, vi x3] [] := by first | (simp [entryFrame, mkF, argsToLocals, Value.category]; done) | rfl
theorem pn_2 : plainName "org/quarrel/model/DistributionProbabilityPinLaw" = true := by first | (simp [plainName, overriddenIn]; done) | decide +kernel
theorem d7_0 : decode method_3_code 0 = .ok (.iload_n 0, 1) := by decide +kernel
theorem d7_1 : decode method_3_code 1 = .ok (.ifCond .ne 6, 3) := by decide +kernel
theorem d7_4 : decode method_3_code 4 = .ok (.iload_n 1, 1) := by decide +kernel
theorem d7_5 : decode method_3_code 5 = .ok (.i2d, 1) := by decide +kernel
theorem d7_6 : decode method_3_code 6 = .ok (.dreturn, 1) := by decide +kernel
def Q_rmE0 (Z : State) (p1 : Int32) (p2 : Int32) (p3 : Int32) (h0 : Heap) (n0 : Nat) (v : Option Value) (h : Heap) (L : List Loc) : Prop := (v = some (.double (FP.i2d p1)) ∧ Fr n0 L ∧ h = h0)
set_option maxRecDepth 65536 in
set_option maxHeartbeats 40000000 in
theorem rmE0 (l : Launch) (Z : State) (a0 : Array Value) (hw : ∀ d ∈ tables_1, d.before a0 Z = true) (ws : List Jvm.Cond) (p1 : Int32) (p2 : Int32) (p3 : Int32) (h0 : Heap) (n0 : Nat) (Z0 : n0 ≤ h0.size) :
    MetFree l (⟨"org/quarrel/model/DistributionProbabilityPinLaw", "expected", "(IIII)D"⟩ : MethodName) (head1 (Jvm.Cond.code (⟨"org/quarrel/model/DistributionProbabilityPinLaw", "expected", "(IIII)D"⟩ : MethodName) method_3_code 4 (some .double) :: ws) ({ frames := 0, cells := 0, slots := 0, locals := 0 } : Room)) (fun a U => a = #[(.int (0 : Int32)), (.int p1), (.int p2), (.int p3)] ∧ Z.Warmed39 U.vm ∧ U.heap = h0) (fun _ _ _ _ _ => True) (fun _ U o U' => ∃ v L, o = .returned v ∧ Q_rmE0 Z p1 p2 p3 h0 n0 v U'.heap L ∧ FrameEnd U o U' L ({ frames := 0, cells := 0, slots := 0, locals := 0 } : Room).cells ({ frames := 0, cells := 0, slots := 0, locals := 0 } : Room).slots) := by
  refine MetFree.of_bodySF (plainFor_of_name pn_2) hisR ?_
  intro p e s m args below meth c s₁ Bd hml0 hP hK
  obtain ⟨rfl, hZ, hh⟩ := hP
  have hx := Bd.exec
  have hby := Bd.bytes
  have hml : c.maxLocals = 4 := hml0
  have hown : s.vm.findClass "org/quarrel/model/DistributionProbabilityPinLaw" = some m.cls := findClass_of_methodNamed Bd.named
  have hnm := (name_of_methodNamed Bd.named Bd.method).1
  have X0 : Stand p l e ({ frames := 0, cells := 0, slots := 0, locals := 0 } : Room) s m #[(.int (0 : Int32)), (.int p1), (.int p2), (.int p3)] below meth c s₁ [] 0 0 := Stand.of_body Bd
  have e0 : s₁.heap = h0 := by rw [← hh, Bd.state]; rfl
  have N0 := Fr.nil n0
  have pre0 : ∀ t, Steps p.tables e below (s₁.setTop (mkF m 0 #[vi (0 : Int32), vi p1, vi p2, vi p3] [])) t → Steps p.tables e below (s₁.setTop (entryFrame m #[(.int (0 : Int32)), (.int p1), (.int p2), (.int p3)] 4)) t := fun t k => castTop (ef_7 m p1 p2 p3) k
  obtain ⟨fs, hr, hrun, hended, hW, hsame⟩ := X0.leave (v := some (.double (FP.i2d p1))) (fun h => by rw [Bd.returns] at h; cases h)
  refine ⟨_, _, pre0 _ ?_, hrun, hended, _, _, rfl, ?_, ⟨_, rfl⟩, hW, hsame.mono (by decide) (by decide)⟩
  · show SS p e below s₁ (mkF m 0 #[vi (0 : Int32), vi p1, vi p2, vi p3] []) _
    refine XS.iloadN X0.here hx rfl (hb hby d7_0) rfl ?_
    show SS p e below s₁ (mkF m 1 #[vi (0 : Int32), vi p1, vi p2, vi p3] [(.int (0 : Int32))]) _
    refine XS.ifNo X0.here hx rfl (hb hby d7_1) rfl ((if0 _ _).trans (teq (by decide : (0 : Int32) = (0 : Int32))).2) ?_
    show SS p e below s₁ (mkF m 4 #[vi (0 : Int32), vi p1, vi p2, vi p3] []) _
    refine XS.iloadN X0.here hx rfl (hb hby d7_4) rfl ?_
    show SS p e below s₁ (mkF m 5 #[vi (0 : Int32), vi p1, vi p2, vi p3] [(.int p1)]) _
    refine XS.i2dS X0.here hx rfl (hb hby d7_5) rfl (v := (FP.i2d p1)) rfl ?_
    show SS p e below s₁ (mkF m 6 #[vi (0 : Int32), vi p1, vi p2, vi p3] [(.double (FP.i2d p1))]) _
    exact retOut X0 hx Bd.returns rfl (Or.inr (Or.inr (Or.inl ⟨rfl, rfl, _, rfl⟩))) (hb hby d7_6) hr
  · show Q_rmE0 Z p1 p2 p3 h0 n0 _ s₁.heap _
    rw [e0]
    exact ⟨rfl, N0, rfl⟩
theorem ef_8 (m : MethodId) (x1 : Int32) (x2 : Int32) (x3 : Int32) : entryFrame m #[(.int (1 : Int32)), (.int x1), (.int x2), (.int x3)] 4 = mkF m 0 #[vi (1 : Int32), vi x1, vi x2, vi x3] [] := by first | (simp [entryFrame, mkF, argsToLocals, Value.category]; done) | rfl
theorem d7_7 : decode method_3_code 7 = .ok (.iload_n 0, 1) := by decide +kernel
theorem d7_8 : decode method_3_code 8 = .ok (.iconst 1, 1) := by decide +kernel
theorem d7_9 : decode method_3_code 9 = .ok (.if_icmp .ne 6, 3) := by decide +kernel
theorem d7_12 : decode method_3_code 12 = .ok (.iload_n 2, 1) := by decide +kernel
theorem d7_13 : decode method_3_code 13 = .ok (.i2d, 1) := by decide +kernel
theorem d7_14 : decode method_3_code 14 = .ok (.dreturn, 1) := by decide +kernel
def Q_rmE1 (Z : State) (p1 : Int32) (p2 : Int32) (p3 : Int32) (h0 : Heap) (n0 : Nat) (v : Option Value) (h : Heap) (L : List Loc) : Prop := (v = some (.double (FP.i2d p2)) ∧ Fr n0 L ∧ h = h0)
set_option maxRecDepth 65536 in
set_option maxHeartbeats 40000000 in
theorem rmE1 (l : Launch) (Z : State) (a0 : Array Value) (hw : ∀ d ∈ tables_1, d.before a0 Z = true) (ws : List Jvm.Cond) (p1 : Int32) (p2 : Int32) (p3 : Int32) (h0 : Heap) (n0 : Nat) (Z0 : n0 ≤ h0.size) :
    MetFree l (⟨"org/quarrel/model/DistributionProbabilityPinLaw", "expected", "(IIII)D"⟩ : MethodName) (head1 (Jvm.Cond.code (⟨"org/quarrel/model/DistributionProbabilityPinLaw", "expected", "(IIII)D"⟩ : MethodName) method_3_code 4 (some .double) :: ws) ({ frames := 0, cells := 0, slots := 0, locals := 0 } : Room)) (fun a U => a = #[(.int (1 : Int32)), (.int p1), (.int p2), (.int p3)] ∧ Z.Warmed39 U.vm ∧ U.heap = h0) (fun _ _ _ _ _ => True) (fun _ U o U' => ∃ v L, o = .returned v ∧ Q_rmE1 Z p1 p2 p3 h0 n0 v U'.heap L ∧ FrameEnd U o U' L ({ frames := 0, cells := 0, slots := 0, locals := 0 } : Room).cells ({ frames := 0, cells := 0, slots := 0, locals := 0 } : Room).slots) := by
  refine MetFree.of_bodySF (plainFor_of_name pn_2) hisR ?_
  intro p e s m args below meth c s₁ Bd hml0 hP hK
  obtain ⟨rfl, hZ, hh⟩ := hP
  have hx := Bd.exec
  have hby := Bd.bytes
  have hml : c.maxLocals = 4 := hml0
  have hown : s.vm.findClass "org/quarrel/model/DistributionProbabilityPinLaw" = some m.cls := findClass_of_methodNamed Bd.named
  have hnm := (name_of_methodNamed Bd.named Bd.method).1
  have X0 : Stand p l e ({ frames := 0, cells := 0, slots := 0, locals := 0 } : Room) s m #[(.int (1 : Int32)), (.int p1), (.int p2), (.int p3)] below meth c s₁ [] 0 0 := Stand.of_body Bd
  have e0 : s₁.heap = h0 := by rw [← hh, Bd.state]; rfl
  have N0 := Fr.nil n0
  have pre0 : ∀ t, Steps p.tables e below (s₁.setTop (mkF m 0 #[vi (1 : Int32), vi p1, vi p2, vi p3] [])) t → Steps p.tables e below (s₁.setTop (entryFrame m #[(.int (1 : Int32)), (.int p1), (.int p2), (.int p3)] 4)) t := fun t k => castTop (ef_8 m p1 p2 p3) k
  obtain ⟨fs, hr, hrun, hended, hW, hsame⟩ := X0.leave (v := some (.double (FP.i2d p2))) (fun h => by rw [Bd.returns] at h; cases h)
  refine ⟨_, _, pre0 _ ?_, hrun, hended, _, _, rfl, ?_, ⟨_, rfl⟩, hW, hsame.mono (by decide) (by decide)⟩
  · show SS p e below s₁ (mkF m 0 #[vi (1 : Int32), vi p1, vi p2, vi p3] []) _
    refine XS.iloadN X0.here hx rfl (hb hby d7_0) rfl ?_
    show SS p e below s₁ (mkF m 1 #[vi (1 : Int32), vi p1, vi p2, vi p3] [(.int (1 : Int32))]) _
    refine XS.ifYes X0.here hx rfl (pc0 := 1) (pc' := 7) rfl (hb hby d7_1) rfl ((if0 _ _).trans (feq (by decide : ¬ ((1 : Int32) = (0 : Int32)))).2) (by decide) (by decide) ?_
    show SS p e below s₁ (mkF m 7 #[vi (1 : Int32), vi p1, vi p2, vi p3] []) _
    refine XS.iloadN X0.here hx rfl (hb hby d7_7) rfl ?_
    show SS p e below s₁ (mkF m 8 #[vi (1 : Int32), vi p1, vi p2, vi p3] [(.int (1 : Int32))]) _
    refine XS.iconst X0.here hx rfl (hb hby d7_8) ?_
    show SS p e below s₁ (mkF m 9 #[vi (1 : Int32), vi p1, vi p2, vi p3] [(.int (1 : Int32)), (.int (1 : Int32))]) _
    refine XS.icmpNo X0.here hx rfl (hb hby d7_9) rfl (teq (by decide : (1 : Int32) = (1 : Int32))).2 ?_
    show SS p e below s₁ (mkF m 12 #[vi (1 : Int32), vi p1, vi p2, vi p3] []) _
    refine XS.iloadN X0.here hx rfl (hb hby d7_12) rfl ?_
    show SS p e below s₁ (mkF m 13 #[vi (1 : Int32), vi p1, vi p2, vi p3] [(.int p2)]) _
    refine XS.i2dS X0.here hx rfl (hb hby d7_13) rfl (v := (FP.i2d p2)) rfl ?_
    show SS p e below s₁ (mkF m 14 #[vi (1 : Int32), vi p1, vi p2, vi p3] [(.double (FP.i2d p2))]) _
    exact retOut X0 hx Bd.returns rfl (Or.inr (Or.inr (Or.inl ⟨rfl, rfl, _, rfl⟩))) (hb hby d7_14) hr
  · show Q_rmE1 Z p1 p2 p3 h0 n0 _ s₁.heap _
    rw [e0]
    exact ⟨rfl, N0, rfl⟩
theorem ef_9 (m : MethodId) (x1 : Int32) (x2 : Int32) (x3 : Int32) : entryFrame m #[(.int (2 : Int32)), (.int x1), (.int x2), (.int x3)] 4 = mkF m 0 #[vi (2 : Int32), vi x1, vi x2, vi x3] [] := by first | (simp [entryFrame, mkF, argsToLocals, Value.category]; done) | rfl
theorem d7_15 : decode method_3_code 15 = .ok (.iload_n 0, 1) := by decide +kernel
theorem d7_16 : decode method_3_code 16 = .ok (.iconst 2, 1) := by decide +kernel
theorem d7_17 : decode method_3_code 17 = .ok (.if_icmp .ne 6, 3) := by decide +kernel
theorem d7_20 : decode method_3_code 20 = .ok (.iload_n 3, 1) := by decide +kernel
theorem d7_21 : decode method_3_code 21 = .ok (.i2d, 1) := by decide +kernel
theorem d7_22 : decode method_3_code 22 = .ok (.dreturn, 1) := by decide +kernel
def Q_rmE2 (Z : State) (p1 : Int32) (p2 : Int32) (p3 : Int32) (h0 : Heap) (n0 : Nat) (v : Option Value) (h : Heap) (L : List Loc) : Prop := (v = some (.double (FP.i2d p3)) ∧ Fr n0 L ∧ h = h0)
set_option maxRecDepth 65536 in
set_option maxHeartbeats 40000000 in
theorem rmE2 (l : Launch) (Z : State) (a0 : Array Value) (hw : ∀ d ∈ tables_1, d.before a0 Z = true) (ws : List Jvm.Cond) (p1 : Int32) (p2 : Int32) (p3 : Int32) (h0 : Heap) (n0 : Nat) (Z0 : n0 ≤ h0.size) :
    MetFree l (⟨"org/quarrel/model/DistributionProbabilityPinLaw", "expected", "(IIII)D"⟩ : MethodName) (head1 (Jvm.Cond.code (⟨"org/quarrel/model/DistributionProbabilityPinLaw", "expected", "(IIII)D"⟩ : MethodName) method_3_code 4 (some .double) :: ws) ({ frames := 0, cells := 0, slots := 0, locals := 0 } : Room)) (fun a U => a = #[(.int (2 : Int32)), (.int p1), (.int p2), (.int p3)] ∧ Z.Warmed39 U.vm ∧ U.heap = h0) (fun _ _ _ _ _ => True) (fun _ U o U' => ∃ v L, o = .returned v ∧ Q_rmE2 Z p1 p2 p3 h0 n0 v U'.heap L ∧ FrameEnd U o U' L ({ frames := 0, cells := 0, slots := 0, locals := 0 } : Room).cells ({ frames := 0, cells := 0, slots := 0, locals := 0 } : Room).slots) := by
  refine MetFree.of_bodySF (plainFor_of_name pn_2) hisR ?_
  intro p e s m args below meth c s₁ Bd hml0 hP hK
  obtain ⟨rfl, hZ, hh⟩ := hP
  have hx := Bd.exec
  have hby := Bd.bytes
  have hml : c.maxLocals = 4 := hml0
  have hown : s.vm.findClass "org/quarrel/model/DistributionProbabilityPinLaw" = some m.cls := findClass_of_methodNamed Bd.named
  have hnm := (name_of_methodNamed Bd.named Bd.method).1
  have X0 : Stand p l e ({ frames := 0, cells := 0, slots := 0, locals := 0 } : Room) s m #[(.int (2 : Int32)), (.int p1), (.int p2), (.int p3)] below meth c s₁ [] 0 0 := Stand.of_body Bd
  have e0 : s₁.heap = h0 := by rw [← hh, Bd.state]; rfl
  have N0 := Fr.nil n0
  have pre0 : ∀ t, Steps p.tables e below (s₁.setTop (mkF m 0 #[vi (2 : Int32), vi p1, vi p2, vi p3] [])) t → Steps p.tables e below (s₁.setTop (entryFrame m #[(.int (2 : Int32)), (.int p1), (.int p2), (.int p3)] 4)) t := fun t k => castTop (ef_9 m p1 p2 p3) k
  obtain ⟨fs, hr, hrun, hended, hW, hsame⟩ := X0.leave (v := some (.double (FP.i2d p3))) (fun h => by rw [Bd.returns] at h; cases h)
  refine ⟨_, _, pre0 _ ?_, hrun, hended, _, _, rfl, ?_, ⟨_, rfl⟩, hW, hsame.mono (by decide) (by decide)⟩
  · show SS p e below s₁ (mkF m 0 #[vi (2 : Int32), vi p1, vi p2, vi p3] []) _
    refine XS.iloadN X0.here hx rfl (hb hby d7_0) rfl ?_
    show SS p e below s₁ (mkF m 1 #[vi (2 : Int32), vi p1, vi p2, vi p3] [(.int (2 : Int32))]) _
    refine XS.ifYes X0.here hx rfl (pc0 := 1) (pc' := 7) rfl (hb hby d7_1) rfl ((if0 _ _).trans (feq (by decide : ¬ ((2 : Int32) = (0 : Int32)))).2) (by decide) (by decide) ?_
    show SS p e below s₁ (mkF m 7 #[vi (2 : Int32), vi p1, vi p2, vi p3] []) _
    refine XS.iloadN X0.here hx rfl (hb hby d7_7) rfl ?_
    show SS p e below s₁ (mkF m 8 #[vi (2 : Int32), vi p1, vi p2, vi p3] [(.int (2 : Int32))]) _
    refine XS.iconst X0.here hx rfl (hb hby d7_8) ?_
    show SS p e below s₁ (mkF m 9 #[vi (2 : Int32), vi p1, vi p2, vi p3] [(.int (1 : Int32)), (.int (2 : Int32))]) _
    refine XS.icmpYes X0.here hx rfl (pc0 := 9) (pc' := 15) rfl (hb hby d7_9) rfl (feq (by decide : ¬ ((2 : Int32) = (1 : Int32)))).2 (by decide) (by decide) ?_
    show SS p e below s₁ (mkF m 15 #[vi (2 : Int32), vi p1, vi p2, vi p3] []) _
    refine XS.iloadN X0.here hx rfl (hb hby d7_15) rfl ?_
    show SS p e below s₁ (mkF m 16 #[vi (2 : Int32), vi p1, vi p2, vi p3] [(.int (2 : Int32))]) _
    refine XS.iconst X0.here hx rfl (hb hby d7_16) ?_
    show SS p e below s₁ (mkF m 17 #[vi (2 : Int32), vi p1, vi p2, vi p3] [(.int (2 : Int32)), (.int (2 : Int32))]) _
    refine XS.icmpNo X0.here hx rfl (hb hby d7_17) rfl (teq (by decide : (2 : Int32) = (2 : Int32))).2 ?_
    show SS p e below s₁ (mkF m 20 #[vi (2 : Int32), vi p1, vi p2, vi p3] []) _
    refine XS.iloadN X0.here hx rfl (hb hby d7_20) rfl ?_
    show SS p e below s₁ (mkF m 21 #[vi (2 : Int32), vi p1, vi p2, vi p3] [(.int p3)]) _
    refine XS.i2dS X0.here hx rfl (hb hby d7_21) rfl (v := (FP.i2d p3)) rfl ?_
    show SS p e below s₁ (mkF m 22 #[vi (2 : Int32), vi p1, vi p2, vi p3] [(.double (FP.i2d p3))]) _
    exact retOut X0 hx Bd.returns rfl (Or.inr (Or.inr (Or.inl ⟨rfl, rfl, _, rfl⟩))) (hb hby d7_22) hr
  · show Q_rmE2 Z p1 p2 p3 h0 n0 _ s₁.heap _
    rw [e0]
    exact ⟨rfl, N0, rfl⟩
theorem ef_10 (m : MethodId) (x0 : Int32) (x1 : Int32) (x2 : Int32) (x3 : Int32) : entryFrame m #[(.int x0), (.int x1), (.int x2), (.int x3)] 4 = mkF m 0 #[vi x0, vi x1, vi x2, vi x3] [] := by first | (simp [entryFrame, mkF, argsToLocals, Value.category]; done) | rfl
theorem d7_23 : decode method_3_code 23 = .ok (.dconst 0, 1) := by decide +kernel
theorem d7_24 : decode method_3_code 24 = .ok (.dreturn, 1) := by decide +kernel
def Q_rmEn (Z : State) (p0 : Int32) (p1 : Int32) (p2 : Int32) (p3 : Int32) (h0 : Heap) (n0 : Nat) (v : Option Value) (h : Heap) (L : List Loc) : Prop := (v = some (.double (0 : UInt64)) ∧ Fr n0 L ∧ h = h0)
set_option maxRecDepth 65536 in
set_option maxHeartbeats 40000000 in
theorem rmEn (l : Launch) (Z : State) (a0 : Array Value) (hw : ∀ d ∈ tables_1, d.before a0 Z = true) (ws : List Jvm.Cond) (p0 : Int32) (p1 : Int32) (p2 : Int32) (p3 : Int32) (h0 : Heap) (n0 : Nat) (Z0 : n0 ≤ h0.size) (u0 : ¬ (p0 = (0 : Int32))) (u1 : ¬ (p0 = (1 : Int32))) (u2 : ¬ (p0 = (2 : Int32))) :
    MetFree l (⟨"org/quarrel/model/DistributionProbabilityPinLaw", "expected", "(IIII)D"⟩ : MethodName) (head1 (Jvm.Cond.code (⟨"org/quarrel/model/DistributionProbabilityPinLaw", "expected", "(IIII)D"⟩ : MethodName) method_3_code 4 (some .double) :: ws) ({ frames := 0, cells := 0, slots := 0, locals := 0 } : Room)) (fun a U => a = #[(.int p0), (.int p1), (.int p2), (.int p3)] ∧ Z.Warmed39 U.vm ∧ U.heap = h0) (fun _ _ _ _ _ => True) (fun _ U o U' => ∃ v L, o = .returned v ∧ Q_rmEn Z p0 p1 p2 p3 h0 n0 v U'.heap L ∧ FrameEnd U o U' L ({ frames := 0, cells := 0, slots := 0, locals := 0 } : Room).cells ({ frames := 0, cells := 0, slots := 0, locals := 0 } : Room).slots) := by
  refine MetFree.of_bodySF (plainFor_of_name pn_2) hisR ?_
  intro p e s m args below meth c s₁ Bd hml0 hP hK
  obtain ⟨rfl, hZ, hh⟩ := hP
  have hx := Bd.exec
  have hby := Bd.bytes
  have hml : c.maxLocals = 4 := hml0
  have hown : s.vm.findClass "org/quarrel/model/DistributionProbabilityPinLaw" = some m.cls := findClass_of_methodNamed Bd.named
  have hnm := (name_of_methodNamed Bd.named Bd.method).1
  have X0 : Stand p l e ({ frames := 0, cells := 0, slots := 0, locals := 0 } : Room) s m #[(.int p0), (.int p1), (.int p2), (.int p3)] below meth c s₁ [] 0 0 := Stand.of_body Bd
  have e0 : s₁.heap = h0 := by rw [← hh, Bd.state]; rfl
  have N0 := Fr.nil n0
  have pre0 : ∀ t, Steps p.tables e below (s₁.setTop (mkF m 0 #[vi p0, vi p1, vi p2, vi p3] [])) t → Steps p.tables e below (s₁.setTop (entryFrame m #[(.int p0), (.int p1), (.int p2), (.int p3)] 4)) t := fun t k => castTop (ef_10 m p0 p1 p2 p3) k
  obtain ⟨fs, hr, hrun, hended, hW, hsame⟩ := X0.leave (v := some (.double (0 : UInt64))) (fun h => by rw [Bd.returns] at h; cases h)
  refine ⟨_, _, pre0 _ ?_, hrun, hended, _, _, rfl, ?_, ⟨_, rfl⟩, hW, hsame.mono (by decide) (by decide)⟩
  · show SS p e below s₁ (mkF m 0 #[vi p0, vi p1, vi p2, vi p3] []) _
    refine XS.iloadN X0.here hx rfl (hb hby d7_0) rfl ?_
    show SS p e below s₁ (mkF m 1 #[vi p0, vi p1, vi p2, vi p3] [(.int p0)]) _
    refine XS.ifYes X0.here hx rfl (pc0 := 1) (pc' := 7) rfl (hb hby d7_1) rfl ((if0 _ _).trans (feq (u0 : ¬ (p0 = (0 : Int32)))).2) (by decide) (by decide) ?_
    show SS p e below s₁ (mkF m 7 #[vi p0, vi p1, vi p2, vi p3] []) _
    refine XS.iloadN X0.here hx rfl (hb hby d7_7) rfl ?_
    show SS p e below s₁ (mkF m 8 #[vi p0, vi p1, vi p2, vi p3] [(.int p0)]) _
    refine XS.iconst X0.here hx rfl (hb hby d7_8) ?_
    show SS p e below s₁ (mkF m 9 #[vi p0, vi p1, vi p2, vi p3] [(.int (1 : Int32)), (.int p0)]) _
    refine XS.icmpYes X0.here hx rfl (pc0 := 9) (pc' := 15) rfl (hb hby d7_9) rfl (feq (u1 : ¬ (p0 = (1 : Int32)))).2 (by decide) (by decide) ?_
    show SS p e below s₁ (mkF m 15 #[vi p0, vi p1, vi p2, vi p3] []) _
    refine XS.iloadN X0.here hx rfl (hb hby d7_15) rfl ?_
    show SS p e below s₁ (mkF m 16 #[vi p0, vi p1, vi p2, vi p3] [(.int p0)]) _
    refine XS.iconst X0.here hx rfl (hb hby d7_16) ?_
    show SS p e below s₁ (mkF m 17 #[vi p0, vi p1, vi p2, vi p3] [(.int (2 : Int32)), (.int p0)]) _
    refine XS.icmpYes X0.here hx rfl (pc0 := 17) (pc' := 23) rfl (hb hby d7_17) rfl (feq (u2 : ¬ (p0 = (2 : Int32)))).2 (by decide) (by decide) ?_
    show SS p e below s₁ (mkF m 23 #[vi p0, vi p1, vi p2, vi p3] []) _
    refine XS.dconst0 X0.here hx rfl (hb hby d7_23) (v := (0 : UInt64)) (by decide) ?_
    show SS p e below s₁ (mkF m 24 #[vi p0, vi p1, vi p2, vi p3] [(.double (0 : UInt64))]) _
    exact retOut X0 hx Bd.returns rfl (Or.inr (Or.inr (Or.inl ⟨rfl, rfl, _, rfl⟩))) (hb hby d7_24) hr
  · show Q_rmEn Z p0 p1 p2 p3 h0 n0 _ s₁.heap _
    rw [e0]
    exact ⟨rfl, N0, rfl⟩
theorem ef_11 (m : MethodId) (x0 : Int32) (x1 : Int32) (x2 : Int32) (x3 : Int32) (x4 : Int32) : entryFrame m #[(.int x0), (.int x1), (.int x2), (.int x3), (.int x4)] maxLocals = mkF m 0 #[vi x0, vi x1, vi x2, vi x3, vi x4, uu, uu, uu, uu, uu, uu, uu, uu, uu] [] := by first | (simp [entryFrame, mkF, argsToLocals, Value.category, maxLocals]; done) | rfl
theorem pd_3 : parseMethodDescriptor "([DD)V" = some ⟨[(.array .double), .double], none⟩ := by decide +kernel
theorem pd_4 : parseMethodDescriptor "(I)D" = some ⟨[.int], some .double⟩ := by decide +kernel
theorem pd_5 : parseMethodDescriptor "(IIII)D" = some ⟨[.int, .int, .int, .int], some .double⟩ := by decide +kernel
def Q_rm0 (Z : State) (p0 : Int32) (p1 : Int32) (p2 : Int32) (p3 : Int32) (p4 : Int32) (w0 : Int32) (w1 : Int32) (w2 : Int32) (vt : Int32) (vn : Int32) (h0 : Heap) (n0 : Nat) (v : Option Value) (h : Heap) (L : List Loc) : Prop := (v = some (.int 1) ∧ Fr n0 L)
set_option maxRecDepth 65536 in
set_option maxHeartbeats 40000000 in
theorem rm0 (l : Launch) (Z : State) (a0 : Array Value) (hw : ∀ d ∈ tables_1, d.before a0 Z = true) (ws : List Jvm.Cond) (p0 : Int32) (p1 : Int32) (p2 : Int32) (p3 : Int32) (p4 : Int32) (w0 : Int32) (w1 : Int32) (w2 : Int32) (vt : Int32) (vn : Int32) (h0 : Heap) (n0 : Nat) (Z0 : n0 ≤ h0.size) (ud0 : (p0 &&& (1023 : Int32)) = w0) (ud1 : (p1 &&& (1023 : Int32)) = w1) (ud2 : (p2 &&& (1023 : Int32)) = w2) (ue : ((p3 &&& (1023 : Int32)) + (1 : Int32)) = vt) (unz : vt ≠ 0) (uv : (p4 &&& (3 : Int32)) = vn) (uz0 : 0 ≤ (w0 * vt).toInt) (uz1 : 0 ≤ (w1 * vt).toInt) (uz2 : 0 ≤ (w2 * vt).toInt) (ud_0 : FP.ddiv (FP.i2d (w0 * vt)) (FP.i2d vt) = FP.i2d w0) (ud_1 : FP.ddiv (FP.i2d (w1 * vt)) (FP.i2d vt) = FP.i2d w1) (ud_2 : FP.ddiv (FP.i2d (w2 * vt)) (FP.i2d vt) = FP.i2d w2) (un4 : vn = (0 : Int32) ∨ vn = (1 : Int32) ∨ vn = (2 : Int32) ∨ vn = (3 : Int32)) (uc5 : p4 = (0 : Int32) ∨ p4 = (1 : Int32) ∨ p4 = (2 : Int32) ∨ (p4 < (0 : Int32) ∧ ¬ (p4 = (0 : Int32)) ∧ ¬ (p4 = (1 : Int32)) ∧ ¬ (p4 = (2 : Int32))) ∨ (¬ (p4 < (0 : Int32)) ∧ ¬ (p4 < (3 : Int32)) ∧ ¬ (p4 = (0 : Int32)) ∧ ¬ (p4 = (1 : Int32)) ∧ ¬ (p4 = (2 : Int32)))) :
    MetFree l x (head1 (Jvm.Cond.code x code maxLocals ret :: ws) room_1) (fun a U => a = #[(.int p0), (.int p1), (.int p2), (.int p3), (.int p4)] ∧ Z.Warmed39 U.vm ∧ U.heap = h0) (fun _ _ _ _ _ => True) (fun _ U o U' => ∃ v L, o = .returned v ∧ Q_rm0 Z p0 p1 p2 p3 p4 w0 w1 w2 vt vn h0 n0 v U'.heap L ∧ FrameEnd U o U' L room_1.cells room_1.slots) := by
  refine MetFree.of_bodySF (plainFor_of_name pn_2) hisR ?_
  intro p e s m args below meth c s₁ Bd hml0 hP hK
  obtain ⟨rfl, hZ, hh⟩ := hP
  have hx := Bd.exec
  have hby := Bd.bytes
  have hml : c.maxLocals = 14 := hml0
  have hown : s.vm.findClass "org/quarrel/model/DistributionProbabilityPinLaw" = some m.cls := findClass_of_methodNamed Bd.named
  have hnm := (name_of_methodNamed Bd.named Bd.method).1
  have X0 : Stand p l e room_1 s m #[(.int p0), (.int p1), (.int p2), (.int p3), (.int p4)] below meth c s₁ [] 0 0 := Stand.of_body Bd
  have e0 : s₁.heap = h0 := by rw [← hh, Bd.state]; rfl
  have N0 := Fr.nil n0
  have pre0 : ∀ t, Steps p.tables e below (s₁.setTop (mkF m 0 #[vi p0, vi p1, vi p2, vi p3, vi p4, uu, uu, uu, uu, uu, uu, uu, uu, uu] [])) t → Steps p.tables e below (s₁.setTop (entryFrame m #[(.int p0), (.int p1), (.int p2), (.int p3), (.int p4)] maxLocals)) t := fun t k => castTop (ef_11 m p0 p1 p2 p3 p4) k
  obtain ⟨T1, h1, k1, X1, e1, E1, A1, AX1, st1⟩ := newPE X0 hx hZ (wd hw 0 rfl) e0 (g := (mkF m 31 #[vi p0, vi p1, vi p2, vi p3, vi p4, vi w0, vi w1, vi w2, vi vt, uu, uu, uu, uu, uu] [(.int (3 : Int32))])) rfl (hb hby at_31) rfl (by decide) (cap := 3) (by decide) (by decide) (by decide) (by decide) (ad := "[D") (by decide)
  obtain ⟨b1, g1⟩ : ∃ z, z = h0.size := ⟨_, rfl⟩
  rw [← g1] at A1 AX1 st1
  have V1 : Arv Z h1 b1 k1 .double (3 : Int32) [(.double 0), (.double 0), (.double 0)] (.double 0) := (Arv.new A1 (by decide)).pad (pad_rep [] (.double 0) 3)
  have g_b1 : n0 ≤ b1 := Nat.le_trans Z0 (Nat.le_of_eq g1.symm)
  have sz_b1 : h0.size ≤ b1 := Nat.le_trans (Keep.refl h0 []).1 (Nat.le_of_eq g1.symm)
  have K1 : Keep h0 h1 [] := (Keep.refl h0 []).ext E1
  have Z1 : n0 ≤ h1.size := Nat.le_trans Z0 E1.1
  obtain ⟨cl2, Ar2, q2, S2, Nn2, H2, G2⟩ := (id V1)
  have hin2 : ¬ ((0 : Int32) < 0 ∨ cl2.slots.size ≤ ((0 : Int32)).toNatClampNeg) := inb_of S2 ⟨by decide, by decide⟩
  obtain ⟨T2, h2, X2, e2, W2, st2⟩ := stD X1 hx hZ e1 Ar2 (j := (0 : Int32)) hin2 (g := (mkF m 44 #[vi p0, vi p1, vi p2, vi p3, vi p4, vi w0, vi w1, vi w2, vi vt, vr b1, uu, uu, uu, uu] [(.double (FP.i2d (w0 * vt))), (.int (0 : Int32)), (.ref b1)])) rfl rfl (hb hby at_44)
  have V2 : Arv Z h2 b1 k1 .double (3 : Int32) [(.double (FP.i2d (w0 * vt))), (.double 0), (.double 0)] (.double 0) := Arv.set Ar2 q2 S2 Nn2 H2 G2 rfl W2 0 rfl (Nat.le_of_ble_eq_true rfl)
  have N2 := Fr.snoc X2 N0 g_b1
  have K2 : Keep h0 h2 [] := K1.wr W2 (Or.inr sz_b1)
  have Z2 : n0 ≤ h2.size := by rw [W2.size]; exact Z1
  obtain ⟨cl3, Ar3, q3, S3, Nn3, H3, G3⟩ := (id V2)
  have hin3 : ¬ ((1 : Int32) < 0 ∨ cl3.slots.size ≤ ((1 : Int32)).toNatClampNeg) := inb_of S3 ⟨by decide, by decide⟩
  obtain ⟨T3, h3, X3, e3, W3, st3⟩ := stD X2 hx hZ e2 Ar3 (j := (1 : Int32)) hin3 (g := (mkF m 54 #[vi p0, vi p1, vi p2, vi p3, vi p4, vi w0, vi w1, vi w2, vi vt, vr b1, uu, uu, uu, uu] [(.double (FP.i2d (w1 * vt))), (.int (1 : Int32)), (.ref b1)])) rfl rfl (hb hby at_54)
  have V3 : Arv Z h3 b1 k1 .double (3 : Int32) [(.double (FP.i2d (w0 * vt))), (.double (FP.i2d (w1 * vt))), (.double 0)] (.double 0) := Arv.set Ar3 q3 S3 Nn3 H3 G3 rfl W3 1 rfl (Nat.le_of_ble_eq_true rfl)
  have N3 := Fr.snoc X3 N2 g_b1
  have K3 : Keep h0 h3 [] := K2.wr W3 (Or.inr sz_b1)
  have Z3 : n0 ≤ h3.size := by rw [W3.size]; exact Z2
  obtain ⟨cl4, Ar4, q4, S4, Nn4, H4, G4⟩ := (id V3)
  have hin4 : ¬ ((2 : Int32) < 0 ∨ cl4.slots.size ≤ ((2 : Int32)).toNatClampNeg) := inb_of S4 ⟨by decide, by decide⟩
  obtain ⟨T4, h4, X4, e4, W4, st4⟩ := stD X3 hx hZ e3 Ar4 (j := (2 : Int32)) hin4 (g := (mkF m 64 #[vi p0, vi p1, vi p2, vi p3, vi p4, vi w0, vi w1, vi w2, vi vt, vr b1, uu, uu, uu, uu] [(.double (FP.i2d (w2 * vt))), (.int (2 : Int32)), (.ref b1)])) rfl rfl (hb hby at_64)
  have V4 : Arv Z h4 b1 k1 .double (3 : Int32) [(.double (FP.i2d (w0 * vt))), (.double (FP.i2d (w1 * vt))), (.double (FP.i2d (w2 * vt)))] (.double 0) := Arv.set Ar4 q4 S4 Nn4 H4 G4 rfl W4 2 rfl (Nat.le_of_ble_eq_true rfl)
  have N4 := Fr.snoc X4 N3 g_b1
  have K4 : Keep h0 h4 [] := K3.wr W4 (Or.inr sz_b1)
  have Z4 : n0 ≤ h4.size := by rw [W4.size]; exact Z3
  obtain ⟨T5, h5, X5, e5, E5, A5, D5, Un5, st5⟩ := newO X4 hx hZ hown (wd hw 1 rfl) (wd hw 2 rfl) (wd hw 3 rfl) e4 (g := (mkF m 65 #[vi p0, vi p1, vi p2, vi p3, vi p4, vi w0, vi w1, vi w2, vi vt, vr b1, uu, uu, uu, uu] [])) rfl (hb hby at_65) (by decide) (by decide)
  obtain ⟨b5, g5⟩ : ∃ z, z = h4.size := ⟨_, rfl⟩
  rw [← g5] at A5 D5 Un5 st5
  have ne_b1_b5 : b1 ≠ b5 := Nat.ne_of_lt (Nat.lt_of_lt_of_le V4.lt (Nat.le_of_eq g5.symm))
  have F5_weights : Fld Z h5 b5 "org/quarrel/model/Distribution" "weights" "[D" .null := D5 (Or.inr (wd hw 32 rfl)) (ty := (.array .double)) (by decide)
  have F5_total : Fld Z h5 b5 "org/quarrel/model/Distribution" "total" "D" (.double 0) := D5 (Or.inr (wd hw 34 rfl)) (ty := .double) (by decide)
  have g_b5 : n0 ≤ b5 := Nat.le_trans Z4 (Nat.le_of_eq g5.symm)
  have sz_b5 : h0.size ≤ b5 := Nat.le_trans K4.1 (Nat.le_of_eq g5.symm)
  have K5 : Keep h0 h5 [] := K4.ext E5
  have Z5 : n0 ≤ h5.size := Nat.le_trans Z4 E5.1
  have c7 := ((((AX1.wr W2).wr W3).wr W4).ext E5)
  have c8 := (V4.ext E5)
  obtain ⟨_, _, ⟨T6, L6, k6, n6⟩, -, X6, ⟨Lc6, hQ6, l6, y6, z6⟩, st6⟩ := X5.specialBack hx (y := (⟨"org/quarrel/model/Distribution", "<init>", "([DD)V"⟩ : MethodName)) rfl hown (mvT hZ (wd hw 4 rfl)) (mvT hZ (wd hw 5 rfl)) (mvT hZ (wd hw 6 rfl)) (by decide) (backOf (W := 1) (rmI l Z a0 hw [] b5 b1 (FP.i2d vt) k1 (w0 * vt) (w1 * vt) (w2 * vt) h5 n0 Z5 A5 F5_weights F5_total g_b5 c7 c8 uz0 uz1 uz2) hZ (wd hw 6 rfl) (wd hw 3 rfl) (by decide) (by decide)) (g := (mkF m 74 #[vi p0, vi p1, vi p2, vi p3, vi p4, vi w0, vi w1, vi w2, vi vt, vr b1, uu, uu, uu, uu] [(.double (FP.i2d vt)), (.ref b1), (.ref b5), (.ref b5)])) rfl (by rw [hml]; rfl) (Steps.refl _) (a := b5) (argsL := [(.ref b1), (.double (FP.i2d vt))]) (rest := [(.ref b5)]) (lenOf pd_3 rfl) rfl (by show 2 * 0 + _ ≤ _; exact Nat.le_of_eq rfl) (hb hby at_74) (fun _ _ => ⟨rfl, e5, (by decide : 2 + 1 ≤ _), (by decide : 5 + 3 ≤ _)⟩)
  dsimp only [Pt.U, Pt.locs, Pt.cells, Pt.slots] at X6 l6 y6 z6 st6 hQ6
  subst l6 y6 z6
  obtain ⟨nb_6, rfl, Nq6, Kq6, f6_0, f6_1, f6_2, f6_3, f6_4⟩ := hQ6
  have N6 := Fr.app N4 Nq6
  have ne_b1_nb_6 : b1 ≠ nb_6 := Nat.ne_of_lt (Nat.lt_of_lt_of_le c8.lt f6_3)
  have ne_b5_nb_6 : b5 ≠ nb_6 := Nat.ne_of_lt (Nat.lt_of_lt_of_le A5.lt f6_3)
  have g_nb_6 : n0 ≤ nb_6 := Nat.le_trans Z5 f6_3
  have sz_nb_6 : h0.size ≤ nb_6 := Nat.le_trans K5.1 f6_3
  have K6 : Keep h0 T6.heap [] := K5.trans Kq6 (allS (Or.inr sz_b5) all0)
  have Z6 : n0 ≤ T6.heap.size := Nat.le_trans Z5 Kq6.1
  have sg9 : ∀ target, SS p e below T6 (mkF m 89 #[vi p0, vi p1, vi p2, vi p3, vi p4, vi w0, vi w1, vi w2, vi vt, vr b1, vr b5, vi vn, uu, uu] [(.int p4), (.ref b5)]) target → SS p e below s₁ (mkF m 0 #[vi p0, vi p1, vi p2, vi p3, vi p4, uu, uu, uu, uu, uu, uu, uu, uu, uu] []) target := by
    intro target kt
    show SS p e below s₁ (mkF m 0 #[vi p0, vi p1, vi p2, vi p3, vi p4, uu, uu, uu, uu, uu, uu, uu, uu, uu] []) _
    refine XS.iloadN X0.here hx rfl (hb hby at_0) rfl ?_
    show SS p e below s₁ (mkF m 1 #[vi p0, vi p1, vi p2, vi p3, vi p4, uu, uu, uu, uu, uu, uu, uu, uu, uu] [(.int p0)]) _
    refine XS.sipush X0.here hx rfl (hb hby at_1) ?_
    show SS p e below s₁ (mkF m 4 #[vi p0, vi p1, vi p2, vi p3, vi p4, uu, uu, uu, uu, uu, uu, uu, uu, uu] [(.int (1023 : Int32)), (.int p0)]) _
    refine XS.iand X0.here hx rfl (hb hby at_4) rfl ?_
    show SS p e below s₁ (mkF m 5 #[vi p0, vi p1, vi p2, vi p3, vi p4, uu, uu, uu, uu, uu, uu, uu, uu, uu] [(.int (p0 &&& (1023 : Int32)))]) _
    rw [ud0]
    show SS p e below s₁ (mkF m 5 #[vi p0, vi p1, vi p2, vi p3, vi p4, uu, uu, uu, uu, uu, uu, uu, uu, uu] [(.int w0)]) _
    refine XS.istore X0.here hx rfl (hb hby at_5) rfl (l' := #[vi p0, vi p1, vi p2, vi p3, vi p4, vi w0, uu, uu, uu, uu, uu, uu, uu, uu]) rfl ?_
    show SS p e below s₁ (mkF m 7 #[vi p0, vi p1, vi p2, vi p3, vi p4, vi w0, uu, uu, uu, uu, uu, uu, uu, uu] []) _
    refine XS.iloadN X0.here hx rfl (hb hby at_7) rfl ?_
    show SS p e below s₁ (mkF m 8 #[vi p0, vi p1, vi p2, vi p3, vi p4, vi w0, uu, uu, uu, uu, uu, uu, uu, uu] [(.int p1)]) _
    refine XS.sipush X0.here hx rfl (hb hby at_8) ?_
    show SS p e below s₁ (mkF m 11 #[vi p0, vi p1, vi p2, vi p3, vi p4, vi w0, uu, uu, uu, uu, uu, uu, uu, uu] [(.int (1023 : Int32)), (.int p1)]) _
    refine XS.iand X0.here hx rfl (hb hby at_11) rfl ?_
    show SS p e below s₁ (mkF m 12 #[vi p0, vi p1, vi p2, vi p3, vi p4, vi w0, uu, uu, uu, uu, uu, uu, uu, uu] [(.int (p1 &&& (1023 : Int32)))]) _
    rw [ud1]
    show SS p e below s₁ (mkF m 12 #[vi p0, vi p1, vi p2, vi p3, vi p4, vi w0, uu, uu, uu, uu, uu, uu, uu, uu] [(.int w1)]) _
    refine XS.istore X0.here hx rfl (hb hby at_12) rfl (l' := #[vi p0, vi p1, vi p2, vi p3, vi p4, vi w0, vi w1, uu, uu, uu, uu, uu, uu, uu]) rfl ?_
    show SS p e below s₁ (mkF m 14 #[vi p0, vi p1, vi p2, vi p3, vi p4, vi w0, vi w1, uu, uu, uu, uu, uu, uu, uu] []) _
    refine XS.iloadN X0.here hx rfl (hb hby at_14) rfl ?_
    show SS p e below s₁ (mkF m 15 #[vi p0, vi p1, vi p2, vi p3, vi p4, vi w0, vi w1, uu, uu, uu, uu, uu, uu, uu] [(.int p2)]) _
    refine XS.sipush X0.here hx rfl (hb hby at_15) ?_
    show SS p e below s₁ (mkF m 18 #[vi p0, vi p1, vi p2, vi p3, vi p4, vi w0, vi w1, uu, uu, uu, uu, uu, uu, uu] [(.int (1023 : Int32)), (.int p2)]) _
    refine XS.iand X0.here hx rfl (hb hby at_18) rfl ?_
    show SS p e below s₁ (mkF m 19 #[vi p0, vi p1, vi p2, vi p3, vi p4, vi w0, vi w1, uu, uu, uu, uu, uu, uu, uu] [(.int (p2 &&& (1023 : Int32)))]) _
    rw [ud2]
    show SS p e below s₁ (mkF m 19 #[vi p0, vi p1, vi p2, vi p3, vi p4, vi w0, vi w1, uu, uu, uu, uu, uu, uu, uu] [(.int w2)]) _
    refine XS.istore X0.here hx rfl (hb hby at_19) rfl (l' := #[vi p0, vi p1, vi p2, vi p3, vi p4, vi w0, vi w1, vi w2, uu, uu, uu, uu, uu, uu]) rfl ?_
    show SS p e below s₁ (mkF m 21 #[vi p0, vi p1, vi p2, vi p3, vi p4, vi w0, vi w1, vi w2, uu, uu, uu, uu, uu, uu] []) _
    refine XS.iloadN X0.here hx rfl (hb hby at_21) rfl ?_
    show SS p e below s₁ (mkF m 22 #[vi p0, vi p1, vi p2, vi p3, vi p4, vi w0, vi w1, vi w2, uu, uu, uu, uu, uu, uu] [(.int p3)]) _
    refine XS.sipush X0.here hx rfl (hb hby at_22) ?_
    show SS p e below s₁ (mkF m 25 #[vi p0, vi p1, vi p2, vi p3, vi p4, vi w0, vi w1, vi w2, uu, uu, uu, uu, uu, uu] [(.int (1023 : Int32)), (.int p3)]) _
    refine XS.iand X0.here hx rfl (hb hby at_25) rfl ?_
    show SS p e below s₁ (mkF m 26 #[vi p0, vi p1, vi p2, vi p3, vi p4, vi w0, vi w1, vi w2, uu, uu, uu, uu, uu, uu] [(.int (p3 &&& (1023 : Int32)))]) _
    refine XS.iconst X0.here hx rfl (hb hby at_26) ?_
    show SS p e below s₁ (mkF m 27 #[vi p0, vi p1, vi p2, vi p3, vi p4, vi w0, vi w1, vi w2, uu, uu, uu, uu, uu, uu] [(.int (1 : Int32)), (.int (p3 &&& (1023 : Int32)))]) _
    refine XS.iadd X0.here hx rfl (hb hby at_27) rfl ?_
    show SS p e below s₁ (mkF m 28 #[vi p0, vi p1, vi p2, vi p3, vi p4, vi w0, vi w1, vi w2, uu, uu, uu, uu, uu, uu] [(.int ((p3 &&& (1023 : Int32)) + (1 : Int32)))]) _
    rw [ue]
    show SS p e below s₁ (mkF m 28 #[vi p0, vi p1, vi p2, vi p3, vi p4, vi w0, vi w1, vi w2, uu, uu, uu, uu, uu, uu] [(.int vt)]) _
    refine XS.istore X0.here hx rfl (hb hby at_28) rfl (l' := #[vi p0, vi p1, vi p2, vi p3, vi p4, vi w0, vi w1, vi w2, vi vt, uu, uu, uu, uu, uu]) rfl ?_
    show SS p e below s₁ (mkF m 30 #[vi p0, vi p1, vi p2, vi p3, vi p4, vi w0, vi w1, vi w2, vi vt, uu, uu, uu, uu, uu] []) _
    refine XS.iconst X0.here hx rfl (hb hby at_30) ?_
    show SS p e below s₁ (mkF m 31 #[vi p0, vi p1, vi p2, vi p3, vi p4, vi w0, vi w1, vi w2, vi vt, uu, uu, uu, uu, uu] [(.int (3 : Int32))]) _
    refine st1 _ ?_
    show SS p e below T1 (mkF m 33 #[vi p0, vi p1, vi p2, vi p3, vi p4, vi w0, vi w1, vi w2, vi vt, uu, uu, uu, uu, uu] [(.ref b1)]) _
    refine XS.astore X1.here hx rfl (hb hby at_33) rfl rfl (l' := #[vi p0, vi p1, vi p2, vi p3, vi p4, vi w0, vi w1, vi w2, vi vt, vr b1, uu, uu, uu, uu]) rfl ?_
    show SS p e below T1 (mkF m 35 #[vi p0, vi p1, vi p2, vi p3, vi p4, vi w0, vi w1, vi w2, vi vt, vr b1, uu, uu, uu, uu] []) _
    refine XS.aload X1.here hx rfl (hb hby at_35) rfl rfl ?_
    show SS p e below T1 (mkF m 37 #[vi p0, vi p1, vi p2, vi p3, vi p4, vi w0, vi w1, vi w2, vi vt, vr b1, uu, uu, uu, uu] [(.ref b1)]) _
    refine XS.iconst X1.here hx rfl (hb hby at_37) ?_
    show SS p e below T1 (mkF m 38 #[vi p0, vi p1, vi p2, vi p3, vi p4, vi w0, vi w1, vi w2, vi vt, vr b1, uu, uu, uu, uu] [(.int (0 : Int32)), (.ref b1)]) _
    refine XS.iload X1.here hx rfl (hb hby at_38) rfl ?_
    show SS p e below T1 (mkF m 40 #[vi p0, vi p1, vi p2, vi p3, vi p4, vi w0, vi w1, vi w2, vi vt, vr b1, uu, uu, uu, uu] [(.int w0), (.int (0 : Int32)), (.ref b1)]) _
    refine XS.iload X1.here hx rfl (hb hby at_40) rfl ?_
    show SS p e below T1 (mkF m 42 #[vi p0, vi p1, vi p2, vi p3, vi p4, vi w0, vi w1, vi w2, vi vt, vr b1, uu, uu, uu, uu] [(.int vt), (.int w0), (.int (0 : Int32)), (.ref b1)]) _
    refine XS.imul X1.here hx rfl (hb hby at_42) rfl ?_
    show SS p e below T1 (mkF m 43 #[vi p0, vi p1, vi p2, vi p3, vi p4, vi w0, vi w1, vi w2, vi vt, vr b1, uu, uu, uu, uu] [(.int (w0 * vt)), (.int (0 : Int32)), (.ref b1)]) _
    refine XS.i2dS X1.here hx rfl (hb hby at_43) rfl (v := (FP.i2d (w0 * vt))) rfl ?_
    show SS p e below T1 (mkF m 44 #[vi p0, vi p1, vi p2, vi p3, vi p4, vi w0, vi w1, vi w2, vi vt, vr b1, uu, uu, uu, uu] [(.double (FP.i2d (w0 * vt))), (.int (0 : Int32)), (.ref b1)]) _
    refine st2 _ ?_
    show SS p e below T2 (mkF m 45 #[vi p0, vi p1, vi p2, vi p3, vi p4, vi w0, vi w1, vi w2, vi vt, vr b1, uu, uu, uu, uu] []) _
    refine XS.aload X2.here hx rfl (hb hby at_45) rfl rfl ?_
    show SS p e below T2 (mkF m 47 #[vi p0, vi p1, vi p2, vi p3, vi p4, vi w0, vi w1, vi w2, vi vt, vr b1, uu, uu, uu, uu] [(.ref b1)]) _
    refine XS.iconst X2.here hx rfl (hb hby at_47) ?_
    show SS p e below T2 (mkF m 48 #[vi p0, vi p1, vi p2, vi p3, vi p4, vi w0, vi w1, vi w2, vi vt, vr b1, uu, uu, uu, uu] [(.int (1 : Int32)), (.ref b1)]) _
    refine XS.iload X2.here hx rfl (hb hby at_48) rfl ?_
    show SS p e below T2 (mkF m 50 #[vi p0, vi p1, vi p2, vi p3, vi p4, vi w0, vi w1, vi w2, vi vt, vr b1, uu, uu, uu, uu] [(.int w1), (.int (1 : Int32)), (.ref b1)]) _
    refine XS.iload X2.here hx rfl (hb hby at_50) rfl ?_
    show SS p e below T2 (mkF m 52 #[vi p0, vi p1, vi p2, vi p3, vi p4, vi w0, vi w1, vi w2, vi vt, vr b1, uu, uu, uu, uu] [(.int vt), (.int w1), (.int (1 : Int32)), (.ref b1)]) _
    refine XS.imul X2.here hx rfl (hb hby at_52) rfl ?_
    show SS p e below T2 (mkF m 53 #[vi p0, vi p1, vi p2, vi p3, vi p4, vi w0, vi w1, vi w2, vi vt, vr b1, uu, uu, uu, uu] [(.int (w1 * vt)), (.int (1 : Int32)), (.ref b1)]) _
    refine XS.i2dS X2.here hx rfl (hb hby at_53) rfl (v := (FP.i2d (w1 * vt))) rfl ?_
    show SS p e below T2 (mkF m 54 #[vi p0, vi p1, vi p2, vi p3, vi p4, vi w0, vi w1, vi w2, vi vt, vr b1, uu, uu, uu, uu] [(.double (FP.i2d (w1 * vt))), (.int (1 : Int32)), (.ref b1)]) _
    refine st3 _ ?_
    show SS p e below T3 (mkF m 55 #[vi p0, vi p1, vi p2, vi p3, vi p4, vi w0, vi w1, vi w2, vi vt, vr b1, uu, uu, uu, uu] []) _
    refine XS.aload X3.here hx rfl (hb hby at_55) rfl rfl ?_
    show SS p e below T3 (mkF m 57 #[vi p0, vi p1, vi p2, vi p3, vi p4, vi w0, vi w1, vi w2, vi vt, vr b1, uu, uu, uu, uu] [(.ref b1)]) _
    refine XS.iconst X3.here hx rfl (hb hby at_57) ?_
    show SS p e below T3 (mkF m 58 #[vi p0, vi p1, vi p2, vi p3, vi p4, vi w0, vi w1, vi w2, vi vt, vr b1, uu, uu, uu, uu] [(.int (2 : Int32)), (.ref b1)]) _
    refine XS.iload X3.here hx rfl (hb hby at_58) rfl ?_
    show SS p e below T3 (mkF m 60 #[vi p0, vi p1, vi p2, vi p3, vi p4, vi w0, vi w1, vi w2, vi vt, vr b1, uu, uu, uu, uu] [(.int w2), (.int (2 : Int32)), (.ref b1)]) _
    refine XS.iload X3.here hx rfl (hb hby at_60) rfl ?_
    show SS p e below T3 (mkF m 62 #[vi p0, vi p1, vi p2, vi p3, vi p4, vi w0, vi w1, vi w2, vi vt, vr b1, uu, uu, uu, uu] [(.int vt), (.int w2), (.int (2 : Int32)), (.ref b1)]) _
    refine XS.imul X3.here hx rfl (hb hby at_62) rfl ?_
    show SS p e below T3 (mkF m 63 #[vi p0, vi p1, vi p2, vi p3, vi p4, vi w0, vi w1, vi w2, vi vt, vr b1, uu, uu, uu, uu] [(.int (w2 * vt)), (.int (2 : Int32)), (.ref b1)]) _
    refine XS.i2dS X3.here hx rfl (hb hby at_63) rfl (v := (FP.i2d (w2 * vt))) rfl ?_
    show SS p e below T3 (mkF m 64 #[vi p0, vi p1, vi p2, vi p3, vi p4, vi w0, vi w1, vi w2, vi vt, vr b1, uu, uu, uu, uu] [(.double (FP.i2d (w2 * vt))), (.int (2 : Int32)), (.ref b1)]) _
    refine st4 _ ?_
    show SS p e below T4 (mkF m 65 #[vi p0, vi p1, vi p2, vi p3, vi p4, vi w0, vi w1, vi w2, vi vt, vr b1, uu, uu, uu, uu] []) _
    refine st5 _ ?_
    show SS p e below T5 (mkF m 68 #[vi p0, vi p1, vi p2, vi p3, vi p4, vi w0, vi w1, vi w2, vi vt, vr b1, uu, uu, uu, uu] [(.ref b5)]) _
    refine XS.dup X5.here hx rfl (hb hby at_68) rfl rfl ?_
    show SS p e below T5 (mkF m 69 #[vi p0, vi p1, vi p2, vi p3, vi p4, vi w0, vi w1, vi w2, vi vt, vr b1, uu, uu, uu, uu] [(.ref b5), (.ref b5)]) _
    refine XS.aload X5.here hx rfl (hb hby at_69) rfl rfl ?_
    show SS p e below T5 (mkF m 71 #[vi p0, vi p1, vi p2, vi p3, vi p4, vi w0, vi w1, vi w2, vi vt, vr b1, uu, uu, uu, uu] [(.ref b1), (.ref b5), (.ref b5)]) _
    refine XS.iload X5.here hx rfl (hb hby at_71) rfl ?_
    show SS p e below T5 (mkF m 73 #[vi p0, vi p1, vi p2, vi p3, vi p4, vi w0, vi w1, vi w2, vi vt, vr b1, uu, uu, uu, uu] [(.int vt), (.ref b1), (.ref b5), (.ref b5)]) _
    refine XS.i2dS X5.here hx rfl (hb hby at_73) rfl (v := (FP.i2d vt)) rfl ?_
    show SS p e below T5 (mkF m 74 #[vi p0, vi p1, vi p2, vi p3, vi p4, vi w0, vi w1, vi w2, vi vt, vr b1, uu, uu, uu, uu] [(.double (FP.i2d vt)), (.ref b1), (.ref b5), (.ref b5)]) _
    refine st6.trans ?_
    show SS p e below T6 (mkF m 77 #[vi p0, vi p1, vi p2, vi p3, vi p4, vi w0, vi w1, vi w2, vi vt, vr b1, uu, uu, uu, uu] [(.ref b5)]) _
    refine XS.astore X6.here hx rfl (hb hby at_77) rfl rfl (l' := #[vi p0, vi p1, vi p2, vi p3, vi p4, vi w0, vi w1, vi w2, vi vt, vr b1, vr b5, uu, uu, uu]) rfl ?_
    show SS p e below T6 (mkF m 79 #[vi p0, vi p1, vi p2, vi p3, vi p4, vi w0, vi w1, vi w2, vi vt, vr b1, vr b5, uu, uu, uu] []) _
    refine XS.iload X6.here hx rfl (hb hby at_79) rfl ?_
    show SS p e below T6 (mkF m 81 #[vi p0, vi p1, vi p2, vi p3, vi p4, vi w0, vi w1, vi w2, vi vt, vr b1, vr b5, uu, uu, uu] [(.int p4)]) _
    refine XS.iconst X6.here hx rfl (hb hby at_81) ?_
    show SS p e below T6 (mkF m 82 #[vi p0, vi p1, vi p2, vi p3, vi p4, vi w0, vi w1, vi w2, vi vt, vr b1, vr b5, uu, uu, uu] [(.int (3 : Int32)), (.int p4)]) _
    refine XS.iand X6.here hx rfl (hb hby at_82) rfl ?_
    show SS p e below T6 (mkF m 83 #[vi p0, vi p1, vi p2, vi p3, vi p4, vi w0, vi w1, vi w2, vi vt, vr b1, vr b5, uu, uu, uu] [(.int (p4 &&& (3 : Int32)))]) _
    rw [uv]
    show SS p e below T6 (mkF m 83 #[vi p0, vi p1, vi p2, vi p3, vi p4, vi w0, vi w1, vi w2, vi vt, vr b1, vr b5, uu, uu, uu] [(.int vn)]) _
    refine XS.istore X6.here hx rfl (hb hby at_83) rfl (l' := #[vi p0, vi p1, vi p2, vi p3, vi p4, vi w0, vi w1, vi w2, vi vt, vr b1, vr b5, vi vn, uu, uu]) rfl ?_
    show SS p e below T6 (mkF m 85 #[vi p0, vi p1, vi p2, vi p3, vi p4, vi w0, vi w1, vi w2, vi vt, vr b1, vr b5, vi vn, uu, uu] []) _
    refine XS.aload X6.here hx rfl (hb hby at_85) rfl rfl ?_
    show SS p e below T6 (mkF m 87 #[vi p0, vi p1, vi p2, vi p3, vi p4, vi w0, vi w1, vi w2, vi vt, vr b1, vr b5, vi vn, uu, uu] [(.ref b5)]) _
    refine XS.iload X6.here hx rfl (hb hby at_87) rfl ?_
    exact kt
  rcases uc5 with rfl | rfl | rfl | hl | hl
  · obtain ⟨cq10, kq10, q10a, q10b, q10c⟩ := isOf hZ rfl f6_0
    obtain ⟨_, _, ⟨T10, L10, k10, n10⟩, -, X10, ⟨Lc10, hQ10, l10, y10, z10⟩, st10⟩ := X6.virtualBack hx (y := (⟨"org/quarrel/model/Distribution", "probability", "(I)D"⟩ : MethodName)) (z := (⟨"org/quarrel/model/Distribution", "probability", "(I)D"⟩ : MethodName)) hown (mvT hZ (wd hw 35 rfl)) (mvT hZ (wd hw 36 rfl)) (notFace_of_selects (args := #[]) (mvT hZ (wd hw 38 rfl))) (mvT hZ (wd hw 38 rfl)) (mvT hZ (wd hw 37 rfl)) (by decide) (backOf (W := 0) (rmP0 l Z a0 hw [] b5 nb_6 k1 vt (w0 * vt) (w1 * vt) (w2 * vt) T6.heap n0 Z6 f6_1 f6_2 f6_4 unz) hZ (wd hw 39 rfl) (wd hw 3 rfl) (by decide) (by decide)) q10a q10c (g := (mkF m 89 #[vi p0, vi p1, vi p2, vi p3, vi (0 : Int32), vi w0, vi w1, vi w2, vi vt, vr b1, vr b5, vi vn, uu, uu] [(.int (0 : Int32)), (.ref b5)])) rfl (by rw [hml]; rfl) (Steps.refl _) (argsL := [(.int (0 : Int32))]) (rest := []) (lenOf pd_4 rfl) rfl (by show 2 * 0 + _ ≤ _; exact Nat.le_of_eq rfl) (hb hby at_89) (fun _ _ => ⟨rfl, rfl, (by decide : 3 + 0 ≤ _), (by decide : 8 + 0 ≤ _)⟩)
    dsimp only [Pt.U, Pt.locs, Pt.cells, Pt.slots] at X10 l10 y10 z10 st10 hQ10
    subst l10 y10 z10
    obtain ⟨rfl, Nq10, eh10⟩ := hQ10
    have N10 := Fr.app N6 Nq10
    obtain ⟨_, _, ⟨T11, L11, k11, n11⟩, -, X11, ⟨Lc11, hQ11, l11, y11, z11⟩, st11⟩ := Jvm.LawKit.callS X10 hx (y := (⟨"org/quarrel/model/DistributionProbabilityPinLaw", "expected", "(IIII)D"⟩ : MethodName)) hown (mvT hZ (wd hw 40 rfl)) (mvT hZ (wd hw 41 rfl)) (mvT hZ (wd hw 42 rfl)) (mvT hZ (wd hw 43 rfl)) (by decide) (backOf (W := 2) (rmE0 l Z a0 hw [] w0 w1 w2 T6.heap n0 Z6) hZ (wd hw 43 rfl) (wd hw 42 rfl) (by decide) (by decide)) (g := (mkF m 100 #[vi p0, vi p1, vi p2, vi p3, vi (0 : Int32), vi w0, vi w1, vi w2, vi vt, vr b1, vr b5, vi vn, uu, uu] [(.int w2), (.int w1), (.int w0), (.int (0 : Int32)), (.double (FP.ddiv (FP.i2d (w0 * vt)) (FP.i2d vt)))])) rfl (by rw [hml]; rfl) (argsL := [(.int (0 : Int32)), (.int w0), (.int w1), (.int w2)]) (rest := [(.double (FP.ddiv (FP.i2d (w0 * vt)) (FP.i2d vt)))]) (lenOf pd_5 rfl) rfl (by show 2 * 0 + _ ≤ _; exact Nat.le_of_eq rfl) (hb hby at_100) (fun _ _ => ⟨rfl, eh10, (by decide : 3 + 0 ≤ _), (by decide : 8 + 0 ≤ _)⟩)
    dsimp only [Pt.U, Pt.locs, Pt.cells, Pt.slots] at X11 l11 y11 z11 st11 hQ11
    subst l11 y11 z11
    obtain ⟨rfl, Nq11, eh11⟩ := hQ11
    have N11 := Fr.app N10 Nq11
    have sg12 : ∀ target, SS p e below T11 (mkF m 118 #[vi p0, vi p1, vi p2, vi p3, vi (0 : Int32), vi w0, vi w1, vi w2, vi vt, vr b1, vr b5, vi vn, vi (1 : Int32), uu] [(.int vn), (.ref b5)]) target → SS p e below T6 (mkF m 89 #[vi p0, vi p1, vi p2, vi p3, vi (0 : Int32), vi w0, vi w1, vi w2, vi vt, vr b1, vr b5, vi vn, uu, uu] [(.int (0 : Int32)), (.ref b5)]) target := by
      intro target kt
      show SS p e below T6 (mkF m 89 #[vi p0, vi p1, vi p2, vi p3, vi (0 : Int32), vi w0, vi w1, vi w2, vi vt, vr b1, vr b5, vi vn, uu, uu] [(.int (0 : Int32)), (.ref b5)]) _
      refine st10.trans ?_
      show SS p e below T10 (mkF m 92 #[vi p0, vi p1, vi p2, vi p3, vi (0 : Int32), vi w0, vi w1, vi w2, vi vt, vr b1, vr b5, vi vn, uu, uu] [(.double (FP.ddiv (FP.i2d (w0 * vt)) (FP.i2d vt)))]) _
      refine XS.iload X10.here hx rfl (hb hby at_92) rfl ?_
      show SS p e below T10 (mkF m 94 #[vi p0, vi p1, vi p2, vi p3, vi (0 : Int32), vi w0, vi w1, vi w2, vi vt, vr b1, vr b5, vi vn, uu, uu] [(.int (0 : Int32)), (.double (FP.ddiv (FP.i2d (w0 * vt)) (FP.i2d vt)))]) _
      refine XS.iload X10.here hx rfl (hb hby at_94) rfl ?_
      show SS p e below T10 (mkF m 96 #[vi p0, vi p1, vi p2, vi p3, vi (0 : Int32), vi w0, vi w1, vi w2, vi vt, vr b1, vr b5, vi vn, uu, uu] [(.int w0), (.int (0 : Int32)), (.double (FP.ddiv (FP.i2d (w0 * vt)) (FP.i2d vt)))]) _
      refine XS.iload X10.here hx rfl (hb hby at_96) rfl ?_
      show SS p e below T10 (mkF m 98 #[vi p0, vi p1, vi p2, vi p3, vi (0 : Int32), vi w0, vi w1, vi w2, vi vt, vr b1, vr b5, vi vn, uu, uu] [(.int w1), (.int w0), (.int (0 : Int32)), (.double (FP.ddiv (FP.i2d (w0 * vt)) (FP.i2d vt)))]) _
      refine XS.iload X10.here hx rfl (hb hby at_98) rfl ?_
      show SS p e below T10 (mkF m 100 #[vi p0, vi p1, vi p2, vi p3, vi (0 : Int32), vi w0, vi w1, vi w2, vi vt, vr b1, vr b5, vi vn, uu, uu] [(.int w2), (.int w1), (.int w0), (.int (0 : Int32)), (.double (FP.ddiv (FP.i2d (w0 * vt)) (FP.i2d vt)))]) _
      refine st11 _ ?_
      show SS p e below T11 (mkF m 103 #[vi p0, vi p1, vi p2, vi p3, vi (0 : Int32), vi w0, vi w1, vi w2, vi vt, vr b1, vr b5, vi vn, uu, uu] [(.double (FP.i2d w0)), (.double (FP.ddiv (FP.i2d (w0 * vt)) (FP.i2d vt)))]) _
      refine XS.dcmpS X11.here hx rfl (hb hby at_103) rfl (v := (0 : Int32)) (own_eq ud_0) ?_
      show SS p e below T11 (mkF m 104 #[vi p0, vi p1, vi p2, vi p3, vi (0 : Int32), vi w0, vi w1, vi w2, vi vt, vr b1, vr b5, vi vn, uu, uu] [(.int (0 : Int32))]) _
      refine XS.ifNo X11.here hx rfl (hb hby at_104) rfl ((if0 _ _).trans (teq (rfl : (0 : Int32) = (0 : Int32))).2) ?_
      show SS p e below T11 (mkF m 107 #[vi p0, vi p1, vi p2, vi p3, vi (0 : Int32), vi w0, vi w1, vi w2, vi vt, vr b1, vr b5, vi vn, uu, uu] []) _
      refine XS.iconst X11.here hx rfl (hb hby at_107) ?_
      show SS p e below T11 (mkF m 108 #[vi p0, vi p1, vi p2, vi p3, vi (0 : Int32), vi w0, vi w1, vi w2, vi vt, vr b1, vr b5, vi vn, uu, uu] [(.int (1 : Int32))]) _
      refine XS.goto X11.here hx rfl (pc0 := 108) (pc' := 112) rfl (hb hby at_108) (by decide) (by decide) ?_
      show SS p e below T11 (mkF m 112 #[vi p0, vi p1, vi p2, vi p3, vi (0 : Int32), vi w0, vi w1, vi w2, vi vt, vr b1, vr b5, vi vn, uu, uu] [(.int (1 : Int32))]) _
      refine XS.istore X11.here hx rfl (hb hby at_112) rfl (l' := #[vi p0, vi p1, vi p2, vi p3, vi (0 : Int32), vi w0, vi w1, vi w2, vi vt, vr b1, vr b5, vi vn, vi (1 : Int32), uu]) rfl ?_
      show SS p e below T11 (mkF m 114 #[vi p0, vi p1, vi p2, vi p3, vi (0 : Int32), vi w0, vi w1, vi w2, vi vt, vr b1, vr b5, vi vn, vi (1 : Int32), uu] []) _
      refine XS.aload X11.here hx rfl (hb hby at_114) rfl rfl ?_
      show SS p e below T11 (mkF m 116 #[vi p0, vi p1, vi p2, vi p3, vi (0 : Int32), vi w0, vi w1, vi w2, vi vt, vr b1, vr b5, vi vn, vi (1 : Int32), uu] [(.ref b5)]) _
      refine XS.iload X11.here hx rfl (hb hby at_116) rfl ?_
      exact kt
    rcases un4 with rfl | rfl | rfl | rfl
    · obtain ⟨cq13, kq13, q13a, q13b, q13c⟩ := isOf hZ eh11 f6_0
      obtain ⟨_, _, ⟨T13, L13, k13, n13⟩, -, X13, ⟨Lc13, hQ13, l13, y13, z13⟩, st13⟩ := X11.virtualBack hx (y := (⟨"org/quarrel/model/Distribution", "probability", "(I)D"⟩ : MethodName)) (z := (⟨"org/quarrel/model/Distribution", "probability", "(I)D"⟩ : MethodName)) hown (mvT hZ (wd hw 35 rfl)) (mvT hZ (wd hw 36 rfl)) (notFace_of_selects (args := #[]) (mvT hZ (wd hw 38 rfl))) (mvT hZ (wd hw 38 rfl)) (mvT hZ (wd hw 37 rfl)) (by decide) (backOf (W := 0) (rmP0 l Z a0 hw [] b5 nb_6 k1 vt (w0 * vt) (w1 * vt) (w2 * vt) T6.heap n0 Z6 f6_1 f6_2 f6_4 unz) hZ (wd hw 39 rfl) (wd hw 3 rfl) (by decide) (by decide)) q13a q13c (g := (mkF m 118 #[vi p0, vi p1, vi p2, vi p3, vi (0 : Int32), vi w0, vi w1, vi w2, vi vt, vr b1, vr b5, vi (0 : Int32), vi (1 : Int32), uu] [(.int (0 : Int32)), (.ref b5)])) rfl (by rw [hml]; rfl) (Steps.refl _) (argsL := [(.int (0 : Int32))]) (rest := []) (lenOf pd_4 rfl) rfl (by show 2 * 0 + _ ≤ _; exact Nat.le_of_eq rfl) (hb hby at_118) (fun _ _ => ⟨rfl, eh11, (by decide : 3 + 0 ≤ _), (by decide : 8 + 0 ≤ _)⟩)
      dsimp only [Pt.U, Pt.locs, Pt.cells, Pt.slots] at X13 l13 y13 z13 st13 hQ13
      subst l13 y13 z13
      obtain ⟨rfl, Nq13, eh13⟩ := hQ13
      have N13 := Fr.app N11 Nq13
      obtain ⟨_, _, ⟨T14, L14, k14, n14⟩, -, X14, ⟨Lc14, hQ14, l14, y14, z14⟩, st14⟩ := Jvm.LawKit.callS X13 hx (y := (⟨"org/quarrel/model/DistributionProbabilityPinLaw", "expected", "(IIII)D"⟩ : MethodName)) hown (mvT hZ (wd hw 40 rfl)) (mvT hZ (wd hw 41 rfl)) (mvT hZ (wd hw 42 rfl)) (mvT hZ (wd hw 43 rfl)) (by decide) (backOf (W := 2) (rmE0 l Z a0 hw [] w0 w1 w2 T6.heap n0 Z6) hZ (wd hw 43 rfl) (wd hw 42 rfl) (by decide) (by decide)) (g := (mkF m 129 #[vi p0, vi p1, vi p2, vi p3, vi (0 : Int32), vi w0, vi w1, vi w2, vi vt, vr b1, vr b5, vi (0 : Int32), vi (1 : Int32), uu] [(.int w2), (.int w1), (.int w0), (.int (0 : Int32)), (.double (FP.ddiv (FP.i2d (w0 * vt)) (FP.i2d vt)))])) rfl (by rw [hml]; rfl) (argsL := [(.int (0 : Int32)), (.int w0), (.int w1), (.int w2)]) (rest := [(.double (FP.ddiv (FP.i2d (w0 * vt)) (FP.i2d vt)))]) (lenOf pd_5 rfl) rfl (by show 2 * 0 + _ ≤ _; exact Nat.le_of_eq rfl) (hb hby at_129) (fun _ _ => ⟨rfl, eh13, (by decide : 3 + 0 ≤ _), (by decide : 8 + 0 ≤ _)⟩)
      dsimp only [Pt.U, Pt.locs, Pt.cells, Pt.slots] at X14 l14 y14 z14 st14 hQ14
      subst l14 y14 z14
      obtain ⟨rfl, Nq14, eh14⟩ := hQ14
      have N14 := Fr.app N13 Nq14
      obtain ⟨fs, hr, hrun, hended, hW, hsame⟩ := X14.leave (v := some (.int (nar .boolean (1 : Int32)))) (fun h => by rw [Bd.returns] at h; cases h)
      refine ⟨_, _, pre0 _ ?_, hrun, hended, _, _, rfl, ?_, ⟨_, rfl⟩, hW, hsame.mono (by decide) (by decide)⟩
      · refine sg9 _ ?_
        refine sg12 _ ?_
        show SS p e below T11 (mkF m 118 #[vi p0, vi p1, vi p2, vi p3, vi (0 : Int32), vi w0, vi w1, vi w2, vi vt, vr b1, vr b5, vi (0 : Int32), vi (1 : Int32), uu] [(.int (0 : Int32)), (.ref b5)]) _
        refine st13.trans ?_
        show SS p e below T13 (mkF m 121 #[vi p0, vi p1, vi p2, vi p3, vi (0 : Int32), vi w0, vi w1, vi w2, vi vt, vr b1, vr b5, vi (0 : Int32), vi (1 : Int32), uu] [(.double (FP.ddiv (FP.i2d (w0 * vt)) (FP.i2d vt)))]) _
        refine XS.iload X13.here hx rfl (hb hby at_121) rfl ?_
        show SS p e below T13 (mkF m 123 #[vi p0, vi p1, vi p2, vi p3, vi (0 : Int32), vi w0, vi w1, vi w2, vi vt, vr b1, vr b5, vi (0 : Int32), vi (1 : Int32), uu] [(.int (0 : Int32)), (.double (FP.ddiv (FP.i2d (w0 * vt)) (FP.i2d vt)))]) _
        refine XS.iload X13.here hx rfl (hb hby at_123) rfl ?_
        show SS p e below T13 (mkF m 125 #[vi p0, vi p1, vi p2, vi p3, vi (0 : Int32), vi w0, vi w1, vi w2, vi vt, vr b1, vr b5, vi (0 : Int32), vi (1 : Int32), uu] [(.int w0), (.int (0 : Int32)), (.double (FP.ddiv (FP.i2d (w0 * vt)) (FP.i2d vt)))]) _
        refine XS.iload X13.here hx rfl (hb hby at_125) rfl ?_
        show SS p e below T13 (mkF m 127 #[vi p0, vi p1, vi p2, vi p3, vi (0 : Int32), vi w0, vi w1, vi w2, vi vt, vr b1, vr b5, vi (0 : Int32), vi (1 : Int32), uu] [(.int w1), (.int w0), (.int (0 : Int32)), (.double (FP.ddiv (FP.i2d (w0 * vt)) (FP.i2d vt)))]) _
        refine XS.iload X13.here hx rfl (hb hby at_127) rfl ?_
        show SS p e below T13 (mkF m 129 #[vi p0, vi p1, vi p2, vi p3, vi (0 : Int32), vi w0, vi w1, vi w2, vi vt, vr b1, vr b5, vi (0 : Int32), vi (1 : Int32), uu] [(.int w2), (.int w1), (.int w0), (.int (0 : Int32)), (.double (FP.ddiv (FP.i2d (w0 * vt)) (FP.i2d vt)))]) _
        refine st14 _ ?_
        show SS p e below T14 (mkF m 132 #[vi p0, vi p1, vi p2, vi p3, vi (0 : Int32), vi w0, vi w1, vi w2, vi vt, vr b1, vr b5, vi (0 : Int32), vi (1 : Int32), uu] [(.double (FP.i2d w0)), (.double (FP.ddiv (FP.i2d (w0 * vt)) (FP.i2d vt)))]) _
        refine XS.dcmpS X14.here hx rfl (hb hby at_132) rfl (v := (0 : Int32)) (own_eq ud_0) ?_
        show SS p e below T14 (mkF m 133 #[vi p0, vi p1, vi p2, vi p3, vi (0 : Int32), vi w0, vi w1, vi w2, vi vt, vr b1, vr b5, vi (0 : Int32), vi (1 : Int32), uu] [(.int (0 : Int32))]) _
        refine XS.ifNo X14.here hx rfl (hb hby at_133) rfl ((if0 _ _).trans (teq (rfl : (0 : Int32) = (0 : Int32))).2) ?_
        show SS p e below T14 (mkF m 136 #[vi p0, vi p1, vi p2, vi p3, vi (0 : Int32), vi w0, vi w1, vi w2, vi vt, vr b1, vr b5, vi (0 : Int32), vi (1 : Int32), uu] []) _
        refine XS.iconst X14.here hx rfl (hb hby at_136) ?_
        show SS p e below T14 (mkF m 137 #[vi p0, vi p1, vi p2, vi p3, vi (0 : Int32), vi w0, vi w1, vi w2, vi vt, vr b1, vr b5, vi (0 : Int32), vi (1 : Int32), uu] [(.int (1 : Int32))]) _
        refine XS.goto X14.here hx rfl (pc0 := 137) (pc' := 141) rfl (hb hby at_137) (by decide) (by decide) ?_
        show SS p e below T14 (mkF m 141 #[vi p0, vi p1, vi p2, vi p3, vi (0 : Int32), vi w0, vi w1, vi w2, vi vt, vr b1, vr b5, vi (0 : Int32), vi (1 : Int32), uu] [(.int (1 : Int32))]) _
        refine XS.istore X14.here hx rfl (hb hby at_141) rfl (l' := #[vi p0, vi p1, vi p2, vi p3, vi (0 : Int32), vi w0, vi w1, vi w2, vi vt, vr b1, vr b5, vi (0 : Int32), vi (1 : Int32), vi (1 : Int32)]) rfl ?_
        show SS p e below T14 (mkF m 143 #[vi p0, vi p1, vi p2, vi p3, vi (0 : Int32), vi w0, vi w1, vi w2, vi vt, vr b1, vr b5, vi (0 : Int32), vi (1 : Int32), vi (1 : Int32)] []) _
        refine XS.iload X14.here hx rfl (hb hby at_143) rfl ?_
        show SS p e below T14 (mkF m 145 #[vi p0, vi p1, vi p2, vi p3, vi (0 : Int32), vi w0, vi w1, vi w2, vi vt, vr b1, vr b5, vi (0 : Int32), vi (1 : Int32), vi (1 : Int32)] [(.int (1 : Int32))]) _
        refine XS.ifNo X14.here hx rfl (hb hby at_145) rfl ((if0 _ _).trans (feq (by decide : ¬ ((1 : Int32) = (0 : Int32)))).1) ?_
        show SS p e below T14 (mkF m 148 #[vi p0, vi p1, vi p2, vi p3, vi (0 : Int32), vi w0, vi w1, vi w2, vi vt, vr b1, vr b5, vi (0 : Int32), vi (1 : Int32), vi (1 : Int32)] []) _
        refine XS.iload X14.here hx rfl (hb hby at_148) rfl ?_
        show SS p e below T14 (mkF m 150 #[vi p0, vi p1, vi p2, vi p3, vi (0 : Int32), vi w0, vi w1, vi w2, vi vt, vr b1, vr b5, vi (0 : Int32), vi (1 : Int32), vi (1 : Int32)] [(.int (1 : Int32))]) _
        refine XS.ifNo X14.here hx rfl (hb hby at_150) rfl ((if0 _ _).trans (feq (by decide : ¬ ((1 : Int32) = (0 : Int32)))).1) ?_
        show SS p e below T14 (mkF m 153 #[vi p0, vi p1, vi p2, vi p3, vi (0 : Int32), vi w0, vi w1, vi w2, vi vt, vr b1, vr b5, vi (0 : Int32), vi (1 : Int32), vi (1 : Int32)] []) _
        refine XS.iconst X14.here hx rfl (hb hby at_153) ?_
        show SS p e below T14 (mkF m 154 #[vi p0, vi p1, vi p2, vi p3, vi (0 : Int32), vi w0, vi w1, vi w2, vi vt, vr b1, vr b5, vi (0 : Int32), vi (1 : Int32), vi (1 : Int32)] [(.int (1 : Int32))]) _
        refine XS.goto X14.here hx rfl (pc0 := 154) (pc' := 158) rfl (hb hby at_154) (by decide) (by decide) ?_
        show SS p e below T14 (mkF m 158 #[vi p0, vi p1, vi p2, vi p3, vi (0 : Int32), vi w0, vi w1, vi w2, vi vt, vr b1, vr b5, vi (0 : Int32), vi (1 : Int32), vi (1 : Int32)] [(.int (1 : Int32))]) _
        exact retN X14 hx (t := .boolean) Bd.returns (by simp) (hb hby at_158) hr
      · show Q_rm0 Z p0 p1 p2 p3 (0 : Int32) w0 w1 w2 vt (0 : Int32) h0 n0 _ T14.heap _
        rw [eh14]
        exact ⟨rfl, N14⟩
    · obtain ⟨cq15, kq15, q15a, q15b, q15c⟩ := isOf hZ eh11 f6_0
      obtain ⟨_, _, ⟨T15, L15, k15, n15⟩, -, X15, ⟨Lc15, hQ15, l15, y15, z15⟩, st15⟩ := X11.virtualBack hx (y := (⟨"org/quarrel/model/Distribution", "probability", "(I)D"⟩ : MethodName)) (z := (⟨"org/quarrel/model/Distribution", "probability", "(I)D"⟩ : MethodName)) hown (mvT hZ (wd hw 35 rfl)) (mvT hZ (wd hw 36 rfl)) (notFace_of_selects (args := #[]) (mvT hZ (wd hw 38 rfl))) (mvT hZ (wd hw 38 rfl)) (mvT hZ (wd hw 37 rfl)) (by decide) (backOf (W := 0) (rmP1 l Z a0 hw [] b5 nb_6 k1 vt (w0 * vt) (w1 * vt) (w2 * vt) T6.heap n0 Z6 f6_1 f6_2 f6_4 unz) hZ (wd hw 39 rfl) (wd hw 3 rfl) (by decide) (by decide)) q15a q15c (g := (mkF m 118 #[vi p0, vi p1, vi p2, vi p3, vi (0 : Int32), vi w0, vi w1, vi w2, vi vt, vr b1, vr b5, vi (1 : Int32), vi (1 : Int32), uu] [(.int (1 : Int32)), (.ref b5)])) rfl (by rw [hml]; rfl) (Steps.refl _) (argsL := [(.int (1 : Int32))]) (rest := []) (lenOf pd_4 rfl) rfl (by show 2 * 0 + _ ≤ _; exact Nat.le_of_eq rfl) (hb hby at_118) (fun _ _ => ⟨rfl, eh11, (by decide : 3 + 0 ≤ _), (by decide : 8 + 0 ≤ _)⟩)
      dsimp only [Pt.U, Pt.locs, Pt.cells, Pt.slots] at X15 l15 y15 z15 st15 hQ15
      subst l15 y15 z15
      obtain ⟨rfl, Nq15, eh15⟩ := hQ15
      have N15 := Fr.app N11 Nq15
      obtain ⟨_, _, ⟨T16, L16, k16, n16⟩, -, X16, ⟨Lc16, hQ16, l16, y16, z16⟩, st16⟩ := Jvm.LawKit.callS X15 hx (y := (⟨"org/quarrel/model/DistributionProbabilityPinLaw", "expected", "(IIII)D"⟩ : MethodName)) hown (mvT hZ (wd hw 40 rfl)) (mvT hZ (wd hw 41 rfl)) (mvT hZ (wd hw 42 rfl)) (mvT hZ (wd hw 43 rfl)) (by decide) (backOf (W := 2) (rmE1 l Z a0 hw [] w0 w1 w2 T6.heap n0 Z6) hZ (wd hw 43 rfl) (wd hw 42 rfl) (by decide) (by decide)) (g := (mkF m 129 #[vi p0, vi p1, vi p2, vi p3, vi (0 : Int32), vi w0, vi w1, vi w2, vi vt, vr b1, vr b5, vi (1 : Int32), vi (1 : Int32), uu] [(.int w2), (.int w1), (.int w0), (.int (1 : Int32)), (.double (FP.ddiv (FP.i2d (w1 * vt)) (FP.i2d vt)))])) rfl (by rw [hml]; rfl) (argsL := [(.int (1 : Int32)), (.int w0), (.int w1), (.int w2)]) (rest := [(.double (FP.ddiv (FP.i2d (w1 * vt)) (FP.i2d vt)))]) (lenOf pd_5 rfl) rfl (by show 2 * 0 + _ ≤ _; exact Nat.le_of_eq rfl) (hb hby at_129) (fun _ _ => ⟨rfl, eh15, (by decide : 3 + 0 ≤ _), (by decide : 8 + 0 ≤ _)⟩)
      dsimp only [Pt.U, Pt.locs, Pt.cells, Pt.slots] at X16 l16 y16 z16 st16 hQ16
      subst l16 y16 z16
      obtain ⟨rfl, Nq16, eh16⟩ := hQ16
      have N16 := Fr.app N15 Nq16
      obtain ⟨fs, hr, hrun, hended, hW, hsame⟩ := X16.leave (v := some (.int (nar .boolean (1 : Int32)))) (fun h => by rw [Bd.returns] at h; cases h)
      refine ⟨_, _, pre0 _ ?_, hrun, hended, _, _, rfl, ?_, ⟨_, rfl⟩, hW, hsame.mono (by decide) (by decide)⟩
      · refine sg9 _ ?_
        refine sg12 _ ?_
        show SS p e below T11 (mkF m 118 #[vi p0, vi p1, vi p2, vi p3, vi (0 : Int32), vi w0, vi w1, vi w2, vi vt, vr b1, vr b5, vi (1 : Int32), vi (1 : Int32), uu] [(.int (1 : Int32)), (.ref b5)]) _
        refine st15.trans ?_
        show SS p e below T15 (mkF m 121 #[vi p0, vi p1, vi p2, vi p3, vi (0 : Int32), vi w0, vi w1, vi w2, vi vt, vr b1, vr b5, vi (1 : Int32), vi (1 : Int32), uu] [(.double (FP.ddiv (FP.i2d (w1 * vt)) (FP.i2d vt)))]) _
        refine XS.iload X15.here hx rfl (hb hby at_121) rfl ?_
        show SS p e below T15 (mkF m 123 #[vi p0, vi p1, vi p2, vi p3, vi (0 : Int32), vi w0, vi w1, vi w2, vi vt, vr b1, vr b5, vi (1 : Int32), vi (1 : Int32), uu] [(.int (1 : Int32)), (.double (FP.ddiv (FP.i2d (w1 * vt)) (FP.i2d vt)))]) _
        refine XS.iload X15.here hx rfl (hb hby at_123) rfl ?_
        show SS p e below T15 (mkF m 125 #[vi p0, vi p1, vi p2, vi p3, vi (0 : Int32), vi w0, vi w1, vi w2, vi vt, vr b1, vr b5, vi (1 : Int32), vi (1 : Int32), uu] [(.int w0), (.int (1 : Int32)), (.double (FP.ddiv (FP.i2d (w1 * vt)) (FP.i2d vt)))]) _
        refine XS.iload X15.here hx rfl (hb hby at_125) rfl ?_
        show SS p e below T15 (mkF m 127 #[vi p0, vi p1, vi p2, vi p3, vi (0 : Int32), vi w0, vi w1, vi w2, vi vt, vr b1, vr b5, vi (1 : Int32), vi (1 : Int32), uu] [(.int w1), (.int w0), (.int (1 : Int32)), (.double (FP.ddiv (FP.i2d (w1 * vt)) (FP.i2d vt)))]) _
        refine XS.iload X15.here hx rfl (hb hby at_127) rfl ?_
        show SS p e below T15 (mkF m 129 #[vi p0, vi p1, vi p2, vi p3, vi (0 : Int32), vi w0, vi w1, vi w2, vi vt, vr b1, vr b5, vi (1 : Int32), vi (1 : Int32), uu] [(.int w2), (.int w1), (.int w0), (.int (1 : Int32)), (.double (FP.ddiv (FP.i2d (w1 * vt)) (FP.i2d vt)))]) _
        refine st16 _ ?_
        show SS p e below T16 (mkF m 132 #[vi p0, vi p1, vi p2, vi p3, vi (0 : Int32), vi w0, vi w1, vi w2, vi vt, vr b1, vr b5, vi (1 : Int32), vi (1 : Int32), uu] [(.double (FP.i2d w1)), (.double (FP.ddiv (FP.i2d (w1 * vt)) (FP.i2d vt)))]) _
        refine XS.dcmpS X16.here hx rfl (hb hby at_132) rfl (v := (0 : Int32)) (own_eq ud_1) ?_
        show SS p e below T16 (mkF m 133 #[vi p0, vi p1, vi p2, vi p3, vi (0 : Int32), vi w0, vi w1, vi w2, vi vt, vr b1, vr b5, vi (1 : Int32), vi (1 : Int32), uu] [(.int (0 : Int32))]) _
        refine XS.ifNo X16.here hx rfl (hb hby at_133) rfl ((if0 _ _).trans (teq (rfl : (0 : Int32) = (0 : Int32))).2) ?_
        show SS p e below T16 (mkF m 136 #[vi p0, vi p1, vi p2, vi p3, vi (0 : Int32), vi w0, vi w1, vi w2, vi vt, vr b1, vr b5, vi (1 : Int32), vi (1 : Int32), uu] []) _
        refine XS.iconst X16.here hx rfl (hb hby at_136) ?_
        show SS p e below T16 (mkF m 137 #[vi p0, vi p1, vi p2, vi p3, vi (0 : Int32), vi w0, vi w1, vi w2, vi vt, vr b1, vr b5, vi (1 : Int32), vi (1 : Int32), uu] [(.int (1 : Int32))]) _
        refine XS.goto X16.here hx rfl (pc0 := 137) (pc' := 141) rfl (hb hby at_137) (by decide) (by decide) ?_
        show SS p e below T16 (mkF m 141 #[vi p0, vi p1, vi p2, vi p3, vi (0 : Int32), vi w0, vi w1, vi w2, vi vt, vr b1, vr b5, vi (1 : Int32), vi (1 : Int32), uu] [(.int (1 : Int32))]) _
        refine XS.istore X16.here hx rfl (hb hby at_141) rfl (l' := #[vi p0, vi p1, vi p2, vi p3, vi (0 : Int32), vi w0, vi w1, vi w2, vi vt, vr b1, vr b5, vi (1 : Int32), vi (1 : Int32), vi (1 : Int32)]) rfl ?_
        show SS p e below T16 (mkF m 143 #[vi p0, vi p1, vi p2, vi p3, vi (0 : Int32), vi w0, vi w1, vi w2, vi vt, vr b1, vr b5, vi (1 : Int32), vi (1 : Int32), vi (1 : Int32)] []) _
        refine XS.iload X16.here hx rfl (hb hby at_143) rfl ?_
        show SS p e below T16 (mkF m 145 #[vi p0, vi p1, vi p2, vi p3, vi (0 : Int32), vi w0, vi w1, vi w2, vi vt, vr b1, vr b5, vi (1 : Int32), vi (1 : Int32), vi (1 : Int32)] [(.int (1 : Int32))]) _
        refine XS.ifNo X16.here hx rfl (hb hby at_145) rfl ((if0 _ _).trans (feq (by decide : ¬ ((1 : Int32) = (0 : Int32)))).1) ?_
        show SS p e below T16 (mkF m 148 #[vi p0, vi p1, vi p2, vi p3, vi (0 : Int32), vi w0, vi w1, vi w2, vi vt, vr b1, vr b5, vi (1 : Int32), vi (1 : Int32), vi (1 : Int32)] []) _
        refine XS.iload X16.here hx rfl (hb hby at_148) rfl ?_
        show SS p e below T16 (mkF m 150 #[vi p0, vi p1, vi p2, vi p3, vi (0 : Int32), vi w0, vi w1, vi w2, vi vt, vr b1, vr b5, vi (1 : Int32), vi (1 : Int32), vi (1 : Int32)] [(.int (1 : Int32))]) _
        refine XS.ifNo X16.here hx rfl (hb hby at_150) rfl ((if0 _ _).trans (feq (by decide : ¬ ((1 : Int32) = (0 : Int32)))).1) ?_
        show SS p e below T16 (mkF m 153 #[vi p0, vi p1, vi p2, vi p3, vi (0 : Int32), vi w0, vi w1, vi w2, vi vt, vr b1, vr b5, vi (1 : Int32), vi (1 : Int32), vi (1 : Int32)] []) _
        refine XS.iconst X16.here hx rfl (hb hby at_153) ?_
        show SS p e below T16 (mkF m 154 #[vi p0, vi p1, vi p2, vi p3, vi (0 : Int32), vi w0, vi w1, vi w2, vi vt, vr b1, vr b5, vi (1 : Int32), vi (1 : Int32), vi (1 : Int32)] [(.int (1 : Int32))]) _
        refine XS.goto X16.here hx rfl (pc0 := 154) (pc' := 158) rfl (hb hby at_154) (by decide) (by decide) ?_
        show SS p e below T16 (mkF m 158 #[vi p0, vi p1, vi p2, vi p3, vi (0 : Int32), vi w0, vi w1, vi w2, vi vt, vr b1, vr b5, vi (1 : Int32), vi (1 : Int32), vi (1 : Int32)] [(.int (1 : Int32))]) _
        exact retN X16 hx (t := .boolean) Bd.returns (by simp) (hb hby at_158) hr
      · show Q_rm0 Z p0 p1 p2 p3 (0 : Int32) w0 w1 w2 vt (1 : Int32) h0 n0 _ T16.heap _
        rw [eh16]
        exact ⟨rfl, N16⟩
    · obtain ⟨cq17, kq17, q17a, q17b, q17c⟩ := isOf hZ eh11 f6_0
      obtain ⟨_, _, ⟨T17, L17, k17, n17⟩, -, X17, ⟨Lc17, hQ17, l17, y17, z17⟩, st17⟩ := X11.virtualBack hx (y := (⟨"org/quarrel/model/Distribution", "probability", "(I)D"⟩ : MethodName)) (z := (⟨"org/quarrel/model/Distribution", "probability", "(I)D"⟩ : MethodName)) hown (mvT hZ (wd hw 35 rfl)) (mvT hZ (wd hw 36 rfl)) (notFace_of_selects (args := #[]) (mvT hZ (wd hw 38 rfl))) (mvT hZ (wd hw 38 rfl)) (mvT hZ (wd hw 37 rfl)) (by decide) (backOf (W := 0) (rmP2 l Z a0 hw [] b5 nb_6 k1 vt (w0 * vt) (w1 * vt) (w2 * vt) T6.heap n0 Z6 f6_1 f6_2 f6_4 unz) hZ (wd hw 39 rfl) (wd hw 3 rfl) (by decide) (by decide)) q17a q17c (g := (mkF m 118 #[vi p0, vi p1, vi p2, vi p3, vi (0 : Int32), vi w0, vi w1, vi w2, vi vt, vr b1, vr b5, vi (2 : Int32), vi (1 : Int32), uu] [(.int (2 : Int32)), (.ref b5)])) rfl (by rw [hml]; rfl) (Steps.refl _) (argsL := [(.int (2 : Int32))]) (rest := []) (lenOf pd_4 rfl) rfl (by show 2 * 0 + _ ≤ _; exact Nat.le_of_eq rfl) (hb hby at_118) (fun _ _ => ⟨rfl, eh11, (by decide : 3 + 0 ≤ _), (by decide : 8 + 0 ≤ _)⟩)
      dsimp only [Pt.U, Pt.locs, Pt.cells, Pt.slots] at X17 l17 y17 z17 st17 hQ17
      subst l17 y17 z17
      obtain ⟨rfl, Nq17, eh17⟩ := hQ17
      have N17 := Fr.app N11 Nq17
      obtain ⟨_, _, ⟨T18, L18, k18, n18⟩, -, X18, ⟨Lc18, hQ18, l18, y18, z18⟩, st18⟩ := Jvm.LawKit.callS X17 hx (y := (⟨"org/quarrel/model/DistributionProbabilityPinLaw", "expected", "(IIII)D"⟩ : MethodName)) hown (mvT hZ (wd hw 40 rfl)) (mvT hZ (wd hw 41 rfl)) (mvT hZ (wd hw 42 rfl)) (mvT hZ (wd hw 43 rfl)) (by decide) (backOf (W := 2) (rmE2 l Z a0 hw [] w0 w1 w2 T6.heap n0 Z6) hZ (wd hw 43 rfl) (wd hw 42 rfl) (by decide) (by decide)) (g := (mkF m 129 #[vi p0, vi p1, vi p2, vi p3, vi (0 : Int32), vi w0, vi w1, vi w2, vi vt, vr b1, vr b5, vi (2 : Int32), vi (1 : Int32), uu] [(.int w2), (.int w1), (.int w0), (.int (2 : Int32)), (.double (FP.ddiv (FP.i2d (w2 * vt)) (FP.i2d vt)))])) rfl (by rw [hml]; rfl) (argsL := [(.int (2 : Int32)), (.int w0), (.int w1), (.int w2)]) (rest := [(.double (FP.ddiv (FP.i2d (w2 * vt)) (FP.i2d vt)))]) (lenOf pd_5 rfl) rfl (by show 2 * 0 + _ ≤ _; exact Nat.le_of_eq rfl) (hb hby at_129) (fun _ _ => ⟨rfl, eh17, (by decide : 3 + 0 ≤ _), (by decide : 8 + 0 ≤ _)⟩)
      dsimp only [Pt.U, Pt.locs, Pt.cells, Pt.slots] at X18 l18 y18 z18 st18 hQ18
      subst l18 y18 z18
      obtain ⟨rfl, Nq18, eh18⟩ := hQ18
      have N18 := Fr.app N17 Nq18
      obtain ⟨fs, hr, hrun, hended, hW, hsame⟩ := X18.leave (v := some (.int (nar .boolean (1 : Int32)))) (fun h => by rw [Bd.returns] at h; cases h)
      refine ⟨_, _, pre0 _ ?_, hrun, hended, _, _, rfl, ?_, ⟨_, rfl⟩, hW, hsame.mono (by decide) (by decide)⟩
      · refine sg9 _ ?_
        refine sg12 _ ?_
        show SS p e below T11 (mkF m 118 #[vi p0, vi p1, vi p2, vi p3, vi (0 : Int32), vi w0, vi w1, vi w2, vi vt, vr b1, vr b5, vi (2 : Int32), vi (1 : Int32), uu] [(.int (2 : Int32)), (.ref b5)]) _
        refine st17.trans ?_
        show SS p e below T17 (mkF m 121 #[vi p0, vi p1, vi p2, vi p3, vi (0 : Int32), vi w0, vi w1, vi w2, vi vt, vr b1, vr b5, vi (2 : Int32), vi (1 : Int32), uu] [(.double (FP.ddiv (FP.i2d (w2 * vt)) (FP.i2d vt)))]) _
        refine XS.iload X17.here hx rfl (hb hby at_121) rfl ?_
        show SS p e below T17 (mkF m 123 #[vi p0, vi p1, vi p2, vi p3, vi (0 : Int32), vi w0, vi w1, vi w2, vi vt, vr b1, vr b5, vi (2 : Int32), vi (1 : Int32), uu] [(.int (2 : Int32)), (.double (FP.ddiv (FP.i2d (w2 * vt)) (FP.i2d vt)))]) _
        refine XS.iload X17.here hx rfl (hb hby at_123) rfl ?_
        show SS p e below T17 (mkF m 125 #[vi p0, vi p1, vi p2, vi p3, vi (0 : Int32), vi w0, vi w1, vi w2, vi vt, vr b1, vr b5, vi (2 : Int32), vi (1 : Int32), uu] [(.int w0), (.int (2 : Int32)), (.double (FP.ddiv (FP.i2d (w2 * vt)) (FP.i2d vt)))]) _
        refine XS.iload X17.here hx rfl (hb hby at_125) rfl ?_
        show SS p e below T17 (mkF m 127 #[vi p0, vi p1, vi p2, vi p3, vi (0 : Int32), vi w0, vi w1, vi w2, vi vt, vr b1, vr b5, vi (2 : Int32), vi (1 : Int32), uu] [(.int w1), (.int w0), (.int (2 : Int32)), (.double (FP.ddiv (FP.i2d (w2 * vt)) (FP.i2d vt)))]) _
        refine XS.iload X17.here hx rfl (hb hby at_127) rfl ?_
        show SS p e below T17 (mkF m 129 #[vi p0, vi p1, vi p2, vi p3, vi (0 : Int32), vi w0, vi w1, vi w2, vi vt, vr b1, vr b5, vi (2 : Int32), vi (1 : Int32), uu] [(.int w2), (.int w1), (.int w0), (.int (2 : Int32)), (.double (FP.ddiv (FP.i2d (w2 * vt)) (FP.i2d vt)))]) _
        refine st18 _ ?_
        show SS p e below T18 (mkF m 132 #[vi p0, vi p1, vi p2, vi p3, vi (0 : Int32), vi w0, vi w1, vi w2, vi vt, vr b1, vr b5, vi (2 : Int32), vi (1 : Int32), uu] [(.double (FP.i2d w2)), (.double (FP.ddiv (FP.i2d (w2 * vt)) (FP.i2d vt)))]) _
        refine XS.dcmpS X18.here hx rfl (hb hby at_132) rfl (v := (0 : Int32)) (own_eq ud_2) ?_
        show SS p e below T18 (mkF m 133 #[vi p0, vi p1, vi p2, vi p3, vi (0 : Int32), vi w0, vi w1, vi w2, vi vt, vr b1, vr b5, vi (2 : Int32), vi (1 : Int32), uu] [(.int (0 : Int32))]) _
        refine XS.ifNo X18.here hx rfl (hb hby at_133) rfl ((if0 _ _).trans (teq (rfl : (0 : Int32) = (0 : Int32))).2) ?_
        show SS p e below T18 (mkF m 136 #[vi p0, vi p1, vi p2, vi p3, vi (0 : Int32), vi w0, vi w1, vi w2, vi vt, vr b1, vr b5, vi (2 : Int32), vi (1 : Int32), uu] []) _
        refine XS.iconst X18.here hx rfl (hb hby at_136) ?_
        show SS p e below T18 (mkF m 137 #[vi p0, vi p1, vi p2, vi p3, vi (0 : Int32), vi w0, vi w1, vi w2, vi vt, vr b1, vr b5, vi (2 : Int32), vi (1 : Int32), uu] [(.int (1 : Int32))]) _
        refine XS.goto X18.here hx rfl (pc0 := 137) (pc' := 141) rfl (hb hby at_137) (by decide) (by decide) ?_
        show SS p e below T18 (mkF m 141 #[vi p0, vi p1, vi p2, vi p3, vi (0 : Int32), vi w0, vi w1, vi w2, vi vt, vr b1, vr b5, vi (2 : Int32), vi (1 : Int32), uu] [(.int (1 : Int32))]) _
        refine XS.istore X18.here hx rfl (hb hby at_141) rfl (l' := #[vi p0, vi p1, vi p2, vi p3, vi (0 : Int32), vi w0, vi w1, vi w2, vi vt, vr b1, vr b5, vi (2 : Int32), vi (1 : Int32), vi (1 : Int32)]) rfl ?_
        show SS p e below T18 (mkF m 143 #[vi p0, vi p1, vi p2, vi p3, vi (0 : Int32), vi w0, vi w1, vi w2, vi vt, vr b1, vr b5, vi (2 : Int32), vi (1 : Int32), vi (1 : Int32)] []) _
        refine XS.iload X18.here hx rfl (hb hby at_143) rfl ?_
        show SS p e below T18 (mkF m 145 #[vi p0, vi p1, vi p2, vi p3, vi (0 : Int32), vi w0, vi w1, vi w2, vi vt, vr b1, vr b5, vi (2 : Int32), vi (1 : Int32), vi (1 : Int32)] [(.int (1 : Int32))]) _
        refine XS.ifNo X18.here hx rfl (hb hby at_145) rfl ((if0 _ _).trans (feq (by decide : ¬ ((1 : Int32) = (0 : Int32)))).1) ?_
        show SS p e below T18 (mkF m 148 #[vi p0, vi p1, vi p2, vi p3, vi (0 : Int32), vi w0, vi w1, vi w2, vi vt, vr b1, vr b5, vi (2 : Int32), vi (1 : Int32), vi (1 : Int32)] []) _
        refine XS.iload X18.here hx rfl (hb hby at_148) rfl ?_
        show SS p e below T18 (mkF m 150 #[vi p0, vi p1, vi p2, vi p3, vi (0 : Int32), vi w0, vi w1, vi w2, vi vt, vr b1, vr b5, vi (2 : Int32), vi (1 : Int32), vi (1 : Int32)] [(.int (1 : Int32))]) _
        refine XS.ifNo X18.here hx rfl (hb hby at_150) rfl ((if0 _ _).trans (feq (by decide : ¬ ((1 : Int32) = (0 : Int32)))).1) ?_
        show SS p e below T18 (mkF m 153 #[vi p0, vi p1, vi p2, vi p3, vi (0 : Int32), vi w0, vi w1, vi w2, vi vt, vr b1, vr b5, vi (2 : Int32), vi (1 : Int32), vi (1 : Int32)] []) _
        refine XS.iconst X18.here hx rfl (hb hby at_153) ?_
        show SS p e below T18 (mkF m 154 #[vi p0, vi p1, vi p2, vi p3, vi (0 : Int32), vi w0, vi w1, vi w2, vi vt, vr b1, vr b5, vi (2 : Int32), vi (1 : Int32), vi (1 : Int32)] [(.int (1 : Int32))]) _
        refine XS.goto X18.here hx rfl (pc0 := 154) (pc' := 158) rfl (hb hby at_154) (by decide) (by decide) ?_
        show SS p e below T18 (mkF m 158 #[vi p0, vi p1, vi p2, vi p3, vi (0 : Int32), vi w0, vi w1, vi w2, vi vt, vr b1, vr b5, vi (2 : Int32), vi (1 : Int32), vi (1 : Int32)] [(.int (1 : Int32))]) _
        exact retN X18 hx (t := .boolean) Bd.returns (by simp) (hb hby at_158) hr
      · show Q_rm0 Z p0 p1 p2 p3 (0 : Int32) w0 w1 w2 vt (2 : Int32) h0 n0 _ T18.heap _
        rw [eh18]
        exact ⟨rfl, N18⟩
    · obtain ⟨cq19, kq19, q19a, q19b, q19c⟩ := isOf hZ eh11 f6_0
      obtain ⟨_, _, ⟨T19, L19, k19, n19⟩, -, X19, ⟨Lc19, hQ19, l19, y19, z19⟩, st19⟩ := X11.virtualBack hx (y := (⟨"org/quarrel/model/Distribution", "probability", "(I)D"⟩ : MethodName)) (z := (⟨"org/quarrel/model/Distribution", "probability", "(I)D"⟩ : MethodName)) hown (mvT hZ (wd hw 35 rfl)) (mvT hZ (wd hw 36 rfl)) (notFace_of_selects (args := #[]) (mvT hZ (wd hw 38 rfl))) (mvT hZ (wd hw 38 rfl)) (mvT hZ (wd hw 37 rfl)) (by decide) (backOf (W := 0) (rmPh l Z a0 hw [] b5 (3 : Int32) nb_6 k1 vt (w0 * vt) (w1 * vt) (w2 * vt) T6.heap n0 Z6 f6_1 f6_2 f6_4 unz (by decide) (by decide)) hZ (wd hw 39 rfl) (wd hw 3 rfl) (by decide) (by decide)) q19a q19c (g := (mkF m 118 #[vi p0, vi p1, vi p2, vi p3, vi (0 : Int32), vi w0, vi w1, vi w2, vi vt, vr b1, vr b5, vi (3 : Int32), vi (1 : Int32), uu] [(.int (3 : Int32)), (.ref b5)])) rfl (by rw [hml]; rfl) (Steps.refl _) (argsL := [(.int (3 : Int32))]) (rest := []) (lenOf pd_4 rfl) rfl (by show 2 * 0 + _ ≤ _; exact Nat.le_of_eq rfl) (hb hby at_118) (fun _ _ => ⟨rfl, eh11, (by decide : 3 + 0 ≤ _), (by decide : 8 + 0 ≤ _)⟩)
      dsimp only [Pt.U, Pt.locs, Pt.cells, Pt.slots] at X19 l19 y19 z19 st19 hQ19
      subst l19 y19 z19
      obtain ⟨rfl, Nq19, eh19⟩ := hQ19
      have N19 := Fr.app N11 Nq19
      obtain ⟨_, _, ⟨T20, L20, k20, n20⟩, -, X20, ⟨Lc20, hQ20, l20, y20, z20⟩, st20⟩ := Jvm.LawKit.callS X19 hx (y := (⟨"org/quarrel/model/DistributionProbabilityPinLaw", "expected", "(IIII)D"⟩ : MethodName)) hown (mvT hZ (wd hw 40 rfl)) (mvT hZ (wd hw 41 rfl)) (mvT hZ (wd hw 42 rfl)) (mvT hZ (wd hw 43 rfl)) (by decide) (backOf (W := 2) (rmEn l Z a0 hw [] (3 : Int32) w0 w1 w2 T6.heap n0 Z6 (by decide) (by decide) (by decide)) hZ (wd hw 43 rfl) (wd hw 42 rfl) (by decide) (by decide)) (g := (mkF m 129 #[vi p0, vi p1, vi p2, vi p3, vi (0 : Int32), vi w0, vi w1, vi w2, vi vt, vr b1, vr b5, vi (3 : Int32), vi (1 : Int32), uu] [(.int w2), (.int w1), (.int w0), (.int (3 : Int32)), (.double (0 : UInt64))])) rfl (by rw [hml]; rfl) (argsL := [(.int (3 : Int32)), (.int w0), (.int w1), (.int w2)]) (rest := [(.double (0 : UInt64))]) (lenOf pd_5 rfl) rfl (by show 2 * 0 + _ ≤ _; exact Nat.le_of_eq rfl) (hb hby at_129) (fun _ _ => ⟨rfl, eh19, (by decide : 3 + 0 ≤ _), (by decide : 8 + 0 ≤ _)⟩)
      dsimp only [Pt.U, Pt.locs, Pt.cells, Pt.slots] at X20 l20 y20 z20 st20 hQ20
      subst l20 y20 z20
      obtain ⟨rfl, Nq20, eh20⟩ := hQ20
      have N20 := Fr.app N19 Nq20
      obtain ⟨fs, hr, hrun, hended, hW, hsame⟩ := X20.leave (v := some (.int (nar .boolean (1 : Int32)))) (fun h => by rw [Bd.returns] at h; cases h)
      refine ⟨_, _, pre0 _ ?_, hrun, hended, _, _, rfl, ?_, ⟨_, rfl⟩, hW, hsame.mono (by decide) (by decide)⟩
      · refine sg9 _ ?_
        refine sg12 _ ?_
        show SS p e below T11 (mkF m 118 #[vi p0, vi p1, vi p2, vi p3, vi (0 : Int32), vi w0, vi w1, vi w2, vi vt, vr b1, vr b5, vi (3 : Int32), vi (1 : Int32), uu] [(.int (3 : Int32)), (.ref b5)]) _
        refine st19.trans ?_
        show SS p e below T19 (mkF m 121 #[vi p0, vi p1, vi p2, vi p3, vi (0 : Int32), vi w0, vi w1, vi w2, vi vt, vr b1, vr b5, vi (3 : Int32), vi (1 : Int32), uu] [(.double (0 : UInt64))]) _
        refine XS.iload X19.here hx rfl (hb hby at_121) rfl ?_
        show SS p e below T19 (mkF m 123 #[vi p0, vi p1, vi p2, vi p3, vi (0 : Int32), vi w0, vi w1, vi w2, vi vt, vr b1, vr b5, vi (3 : Int32), vi (1 : Int32), uu] [(.int (3 : Int32)), (.double (0 : UInt64))]) _
        refine XS.iload X19.here hx rfl (hb hby at_123) rfl ?_
        show SS p e below T19 (mkF m 125 #[vi p0, vi p1, vi p2, vi p3, vi (0 : Int32), vi w0, vi w1, vi w2, vi vt, vr b1, vr b5, vi (3 : Int32), vi (1 : Int32), uu] [(.int w0), (.int (3 : Int32)), (.double (0 : UInt64))]) _
        refine XS.iload X19.here hx rfl (hb hby at_125) rfl ?_
        show SS p e below T19 (mkF m 127 #[vi p0, vi p1, vi p2, vi p3, vi (0 : Int32), vi w0, vi w1, vi w2, vi vt, vr b1, vr b5, vi (3 : Int32), vi (1 : Int32), uu] [(.int w1), (.int w0), (.int (3 : Int32)), (.double (0 : UInt64))]) _
        refine XS.iload X19.here hx rfl (hb hby at_127) rfl ?_
        show SS p e below T19 (mkF m 129 #[vi p0, vi p1, vi p2, vi p3, vi (0 : Int32), vi w0, vi w1, vi w2, vi vt, vr b1, vr b5, vi (3 : Int32), vi (1 : Int32), uu] [(.int w2), (.int w1), (.int w0), (.int (3 : Int32)), (.double (0 : UInt64))]) _
        refine st20 _ ?_
        show SS p e below T20 (mkF m 132 #[vi p0, vi p1, vi p2, vi p3, vi (0 : Int32), vi w0, vi w1, vi w2, vi vt, vr b1, vr b5, vi (3 : Int32), vi (1 : Int32), uu] [(.double (0 : UInt64)), (.double (0 : UInt64))]) _
        refine XS.dcmpS X20.here hx rfl (hb hby at_132) rfl (v := (0 : Int32)) own_eq0 ?_
        show SS p e below T20 (mkF m 133 #[vi p0, vi p1, vi p2, vi p3, vi (0 : Int32), vi w0, vi w1, vi w2, vi vt, vr b1, vr b5, vi (3 : Int32), vi (1 : Int32), uu] [(.int (0 : Int32))]) _
        refine XS.ifNo X20.here hx rfl (hb hby at_133) rfl ((if0 _ _).trans (teq (rfl : (0 : Int32) = (0 : Int32))).2) ?_
        show SS p e below T20 (mkF m 136 #[vi p0, vi p1, vi p2, vi p3, vi (0 : Int32), vi w0, vi w1, vi w2, vi vt, vr b1, vr b5, vi (3 : Int32), vi (1 : Int32), uu] []) _
        refine XS.iconst X20.here hx rfl (hb hby at_136) ?_
        show SS p e below T20 (mkF m 137 #[vi p0, vi p1, vi p2, vi p3, vi (0 : Int32), vi w0, vi w1, vi w2, vi vt, vr b1, vr b5, vi (3 : Int32), vi (1 : Int32), uu] [(.int (1 : Int32))]) _
        refine XS.goto X20.here hx rfl (pc0 := 137) (pc' := 141) rfl (hb hby at_137) (by decide) (by decide) ?_
        show SS p e below T20 (mkF m 141 #[vi p0, vi p1, vi p2, vi p3, vi (0 : Int32), vi w0, vi w1, vi w2, vi vt, vr b1, vr b5, vi (3 : Int32), vi (1 : Int32), uu] [(.int (1 : Int32))]) _
        refine XS.istore X20.here hx rfl (hb hby at_141) rfl (l' := #[vi p0, vi p1, vi p2, vi p3, vi (0 : Int32), vi w0, vi w1, vi w2, vi vt, vr b1, vr b5, vi (3 : Int32), vi (1 : Int32), vi (1 : Int32)]) rfl ?_
        show SS p e below T20 (mkF m 143 #[vi p0, vi p1, vi p2, vi p3, vi (0 : Int32), vi w0, vi w1, vi w2, vi vt, vr b1, vr b5, vi (3 : Int32), vi (1 : Int32), vi (1 : Int32)] []) _
        refine XS.iload X20.here hx rfl (hb hby at_143) rfl ?_
        show SS p e below T20 (mkF m 145 #[vi p0, vi p1, vi p2, vi p3, vi (0 : Int32), vi w0, vi w1, vi w2, vi vt, vr b1, vr b5, vi (3 : Int32), vi (1 : Int32), vi (1 : Int32)] [(.int (1 : Int32))]) _
        refine XS.ifNo X20.here hx rfl (hb hby at_145) rfl ((if0 _ _).trans (feq (by decide : ¬ ((1 : Int32) = (0 : Int32)))).1) ?_
        show SS p e below T20 (mkF m 148 #[vi p0, vi p1, vi p2, vi p3, vi (0 : Int32), vi w0, vi w1, vi w2, vi vt, vr b1, vr b5, vi (3 : Int32), vi (1 : Int32), vi (1 : Int32)] []) _
        refine XS.iload X20.here hx rfl (hb hby at_148) rfl ?_
        show SS p e below T20 (mkF m 150 #[vi p0, vi p1, vi p2, vi p3, vi (0 : Int32), vi w0, vi w1, vi w2, vi vt, vr b1, vr b5, vi (3 : Int32), vi (1 : Int32), vi (1 : Int32)] [(.int (1 : Int32))]) _
        refine XS.ifNo X20.here hx rfl (hb hby at_150) rfl ((if0 _ _).trans (feq (by decide : ¬ ((1 : Int32) = (0 : Int32)))).1) ?_
        show SS p e below T20 (mkF m 153 #[vi p0, vi p1, vi p2, vi p3, vi (0 : Int32), vi w0, vi w1, vi w2, vi vt, vr b1, vr b5, vi (3 : Int32), vi (1 : Int32), vi (1 : Int32)] []) _
        refine XS.iconst X20.here hx rfl (hb hby at_153) ?_
        show SS p e below T20 (mkF m 154 #[vi p0, vi p1, vi p2, vi p3, vi (0 : Int32), vi w0, vi w1, vi w2, vi vt, vr b1, vr b5, vi (3 : Int32), vi (1 : Int32), vi (1 : Int32)] [(.int (1 : Int32))]) _
        refine XS.goto X20.here hx rfl (pc0 := 154) (pc' := 158) rfl (hb hby at_154) (by decide) (by decide) ?_
        show SS p e below T20 (mkF m 158 #[vi p0, vi p1, vi p2, vi p3, vi (0 : Int32), vi w0, vi w1, vi w2, vi vt, vr b1, vr b5, vi (3 : Int32), vi (1 : Int32), vi (1 : Int32)] [(.int (1 : Int32))]) _
        exact retN X20 hx (t := .boolean) Bd.returns (by simp) (hb hby at_158) hr
      · show Q_rm0 Z p0 p1 p2 p3 (0 : Int32) w0 w1 w2 vt (3 : Int32) h0 n0 _ T20.heap _
        rw [eh20]
        exact ⟨rfl, N20⟩
  · obtain ⟨cq21, kq21, q21a, q21b, q21c⟩ := isOf hZ rfl f6_0
    obtain ⟨_, _, ⟨T21, L21, k21, n21⟩, -, X21, ⟨Lc21, hQ21, l21, y21, z21⟩, st21⟩ := X6.virtualBack hx (y := (⟨"org/quarrel/model/Distribution", "probability", "(I)D"⟩ : MethodName)) (z := (⟨"org/quarrel/model/Distribution", "probability", "(I)D"⟩ : MethodName)) hown (mvT hZ (wd hw 35 rfl)) (mvT hZ (wd hw 36 rfl)) (notFace_of_selects (args := #[]) (mvT hZ (wd hw 38 rfl))) (mvT hZ (wd hw 38 rfl)) (mvT hZ (wd hw 37 rfl)) (by decide) (backOf (W := 0) (rmP1 l Z a0 hw [] b5 nb_6 k1 vt (w0 * vt) (w1 * vt) (w2 * vt) T6.heap n0 Z6 f6_1 f6_2 f6_4 unz) hZ (wd hw 39 rfl) (wd hw 3 rfl) (by decide) (by decide)) q21a q21c (g := (mkF m 89 #[vi p0, vi p1, vi p2, vi p3, vi (1 : Int32), vi w0, vi w1, vi w2, vi vt, vr b1, vr b5, vi vn, uu, uu] [(.int (1 : Int32)), (.ref b5)])) rfl (by rw [hml]; rfl) (Steps.refl _) (argsL := [(.int (1 : Int32))]) (rest := []) (lenOf pd_4 rfl) rfl (by show 2 * 0 + _ ≤ _; exact Nat.le_of_eq rfl) (hb hby at_89) (fun _ _ => ⟨rfl, rfl, (by decide : 3 + 0 ≤ _), (by decide : 8 + 0 ≤ _)⟩)
    dsimp only [Pt.U, Pt.locs, Pt.cells, Pt.slots] at X21 l21 y21 z21 st21 hQ21
    subst l21 y21 z21
    obtain ⟨rfl, Nq21, eh21⟩ := hQ21
    have N21 := Fr.app N6 Nq21
    obtain ⟨_, _, ⟨T22, L22, k22, n22⟩, -, X22, ⟨Lc22, hQ22, l22, y22, z22⟩, st22⟩ := Jvm.LawKit.callS X21 hx (y := (⟨"org/quarrel/model/DistributionProbabilityPinLaw", "expected", "(IIII)D"⟩ : MethodName)) hown (mvT hZ (wd hw 40 rfl)) (mvT hZ (wd hw 41 rfl)) (mvT hZ (wd hw 42 rfl)) (mvT hZ (wd hw 43 rfl)) (by decide) (backOf (W := 2) (rmE1 l Z a0 hw [] w0 w1 w2 T6.heap n0 Z6) hZ (wd hw 43 rfl) (wd hw 42 rfl) (by decide) (by decide)) (g := (mkF m 100 #[vi p0, vi p1, vi p2, vi p3, vi (1 : Int32), vi w0, vi w1, vi w2, vi vt, vr b1, vr b5, vi vn, uu, uu] [(.int w2), (.int w1), (.int w0), (.int (1 : Int32)), (.double (FP.ddiv (FP.i2d (w1 * vt)) (FP.i2d vt)))])) rfl (by rw [hml]; rfl) (argsL := [(.int (1 : Int32)), (.int w0), (.int w1), (.int w2)]) (rest := [(.double (FP.ddiv (FP.i2d (w1 * vt)) (FP.i2d vt)))]) (lenOf pd_5 rfl) rfl (by show 2 * 0 + _ ≤ _; exact Nat.le_of_eq rfl) (hb hby at_100) (fun _ _ => ⟨rfl, eh21, (by decide : 3 + 0 ≤ _), (by decide : 8 + 0 ≤ _)⟩)
    dsimp only [Pt.U, Pt.locs, Pt.cells, Pt.slots] at X22 l22 y22 z22 st22 hQ22
    subst l22 y22 z22
    obtain ⟨rfl, Nq22, eh22⟩ := hQ22
    have N22 := Fr.app N21 Nq22
    have sg23 : ∀ target, SS p e below T22 (mkF m 118 #[vi p0, vi p1, vi p2, vi p3, vi (1 : Int32), vi w0, vi w1, vi w2, vi vt, vr b1, vr b5, vi vn, vi (1 : Int32), uu] [(.int vn), (.ref b5)]) target → SS p e below T6 (mkF m 89 #[vi p0, vi p1, vi p2, vi p3, vi (1 : Int32), vi w0, vi w1, vi w2, vi vt, vr b1, vr b5, vi vn, uu, uu] [(.int (1 : Int32)), (.ref b5)]) target := by
      intro target kt
      show SS p e below T6 (mkF m 89 #[vi p0, vi p1, vi p2, vi p3, vi (1 : Int32), vi w0, vi w1, vi w2, vi vt, vr b1, vr b5, vi vn, uu, uu] [(.int (1 : Int32)), (.ref b5)]) _
      refine st21.trans ?_
      show SS p e below T21 (mkF m 92 #[vi p0, vi p1, vi p2, vi p3, vi (1 : Int32), vi w0, vi w1, vi w2, vi vt, vr b1, vr b5, vi vn, uu, uu] [(.double (FP.ddiv (FP.i2d (w1 * vt)) (FP.i2d vt)))]) _
      refine XS.iload X21.here hx rfl (hb hby at_92) rfl ?_
      show SS p e below T21 (mkF m 94 #[vi p0, vi p1, vi p2, vi p3, vi (1 : Int32), vi w0, vi w1, vi w2, vi vt, vr b1, vr b5, vi vn, uu, uu] [(.int (1 : Int32)), (.double (FP.ddiv (FP.i2d (w1 * vt)) (FP.i2d vt)))]) _
      refine XS.iload X21.here hx rfl (hb hby at_94) rfl ?_
      show SS p e below T21 (mkF m 96 #[vi p0, vi p1, vi p2, vi p3, vi (1 : Int32), vi w0, vi w1, vi w2, vi vt, vr b1, vr b5, vi vn, uu, uu] [(.int w0), (.int (1 : Int32)), (.double (FP.ddiv (FP.i2d (w1 * vt)) (FP.i2d vt)))]) _
      refine XS.iload X21.here hx rfl (hb hby at_96) rfl ?_
      show SS p e below T21 (mkF m 98 #[vi p0, vi p1, vi p2, vi p3, vi (1 : Int32), vi w0, vi w1, vi w2, vi vt, vr b1, vr b5, vi vn, uu, uu] [(.int w1), (.int w0), (.int (1 : Int32)), (.double (FP.ddiv (FP.i2d (w1 * vt)) (FP.i2d vt)))]) _
      refine XS.iload X21.here hx rfl (hb hby at_98) rfl ?_
      show SS p e below T21 (mkF m 100 #[vi p0, vi p1, vi p2, vi p3, vi (1 : Int32), vi w0, vi w1, vi w2, vi vt, vr b1, vr b5, vi vn, uu, uu] [(.int w2), (.int w1), (.int w0), (.int (1 : Int32)), (.double (FP.ddiv (FP.i2d (w1 * vt)) (FP.i2d vt)))]) _
      refine st22 _ ?_
      show SS p e below T22 (mkF m 103 #[vi p0, vi p1, vi p2, vi p3, vi (1 : Int32), vi w0, vi w1, vi w2, vi vt, vr b1, vr b5, vi vn, uu, uu] [(.double (FP.i2d w1)), (.double (FP.ddiv (FP.i2d (w1 * vt)) (FP.i2d vt)))]) _
      refine XS.dcmpS X22.here hx rfl (hb hby at_103) rfl (v := (0 : Int32)) (own_eq ud_1) ?_
      show SS p e below T22 (mkF m 104 #[vi p0, vi p1, vi p2, vi p3, vi (1 : Int32), vi w0, vi w1, vi w2, vi vt, vr b1, vr b5, vi vn, uu, uu] [(.int (0 : Int32))]) _
      refine XS.ifNo X22.here hx rfl (hb hby at_104) rfl ((if0 _ _).trans (teq (rfl : (0 : Int32) = (0 : Int32))).2) ?_
      show SS p e below T22 (mkF m 107 #[vi p0, vi p1, vi p2, vi p3, vi (1 : Int32), vi w0, vi w1, vi w2, vi vt, vr b1, vr b5, vi vn, uu, uu] []) _
      refine XS.iconst X22.here hx rfl (hb hby at_107) ?_
      show SS p e below T22 (mkF m 108 #[vi p0, vi p1, vi p2, vi p3, vi (1 : Int32), vi w0, vi w1, vi w2, vi vt, vr b1, vr b5, vi vn, uu, uu] [(.int (1 : Int32))]) _
      refine XS.goto X22.here hx rfl (pc0 := 108) (pc' := 112) rfl (hb hby at_108) (by decide) (by decide) ?_
      show SS p e below T22 (mkF m 112 #[vi p0, vi p1, vi p2, vi p3, vi (1 : Int32), vi w0, vi w1, vi w2, vi vt, vr b1, vr b5, vi vn, uu, uu] [(.int (1 : Int32))]) _
      refine XS.istore X22.here hx rfl (hb hby at_112) rfl (l' := #[vi p0, vi p1, vi p2, vi p3, vi (1 : Int32), vi w0, vi w1, vi w2, vi vt, vr b1, vr b5, vi vn, vi (1 : Int32), uu]) rfl ?_
      show SS p e below T22 (mkF m 114 #[vi p0, vi p1, vi p2, vi p3, vi (1 : Int32), vi w0, vi w1, vi w2, vi vt, vr b1, vr b5, vi vn, vi (1 : Int32), uu] []) _
      refine XS.aload X22.here hx rfl (hb hby at_114) rfl rfl ?_
      show SS p e below T22 (mkF m 116 #[vi p0, vi p1, vi p2, vi p3, vi (1 : Int32), vi w0, vi w1, vi w2, vi vt, vr b1, vr b5, vi vn, vi (1 : Int32), uu] [(.ref b5)]) _
      refine XS.iload X22.here hx rfl (hb hby at_116) rfl ?_
      exact kt
    rcases un4 with rfl | rfl | rfl | rfl
    · obtain ⟨cq24, kq24, q24a, q24b, q24c⟩ := isOf hZ eh22 f6_0
      obtain ⟨_, _, ⟨T24, L24, k24, n24⟩, -, X24, ⟨Lc24, hQ24, l24, y24, z24⟩, st24⟩ := X22.virtualBack hx (y := (⟨"org/quarrel/model/Distribution", "probability", "(I)D"⟩ : MethodName)) (z := (⟨"org/quarrel/model/Distribution", "probability", "(I)D"⟩ : MethodName)) hown (mvT hZ (wd hw 35 rfl)) (mvT hZ (wd hw 36 rfl)) (notFace_of_selects (args := #[]) (mvT hZ (wd hw 38 rfl))) (mvT hZ (wd hw 38 rfl)) (mvT hZ (wd hw 37 rfl)) (by decide) (backOf (W := 0) (rmP0 l Z a0 hw [] b5 nb_6 k1 vt (w0 * vt) (w1 * vt) (w2 * vt) T6.heap n0 Z6 f6_1 f6_2 f6_4 unz) hZ (wd hw 39 rfl) (wd hw 3 rfl) (by decide) (by decide)) q24a q24c (g := (mkF m 118 #[vi p0, vi p1, vi p2, vi p3, vi (1 : Int32), vi w0, vi w1, vi w2, vi vt, vr b1, vr b5, vi (0 : Int32), vi (1 : Int32), uu] [(.int (0 : Int32)), (.ref b5)])) rfl (by rw [hml]; rfl) (Steps.refl _) (argsL := [(.int (0 : Int32))]) (rest := []) (lenOf pd_4 rfl) rfl (by show 2 * 0 + _ ≤ _; exact Nat.le_of_eq rfl) (hb hby at_118) (fun _ _ => ⟨rfl, eh22, (by decide : 3 + 0 ≤ _), (by decide : 8 + 0 ≤ _)⟩)
      dsimp only [Pt.U, Pt.locs, Pt.cells, Pt.slots] at X24 l24 y24 z24 st24 hQ24
      subst l24 y24 z24
      obtain ⟨rfl, Nq24, eh24⟩ := hQ24
      have N24 := Fr.app N22 Nq24
      obtain ⟨_, _, ⟨T25, L25, k25, n25⟩, -, X25, ⟨Lc25, hQ25, l25, y25, z25⟩, st25⟩ := Jvm.LawKit.callS X24 hx (y := (⟨"org/quarrel/model/DistributionProbabilityPinLaw", "expected", "(IIII)D"⟩ : MethodName)) hown (mvT hZ (wd hw 40 rfl)) (mvT hZ (wd hw 41 rfl)) (mvT hZ (wd hw 42 rfl)) (mvT hZ (wd hw 43 rfl)) (by decide) (backOf (W := 2) (rmE0 l Z a0 hw [] w0 w1 w2 T6.heap n0 Z6) hZ (wd hw 43 rfl) (wd hw 42 rfl) (by decide) (by decide)) (g := (mkF m 129 #[vi p0, vi p1, vi p2, vi p3, vi (1 : Int32), vi w0, vi w1, vi w2, vi vt, vr b1, vr b5, vi (0 : Int32), vi (1 : Int32), uu] [(.int w2), (.int w1), (.int w0), (.int (0 : Int32)), (.double (FP.ddiv (FP.i2d (w0 * vt)) (FP.i2d vt)))])) rfl (by rw [hml]; rfl) (argsL := [(.int (0 : Int32)), (.int w0), (.int w1), (.int w2)]) (rest := [(.double (FP.ddiv (FP.i2d (w0 * vt)) (FP.i2d vt)))]) (lenOf pd_5 rfl) rfl (by show 2 * 0 + _ ≤ _; exact Nat.le_of_eq rfl) (hb hby at_129) (fun _ _ => ⟨rfl, eh24, (by decide : 3 + 0 ≤ _), (by decide : 8 + 0 ≤ _)⟩)
      dsimp only [Pt.U, Pt.locs, Pt.cells, Pt.slots] at X25 l25 y25 z25 st25 hQ25
      subst l25 y25 z25
      obtain ⟨rfl, Nq25, eh25⟩ := hQ25
      have N25 := Fr.app N24 Nq25
      obtain ⟨fs, hr, hrun, hended, hW, hsame⟩ := X25.leave (v := some (.int (nar .boolean (1 : Int32)))) (fun h => by rw [Bd.returns] at h; cases h)
      refine ⟨_, _, pre0 _ ?_, hrun, hended, _, _, rfl, ?_, ⟨_, rfl⟩, hW, hsame.mono (by decide) (by decide)⟩
      · refine sg9 _ ?_
        refine sg23 _ ?_
        show SS p e below T22 (mkF m 118 #[vi p0, vi p1, vi p2, vi p3, vi (1 : Int32), vi w0, vi w1, vi w2, vi vt, vr b1, vr b5, vi (0 : Int32), vi (1 : Int32), uu] [(.int (0 : Int32)), (.ref b5)]) _
        refine st24.trans ?_
        show SS p e below T24 (mkF m 121 #[vi p0, vi p1, vi p2, vi p3, vi (1 : Int32), vi w0, vi w1, vi w2, vi vt, vr b1, vr b5, vi (0 : Int32), vi (1 : Int32), uu] [(.double (FP.ddiv (FP.i2d (w0 * vt)) (FP.i2d vt)))]) _
        refine XS.iload X24.here hx rfl (hb hby at_121) rfl ?_
        show SS p e below T24 (mkF m 123 #[vi p0, vi p1, vi p2, vi p3, vi (1 : Int32), vi w0, vi w1, vi w2, vi vt, vr b1, vr b5, vi (0 : Int32), vi (1 : Int32), uu] [(.int (0 : Int32)), (.double (FP.ddiv (FP.i2d (w0 * vt)) (FP.i2d vt)))]) _
        refine XS.iload X24.here hx rfl (hb hby at_123) rfl ?_
        show SS p e below T24 (mkF m 125 #[vi p0, vi p1, vi p2, vi p3, vi (1 : Int32), vi w0, vi w1, vi w2, vi vt, vr b1, vr b5, vi (0 : Int32), vi (1 : Int32), uu] [(.int w0), (.int (0 : Int32)), (.double (FP.ddiv (FP.i2d (w0 * vt)) (FP.i2d vt)))]) _
        refine XS.iload X24.here hx rfl (hb hby at_125) rfl ?_
        show SS p e below T24 (mkF m 127 #[vi p0, vi p1, vi p2, vi p3, vi (1 : Int32), vi w0, vi w1, vi w2, vi vt, vr b1, vr b5, vi (0 : Int32), vi (1 : Int32), uu] [(.int w1), (.int w0), (.int (0 : Int32)), (.double (FP.ddiv (FP.i2d (w0 * vt)) (FP.i2d vt)))]) _
        refine XS.iload X24.here hx rfl (hb hby at_127) rfl ?_
        show SS p e below T24 (mkF m 129 #[vi p0, vi p1, vi p2, vi p3, vi (1 : Int32), vi w0, vi w1, vi w2, vi vt, vr b1, vr b5, vi (0 : Int32), vi (1 : Int32), uu] [(.int w2), (.int w1), (.int w0), (.int (0 : Int32)), (.double (FP.ddiv (FP.i2d (w0 * vt)) (FP.i2d vt)))]) _
        refine st25 _ ?_
        show SS p e below T25 (mkF m 132 #[vi p0, vi p1, vi p2, vi p3, vi (1 : Int32), vi w0, vi w1, vi w2, vi vt, vr b1, vr b5, vi (0 : Int32), vi (1 : Int32), uu] [(.double (FP.i2d w0)), (.double (FP.ddiv (FP.i2d (w0 * vt)) (FP.i2d vt)))]) _
        refine XS.dcmpS X25.here hx rfl (hb hby at_132) rfl (v := (0 : Int32)) (own_eq ud_0) ?_
        show SS p e below T25 (mkF m 133 #[vi p0, vi p1, vi p2, vi p3, vi (1 : Int32), vi w0, vi w1, vi w2, vi vt, vr b1, vr b5, vi (0 : Int32), vi (1 : Int32), uu] [(.int (0 : Int32))]) _
        refine XS.ifNo X25.here hx rfl (hb hby at_133) rfl ((if0 _ _).trans (teq (rfl : (0 : Int32) = (0 : Int32))).2) ?_
        show SS p e below T25 (mkF m 136 #[vi p0, vi p1, vi p2, vi p3, vi (1 : Int32), vi w0, vi w1, vi w2, vi vt, vr b1, vr b5, vi (0 : Int32), vi (1 : Int32), uu] []) _
        refine XS.iconst X25.here hx rfl (hb hby at_136) ?_
        show SS p e below T25 (mkF m 137 #[vi p0, vi p1, vi p2, vi p3, vi (1 : Int32), vi w0, vi w1, vi w2, vi vt, vr b1, vr b5, vi (0 : Int32), vi (1 : Int32), uu] [(.int (1 : Int32))]) _
        refine XS.goto X25.here hx rfl (pc0 := 137) (pc' := 141) rfl (hb hby at_137) (by decide) (by decide) ?_
        show SS p e below T25 (mkF m 141 #[vi p0, vi p1, vi p2, vi p3, vi (1 : Int32), vi w0, vi w1, vi w2, vi vt, vr b1, vr b5, vi (0 : Int32), vi (1 : Int32), uu] [(.int (1 : Int32))]) _
        refine XS.istore X25.here hx rfl (hb hby at_141) rfl (l' := #[vi p0, vi p1, vi p2, vi p3, vi (1 : Int32), vi w0, vi w1, vi w2, vi vt, vr b1, vr b5, vi (0 : Int32), vi (1 : Int32), vi (1 : Int32)]) rfl ?_
        show SS p e below T25 (mkF m 143 #[vi p0, vi p1, vi p2, vi p3, vi (1 : Int32), vi w0, vi w1, vi w2, vi vt, vr b1, vr b5, vi (0 : Int32), vi (1 : Int32), vi (1 : Int32)] []) _
        refine XS.iload X25.here hx rfl (hb hby at_143) rfl ?_
        show SS p e below T25 (mkF m 145 #[vi p0, vi p1, vi p2, vi p3, vi (1 : Int32), vi w0, vi w1, vi w2, vi vt, vr b1, vr b5, vi (0 : Int32), vi (1 : Int32), vi (1 : Int32)] [(.int (1 : Int32))]) _
        refine XS.ifNo X25.here hx rfl (hb hby at_145) rfl ((if0 _ _).trans (feq (by decide : ¬ ((1 : Int32) = (0 : Int32)))).1) ?_
        show SS p e below T25 (mkF m 148 #[vi p0, vi p1, vi p2, vi p3, vi (1 : Int32), vi w0, vi w1, vi w2, vi vt, vr b1, vr b5, vi (0 : Int32), vi (1 : Int32), vi (1 : Int32)] []) _
        refine XS.iload X25.here hx rfl (hb hby at_148) rfl ?_
        show SS p e below T25 (mkF m 150 #[vi p0, vi p1, vi p2, vi p3, vi (1 : Int32), vi w0, vi w1, vi w2, vi vt, vr b1, vr b5, vi (0 : Int32), vi (1 : Int32), vi (1 : Int32)] [(.int (1 : Int32))]) _
        refine XS.ifNo X25.here hx rfl (hb hby at_150) rfl ((if0 _ _).trans (feq (by decide : ¬ ((1 : Int32) = (0 : Int32)))).1) ?_
        show SS p e below T25 (mkF m 153 #[vi p0, vi p1, vi p2, vi p3, vi (1 : Int32), vi w0, vi w1, vi w2, vi vt, vr b1, vr b5, vi (0 : Int32), vi (1 : Int32), vi (1 : Int32)] []) _
        refine XS.iconst X25.here hx rfl (hb hby at_153) ?_
        show SS p e below T25 (mkF m 154 #[vi p0, vi p1, vi p2, vi p3, vi (1 : Int32), vi w0, vi w1, vi w2, vi vt, vr b1, vr b5, vi (0 : Int32), vi (1 : Int32), vi (1 : Int32)] [(.int (1 : Int32))]) _
        refine XS.goto X25.here hx rfl (pc0 := 154) (pc' := 158) rfl (hb hby at_154) (by decide) (by decide) ?_
        show SS p e below T25 (mkF m 158 #[vi p0, vi p1, vi p2, vi p3, vi (1 : Int32), vi w0, vi w1, vi w2, vi vt, vr b1, vr b5, vi (0 : Int32), vi (1 : Int32), vi (1 : Int32)] [(.int (1 : Int32))]) _
        exact retN X25 hx (t := .boolean) Bd.returns (by simp) (hb hby at_158) hr
      · show Q_rm0 Z p0 p1 p2 p3 (1 : Int32) w0 w1 w2 vt (0 : Int32) h0 n0 _ T25.heap _
        rw [eh25]
        exact ⟨rfl, N25⟩
    · obtain ⟨cq26, kq26, q26a, q26b, q26c⟩ := isOf hZ eh22 f6_0
      obtain ⟨_, _, ⟨T26, L26, k26, n26⟩, -, X26, ⟨Lc26, hQ26, l26, y26, z26⟩, st26⟩ := X22.virtualBack hx (y := (⟨"org/quarrel/model/Distribution", "probability", "(I)D"⟩ : MethodName)) (z := (⟨"org/quarrel/model/Distribution", "probability", "(I)D"⟩ : MethodName)) hown (mvT hZ (wd hw 35 rfl)) (mvT hZ (wd hw 36 rfl)) (notFace_of_selects (args := #[]) (mvT hZ (wd hw 38 rfl))) (mvT hZ (wd hw 38 rfl)) (mvT hZ (wd hw 37 rfl)) (by decide) (backOf (W := 0) (rmP1 l Z a0 hw [] b5 nb_6 k1 vt (w0 * vt) (w1 * vt) (w2 * vt) T6.heap n0 Z6 f6_1 f6_2 f6_4 unz) hZ (wd hw 39 rfl) (wd hw 3 rfl) (by decide) (by decide)) q26a q26c (g := (mkF m 118 #[vi p0, vi p1, vi p2, vi p3, vi (1 : Int32), vi w0, vi w1, vi w2, vi vt, vr b1, vr b5, vi (1 : Int32), vi (1 : Int32), uu] [(.int (1 : Int32)), (.ref b5)])) rfl (by rw [hml]; rfl) (Steps.refl _) (argsL := [(.int (1 : Int32))]) (rest := []) (lenOf pd_4 rfl) rfl (by show 2 * 0 + _ ≤ _; exact Nat.le_of_eq rfl) (hb hby at_118) (fun _ _ => ⟨rfl, eh22, (by decide : 3 + 0 ≤ _), (by decide : 8 + 0 ≤ _)⟩)
      dsimp only [Pt.U, Pt.locs, Pt.cells, Pt.slots] at X26 l26 y26 z26 st26 hQ26
      subst l26 y26 z26
      obtain ⟨rfl, Nq26, eh26⟩ := hQ26
      have N26 := Fr.app N22 Nq26
      obtain ⟨_, _, ⟨T27, L27, k27, n27⟩, -, X27, ⟨Lc27, hQ27, l27, y27, z27⟩, st27⟩ := Jvm.LawKit.callS X26 hx (y := (⟨"org/quarrel/model/DistributionProbabilityPinLaw", "expected", "(IIII)D"⟩ : MethodName)) hown (mvT hZ (wd hw 40 rfl)) (mvT hZ (wd hw 41 rfl)) (mvT hZ (wd hw 42 rfl)) (mvT hZ (wd hw 43 rfl)) (by decide) (backOf (W := 2) (rmE1 l Z a0 hw [] w0 w1 w2 T6.heap n0 Z6) hZ (wd hw 43 rfl) (wd hw 42 rfl) (by decide) (by decide)) (g := (mkF m 129 #[vi p0, vi p1, vi p2, vi p3, vi (1 : Int32), vi w0, vi w1, vi w2, vi vt, vr b1, vr b5, vi (1 : Int32), vi (1 : Int32), uu] [(.int w2), (.int w1), (.int w0), (.int (1 : Int32)), (.double (FP.ddiv (FP.i2d (w1 * vt)) (FP.i2d vt)))])) rfl (by rw [hml]; rfl) (argsL := [(.int (1 : Int32)), (.int w0), (.int w1), (.int w2)]) (rest := [(.double (FP.ddiv (FP.i2d (w1 * vt)) (FP.i2d vt)))]) (lenOf pd_5 rfl) rfl (by show 2 * 0 + _ ≤ _; exact Nat.le_of_eq rfl) (hb hby at_129) (fun _ _ => ⟨rfl, eh26, (by decide : 3 + 0 ≤ _), (by decide : 8 + 0 ≤ _)⟩)
      dsimp only [Pt.U, Pt.locs, Pt.cells, Pt.slots] at X27 l27 y27 z27 st27 hQ27
      subst l27 y27 z27
      obtain ⟨rfl, Nq27, eh27⟩ := hQ27
      have N27 := Fr.app N26 Nq27
      obtain ⟨fs, hr, hrun, hended, hW, hsame⟩ := X27.leave (v := some (.int (nar .boolean (1 : Int32)))) (fun h => by rw [Bd.returns] at h; cases h)
      refine ⟨_, _, pre0 _ ?_, hrun, hended, _, _, rfl, ?_, ⟨_, rfl⟩, hW, hsame.mono (by decide) (by decide)⟩
      · refine sg9 _ ?_
        refine sg23 _ ?_
        show SS p e below T22 (mkF m 118 #[vi p0, vi p1, vi p2, vi p3, vi (1 : Int32), vi w0, vi w1, vi w2, vi vt, vr b1, vr b5, vi (1 : Int32), vi (1 : Int32), uu] [(.int (1 : Int32)), (.ref b5)]) _
        refine st26.trans ?_
        show SS p e below T26 (mkF m 121 #[vi p0, vi p1, vi p2, vi p3, vi (1 : Int32), vi w0, vi w1, vi w2, vi vt, vr b1, vr b5, vi (1 : Int32), vi (1 : Int32), uu] [(.double (FP.ddiv (FP.i2d (w1 * vt)) (FP.i2d vt)))]) _
        refine XS.iload X26.here hx rfl (hb hby at_121) rfl ?_
        show SS p e below T26 (mkF m 123 #[vi p0, vi p1, vi p2, vi p3, vi (1 : Int32), vi w0, vi w1, vi w2, vi vt, vr b1, vr b5, vi (1 : Int32), vi (1 : Int32), uu] [(.int (1 : Int32)), (.double (FP.ddiv (FP.i2d (w1 * vt)) (FP.i2d vt)))]) _
        refine XS.iload X26.here hx rfl (hb hby at_123) rfl ?_
        show SS p e below T26 (mkF m 125 #[vi p0, vi p1, vi p2, vi p3, vi (1 : Int32), vi w0, vi w1, vi w2, vi vt, vr b1, vr b5, vi (1 : Int32), vi (1 : Int32), uu] [(.int w0), (.int (1 : Int32)), (.double (FP.ddiv (FP.i2d (w1 * vt)) (FP.i2d vt)))]) _
        refine XS.iload X26.here hx rfl (hb hby at_125) rfl ?_
        show SS p e below T26 (mkF m 127 #[vi p0, vi p1, vi p2, vi p3, vi (1 : Int32), vi w0, vi w1, vi w2, vi vt, vr b1, vr b5, vi (1 : Int32), vi (1 : Int32), uu] [(.int w1), (.int w0), (.int (1 : Int32)), (.double (FP.ddiv (FP.i2d (w1 * vt)) (FP.i2d vt)))]) _
        refine XS.iload X26.here hx rfl (hb hby at_127) rfl ?_
        show SS p e below T26 (mkF m 129 #[vi p0, vi p1, vi p2, vi p3, vi (1 : Int32), vi w0, vi w1, vi w2, vi vt, vr b1, vr b5, vi (1 : Int32), vi (1 : Int32), uu] [(.int w2), (.int w1), (.int w0), (.int (1 : Int32)), (.double (FP.ddiv (FP.i2d (w1 * vt)) (FP.i2d vt)))]) _
        refine st27 _ ?_
        show SS p e below T27 (mkF m 132 #[vi p0, vi p1, vi p2, vi p3, vi (1 : Int32), vi w0, vi w1, vi w2, vi vt, vr b1, vr b5, vi (1 : Int32), vi (1 : Int32), uu] [(.double (FP.i2d w1)), (.double (FP.ddiv (FP.i2d (w1 * vt)) (FP.i2d vt)))]) _
        refine XS.dcmpS X27.here hx rfl (hb hby at_132) rfl (v := (0 : Int32)) (own_eq ud_1) ?_
        show SS p e below T27 (mkF m 133 #[vi p0, vi p1, vi p2, vi p3, vi (1 : Int32), vi w0, vi w1, vi w2, vi vt, vr b1, vr b5, vi (1 : Int32), vi (1 : Int32), uu] [(.int (0 : Int32))]) _
        refine XS.ifNo X27.here hx rfl (hb hby at_133) rfl ((if0 _ _).trans (teq (rfl : (0 : Int32) = (0 : Int32))).2) ?_
        show SS p e below T27 (mkF m 136 #[vi p0, vi p1, vi p2, vi p3, vi (1 : Int32), vi w0, vi w1, vi w2, vi vt, vr b1, vr b5, vi (1 : Int32), vi (1 : Int32), uu] []) _
        refine XS.iconst X27.here hx rfl (hb hby at_136) ?_
        show SS p e below T27 (mkF m 137 #[vi p0, vi p1, vi p2, vi p3, vi (1 : Int32), vi w0, vi w1, vi w2, vi vt, vr b1, vr b5, vi (1 : Int32), vi (1 : Int32), uu] [(.int (1 : Int32))]) _
        refine XS.goto X27.here hx rfl (pc0 := 137) (pc' := 141) rfl (hb hby at_137) (by decide) (by decide) ?_
        show SS p e below T27 (mkF m 141 #[vi p0, vi p1, vi p2, vi p3, vi (1 : Int32), vi w0, vi w1, vi w2, vi vt, vr b1, vr b5, vi (1 : Int32), vi (1 : Int32), uu] [(.int (1 : Int32))]) _
        refine XS.istore X27.here hx rfl (hb hby at_141) rfl (l' := #[vi p0, vi p1, vi p2, vi p3, vi (1 : Int32), vi w0, vi w1, vi w2, vi vt, vr b1, vr b5, vi (1 : Int32), vi (1 : Int32), vi (1 : Int32)]) rfl ?_
        show SS p e below T27 (mkF m 143 #[vi p0, vi p1, vi p2, vi p3, vi (1 : Int32), vi w0, vi w1, vi w2, vi vt, vr b1, vr b5, vi (1 : Int32), vi (1 : Int32), vi (1 : Int32)] []) _
        refine XS.iload X27.here hx rfl (hb hby at_143) rfl ?_
        show SS p e below T27 (mkF m 145 #[vi p0, vi p1, vi p2, vi p3, vi (1 : Int32), vi w0, vi w1, vi w2, vi vt, vr b1, vr b5, vi (1 : Int32), vi (1 : Int32), vi (1 : Int32)] [(.int (1 : Int32))]) _
        refine XS.ifNo X27.here hx rfl (hb hby at_145) rfl ((if0 _ _).trans (feq (by decide : ¬ ((1 : Int32) = (0 : Int32)))).1) ?_
        show SS p e below T27 (mkF m 148 #[vi p0, vi p1, vi p2, vi p3, vi (1 : Int32), vi w0, vi w1, vi w2, vi vt, vr b1, vr b5, vi (1 : Int32), vi (1 : Int32), vi (1 : Int32)] []) _
        refine XS.iload X27.here hx rfl (hb hby at_148) rfl ?_
        show SS p e below T27 (mkF m 150 #[vi p0, vi p1, vi p2, vi p3, vi (1 : Int32), vi w0, vi w1, vi w2, vi vt, vr b1, vr b5, vi (1 : Int32), vi (1 : Int32), vi (1 : Int32)] [(.int (1 : Int32))]) _
        refine XS.ifNo X27.here hx rfl (hb hby at_150) rfl ((if0 _ _).trans (feq (by decide : ¬ ((1 : Int32) = (0 : Int32)))).1) ?_
        show SS p e below T27 (mkF m 153 #[vi p0, vi p1, vi p2, vi p3, vi (1 : Int32), vi w0, vi w1, vi w2, vi vt, vr b1, vr b5, vi (1 : Int32), vi (1 : Int32), vi (1 : Int32)] []) _
        refine XS.iconst X27.here hx rfl (hb hby at_153) ?_
        show SS p e below T27 (mkF m 154 #[vi p0, vi p1, vi p2, vi p3, vi (1 : Int32), vi w0, vi w1, vi w2, vi vt, vr b1, vr b5, vi (1 : Int32), vi (1 : Int32), vi (1 : Int32)] [(.int (1 : Int32))]) _
        refine XS.goto X27.here hx rfl (pc0 := 154) (pc' := 158) rfl (hb hby at_154) (by decide) (by decide) ?_
        show SS p e below T27 (mkF m 158 #[vi p0, vi p1, vi p2, vi p3, vi (1 : Int32), vi w0, vi w1, vi w2, vi vt, vr b1, vr b5, vi (1 : Int32), vi (1 : Int32), vi (1 : Int32)] [(.int (1 : Int32))]) _
        exact retN X27 hx (t := .boolean) Bd.returns (by simp) (hb hby at_158) hr
      · show Q_rm0 Z p0 p1 p2 p3 (1 : Int32) w0 w1 w2 vt (1 : Int32) h0 n0 _ T27.heap _
        rw [eh27]
        exact ⟨rfl, N27⟩
    · obtain ⟨cq28, kq28, q28a, q28b, q28c⟩ := isOf hZ eh22 f6_0
      obtain ⟨_, _, ⟨T28, L28, k28, n28⟩, -, X28, ⟨Lc28, hQ28, l28, y28, z28⟩, st28⟩ := X22.virtualBack hx (y := (⟨"org/quarrel/model/Distribution", "probability", "(I)D"⟩ : MethodName)) (z := (⟨"org/quarrel/model/Distribution", "probability", "(I)D"⟩ : MethodName)) hown (mvT hZ (wd hw 35 rfl)) (mvT hZ (wd hw 36 rfl)) (notFace_of_selects (args := #[]) (mvT hZ (wd hw 38 rfl))) (mvT hZ (wd hw 38 rfl)) (mvT hZ (wd hw 37 rfl)) (by decide) (backOf (W := 0) (rmP2 l Z a0 hw [] b5 nb_6 k1 vt (w0 * vt) (w1 * vt) (w2 * vt) T6.heap n0 Z6 f6_1 f6_2 f6_4 unz) hZ (wd hw 39 rfl) (wd hw 3 rfl) (by decide) (by decide)) q28a q28c (g := (mkF m 118 #[vi p0, vi p1, vi p2, vi p3, vi (1 : Int32), vi w0, vi w1, vi w2, vi vt, vr b1, vr b5, vi (2 : Int32), vi (1 : Int32), uu] [(.int (2 : Int32)), (.ref b5)])) rfl (by rw [hml]; rfl) (Steps.refl _) (argsL := [(.int (2 : Int32))]) (rest := []) (lenOf pd_4 rfl) rfl (by show 2 * 0 + _ ≤ _; exact Nat.le_of_eq rfl) (hb hby at_118) (fun _ _ => ⟨rfl, eh22, (by decide : 3 + 0 ≤ _), (by decide : 8 + 0 ≤ _)⟩)
      dsimp only [Pt.U, Pt.locs, Pt.cells, Pt.slots] at X28 l28 y28 z28 st28 hQ28
      subst l28 y28 z28
      obtain ⟨rfl, Nq28, eh28⟩ := hQ28
      have N28 := Fr.app N22 Nq28
      obtain ⟨_, _, ⟨T29, L29, k29, n29⟩, -, X29, ⟨Lc29, hQ29, l29, y29, z29⟩, st29⟩ := Jvm.LawKit.callS X28 hx (y := (⟨"org/quarrel/model/DistributionProbabilityPinLaw", "expected", "(IIII)D"⟩ : MethodName)) hown (mvT hZ (wd hw 40 rfl)) (mvT hZ (wd hw 41 rfl)) (mvT hZ (wd hw 42 rfl)) (mvT hZ (wd hw 43 rfl)) (by decide) (backOf (W := 2) (rmE2 l Z a0 hw [] w0 w1 w2 T6.heap n0 Z6) hZ (wd hw 43 rfl) (wd hw 42 rfl) (by decide) (by decide)) (g := (mkF m 129 #[vi p0, vi p1, vi p2, vi p3, vi (1 : Int32), vi w0, vi w1, vi w2, vi vt, vr b1, vr b5, vi (2 : Int32), vi (1 : Int32), uu] [(.int w2), (.int w1), (.int w0), (.int (2 : Int32)), (.double (FP.ddiv (FP.i2d (w2 * vt)) (FP.i2d vt)))])) rfl (by rw [hml]; rfl) (argsL := [(.int (2 : Int32)), (.int w0), (.int w1), (.int w2)]) (rest := [(.double (FP.ddiv (FP.i2d (w2 * vt)) (FP.i2d vt)))]) (lenOf pd_5 rfl) rfl (by show 2 * 0 + _ ≤ _; exact Nat.le_of_eq rfl) (hb hby at_129) (fun _ _ => ⟨rfl, eh28, (by decide : 3 + 0 ≤ _), (by decide : 8 + 0 ≤ _)⟩)
      dsimp only [Pt.U, Pt.locs, Pt.cells, Pt.slots] at X29 l29 y29 z29 st29 hQ29
      subst l29 y29 z29
      obtain ⟨rfl, Nq29, eh29⟩ := hQ29
      have N29 := Fr.app N28 Nq29
      obtain ⟨fs, hr, hrun, hended, hW, hsame⟩ := X29.leave (v := some (.int (nar .boolean (1 : Int32)))) (fun h => by rw [Bd.returns] at h; cases h)
      refine ⟨_, _, pre0 _ ?_, hrun, hended, _, _, rfl, ?_, ⟨_, rfl⟩, hW, hsame.mono (by decide) (by decide)⟩
      · refine sg9 _ ?_
        refine sg23 _ ?_
        show SS p e below T22 (mkF m 118 #[vi p0, vi p1, vi p2, vi p3, vi (1 : Int32), vi w0, vi w1, vi w2, vi vt, vr b1, vr b5, vi (2 : Int32), vi (1 : Int32), uu] [(.int (2 : Int32)), (.ref b5)]) _
        refine st28.trans ?_
        show SS p e below T28 (mkF m 121 #[vi p0, vi p1, vi p2, vi p3, vi (1 : Int32), vi w0, vi w1, vi w2, vi vt, vr b1, vr b5, vi (2 : Int32), vi (1 : Int32), uu] [(.double (FP.ddiv (FP.i2d (w2 * vt)) (FP.i2d vt)))]) _
        refine XS.iload X28.here hx rfl (hb hby at_121) rfl ?_
        show SS p e below T28 (mkF m 123 #[vi p0, vi p1, vi p2, vi p3, vi (1 : Int32), vi w0, vi w1, vi w2, vi vt, vr b1, vr b5, vi (2 : Int32), vi (1 : Int32), uu] [(.int (2 : Int32)), (.double (FP.ddiv (FP.i2d (w2 * vt)) (FP.i2d vt)))]) _
        refine XS.iload X28.here hx rfl (hb hby at_123) rfl ?_
        show SS p e below T28 (mkF m 125 #[vi p0, vi p1, vi p2, vi p3, vi (1 : Int32), vi w0, vi w1, vi w2, vi vt, vr b1, vr b5, vi (2 : Int32), vi (1 : Int32), uu] [(.int w0), (.int (2 : Int32)), (.double (FP.ddiv (FP.i2d (w2 * vt)) (FP.i2d vt)))]) _
        refine XS.iload X28.here hx rfl (hb hby at_125) rfl ?_
        show SS p e below T28 (mkF m 127 #[vi p0, vi p1, vi p2, vi p3, vi (1 : Int32), vi w0, vi w1, vi w2, vi vt, vr b1, vr b5, vi (2 : Int32), vi (1 : Int32), uu] [(.int w1), (.int w0), (.int (2 : Int32)), (.double (FP.ddiv (FP.i2d (w2 * vt)) (FP.i2d vt)))]) _
        refine XS.iload X28.here hx rfl (hb hby at_127) rfl ?_
        show SS p e below T28 (mkF m 129 #[vi p0, vi p1, vi p2, vi p3, vi (1 : Int32), vi w0, vi w1, vi w2, vi vt, vr b1, vr b5, vi (2 : Int32), vi (1 : Int32), uu] [(.int w2), (.int w1), (.int w0), (.int (2 : Int32)), (.double (FP.ddiv (FP.i2d (w2 * vt)) (FP.i2d vt)))]) _
        refine st29 _ ?_
        show SS p e below T29 (mkF m 132 #[vi p0, vi p1, vi p2, vi p3, vi (1 : Int32), vi w0, vi w1, vi w2, vi vt, vr b1, vr b5, vi (2 : Int32), vi (1 : Int32), uu] [(.double (FP.i2d w2)), (.double (FP.ddiv (FP.i2d (w2 * vt)) (FP.i2d vt)))]) _
        refine XS.dcmpS X29.here hx rfl (hb hby at_132) rfl (v := (0 : Int32)) (own_eq ud_2) ?_
        show SS p e below T29 (mkF m 133 #[vi p0, vi p1, vi p2, vi p3, vi (1 : Int32), vi w0, vi w1, vi w2, vi vt, vr b1, vr b5, vi (2 : Int32), vi (1 : Int32), uu] [(.int (0 : Int32))]) _
        refine XS.ifNo X29.here hx rfl (hb hby at_133) rfl ((if0 _ _).trans (teq (rfl : (0 : Int32) = (0 : Int32))).2) ?_
        show SS p e below T29 (mkF m 136 #[vi p0, vi p1, vi p2, vi p3, vi (1 : Int32), vi w0, vi w1, vi w2, vi vt, vr b1, vr b5, vi (2 : Int32), vi (1 : Int32), uu] []) _
        refine XS.iconst X29.here hx rfl (hb hby at_136) ?_
        show SS p e below T29 (mkF m 137 #[vi p0, vi p1, vi p2, vi p3, vi (1 : Int32), vi w0, vi w1, vi w2, vi vt, vr b1, vr b5, vi (2 : Int32), vi (1 : Int32), uu] [(.int (1 : Int32))]) _
        refine XS.goto X29.here hx rfl (pc0 := 137) (pc' := 141) rfl (hb hby at_137) (by decide) (by decide) ?_
        show SS p e below T29 (mkF m 141 #[vi p0, vi p1, vi p2, vi p3, vi (1 : Int32), vi w0, vi w1, vi w2, vi vt, vr b1, vr b5, vi (2 : Int32), vi (1 : Int32), uu] [(.int (1 : Int32))]) _
        refine XS.istore X29.here hx rfl (hb hby at_141) rfl (l' := #[vi p0, vi p1, vi p2, vi p3, vi (1 : Int32), vi w0, vi w1, vi w2, vi vt, vr b1, vr b5, vi (2 : Int32), vi (1 : Int32), vi (1 : Int32)]) rfl ?_
        show SS p e below T29 (mkF m 143 #[vi p0, vi p1, vi p2, vi p3, vi (1 : Int32), vi w0, vi w1, vi w2, vi vt, vr b1, vr b5, vi (2 : Int32), vi (1 : Int32), vi (1 : Int32)] []) _
        refine XS.iload X29.here hx rfl (hb hby at_143) rfl ?_
        show SS p e below T29 (mkF m 145 #[vi p0, vi p1, vi p2, vi p3, vi (1 : Int32), vi w0, vi w1, vi w2, vi vt, vr b1, vr b5, vi (2 : Int32), vi (1 : Int32), vi (1 : Int32)] [(.int (1 : Int32))]) _
        refine XS.ifNo X29.here hx rfl (hb hby at_145) rfl ((if0 _ _).trans (feq (by decide : ¬ ((1 : Int32) = (0 : Int32)))).1) ?_
        show SS p e below T29 (mkF m 148 #[vi p0, vi p1, vi p2, vi p3, vi (1 : Int32), vi w0, vi w1, vi w2, vi vt, vr b1, vr b5, vi (2 : Int32), vi (1 : Int32), vi (1 : Int32)] []) _
        refine XS.iload X29.here hx rfl (hb hby at_148) rfl ?_
        show SS p e below T29 (mkF m 150 #[vi p0, vi p1, vi p2, vi p3, vi (1 : Int32), vi w0, vi w1, vi w2, vi vt, vr b1, vr b5, vi (2 : Int32), vi (1 : Int32), vi (1 : Int32)] [(.int (1 : Int32))]) _
        refine XS.ifNo X29.here hx rfl (hb hby at_150) rfl ((if0 _ _).trans (feq (by decide : ¬ ((1 : Int32) = (0 : Int32)))).1) ?_
        show SS p e below T29 (mkF m 153 #[vi p0, vi p1, vi p2, vi p3, vi (1 : Int32), vi w0, vi w1, vi w2, vi vt, vr b1, vr b5, vi (2 : Int32), vi (1 : Int32), vi (1 : Int32)] []) _
        refine XS.iconst X29.here hx rfl (hb hby at_153) ?_
        show SS p e below T29 (mkF m 154 #[vi p0, vi p1, vi p2, vi p3, vi (1 : Int32), vi w0, vi w1, vi w2, vi vt, vr b1, vr b5, vi (2 : Int32), vi (1 : Int32), vi (1 : Int32)] [(.int (1 : Int32))]) _
        refine XS.goto X29.here hx rfl (pc0 := 154) (pc' := 158) rfl (hb hby at_154) (by decide) (by decide) ?_
        show SS p e below T29 (mkF m 158 #[vi p0, vi p1, vi p2, vi p3, vi (1 : Int32), vi w0, vi w1, vi w2, vi vt, vr b1, vr b5, vi (2 : Int32), vi (1 : Int32), vi (1 : Int32)] [(.int (1 : Int32))]) _
        exact retN X29 hx (t := .boolean) Bd.returns (by simp) (hb hby at_158) hr
      · show Q_rm0 Z p0 p1 p2 p3 (1 : Int32) w0 w1 w2 vt (2 : Int32) h0 n0 _ T29.heap _
        rw [eh29]
        exact ⟨rfl, N29⟩
    · obtain ⟨cq30, kq30, q30a, q30b, q30c⟩ := isOf hZ eh22 f6_0
      obtain ⟨_, _, ⟨T30, L30, k30, n30⟩, -, X30, ⟨Lc30, hQ30, l30, y30, z30⟩, st30⟩ := X22.virtualBack hx (y := (⟨"org/quarrel/model/Distribution", "probability", "(I)D"⟩ : MethodName)) (z := (⟨"org/quarrel/model/Distribution", "probability", "(I)D"⟩ : MethodName)) hown (mvT hZ (wd hw 35 rfl)) (mvT hZ (wd hw 36 rfl)) (notFace_of_selects (args := #[]) (mvT hZ (wd hw 38 rfl))) (mvT hZ (wd hw 38 rfl)) (mvT hZ (wd hw 37 rfl)) (by decide) (backOf (W := 0) (rmPh l Z a0 hw [] b5 (3 : Int32) nb_6 k1 vt (w0 * vt) (w1 * vt) (w2 * vt) T6.heap n0 Z6 f6_1 f6_2 f6_4 unz (by decide) (by decide)) hZ (wd hw 39 rfl) (wd hw 3 rfl) (by decide) (by decide)) q30a q30c (g := (mkF m 118 #[vi p0, vi p1, vi p2, vi p3, vi (1 : Int32), vi w0, vi w1, vi w2, vi vt, vr b1, vr b5, vi (3 : Int32), vi (1 : Int32), uu] [(.int (3 : Int32)), (.ref b5)])) rfl (by rw [hml]; rfl) (Steps.refl _) (argsL := [(.int (3 : Int32))]) (rest := []) (lenOf pd_4 rfl) rfl (by show 2 * 0 + _ ≤ _; exact Nat.le_of_eq rfl) (hb hby at_118) (fun _ _ => ⟨rfl, eh22, (by decide : 3 + 0 ≤ _), (by decide : 8 + 0 ≤ _)⟩)
      dsimp only [Pt.U, Pt.locs, Pt.cells, Pt.slots] at X30 l30 y30 z30 st30 hQ30
      subst l30 y30 z30
      obtain ⟨rfl, Nq30, eh30⟩ := hQ30
      have N30 := Fr.app N22 Nq30
      obtain ⟨_, _, ⟨T31, L31, k31, n31⟩, -, X31, ⟨Lc31, hQ31, l31, y31, z31⟩, st31⟩ := Jvm.LawKit.callS X30 hx (y := (⟨"org/quarrel/model/DistributionProbabilityPinLaw", "expected", "(IIII)D"⟩ : MethodName)) hown (mvT hZ (wd hw 40 rfl)) (mvT hZ (wd hw 41 rfl)) (mvT hZ (wd hw 42 rfl)) (mvT hZ (wd hw 43 rfl)) (by decide) (backOf (W := 2) (rmEn l Z a0 hw [] (3 : Int32) w0 w1 w2 T6.heap n0 Z6 (by decide) (by decide) (by decide)) hZ (wd hw 43 rfl) (wd hw 42 rfl) (by decide) (by decide)) (g := (mkF m 129 #[vi p0, vi p1, vi p2, vi p3, vi (1 : Int32), vi w0, vi w1, vi w2, vi vt, vr b1, vr b5, vi (3 : Int32), vi (1 : Int32), uu] [(.int w2), (.int w1), (.int w0), (.int (3 : Int32)), (.double (0 : UInt64))])) rfl (by rw [hml]; rfl) (argsL := [(.int (3 : Int32)), (.int w0), (.int w1), (.int w2)]) (rest := [(.double (0 : UInt64))]) (lenOf pd_5 rfl) rfl (by show 2 * 0 + _ ≤ _; exact Nat.le_of_eq rfl) (hb hby at_129) (fun _ _ => ⟨rfl, eh30, (by decide : 3 + 0 ≤ _), (by decide : 8 + 0 ≤ _)⟩)
      dsimp only [Pt.U, Pt.locs, Pt.cells, Pt.slots] at X31 l31 y31 z31 st31 hQ31
      subst l31 y31 z31
      obtain ⟨rfl, Nq31, eh31⟩ := hQ31
      have N31 := Fr.app N30 Nq31
      obtain ⟨fs, hr, hrun, hended, hW, hsame⟩ := X31.leave (v := some (.int (nar .boolean (1 : Int32)))) (fun h => by rw [Bd.returns] at h; cases h)
      refine ⟨_, _, pre0 _ ?_, hrun, hended, _, _, rfl, ?_, ⟨_, rfl⟩, hW, hsame.mono (by decide) (by decide)⟩
      · refine sg9 _ ?_
        refine sg23 _ ?_
        show SS p e below T22 (mkF m 118 #[vi p0, vi p1, vi p2, vi p3, vi (1 : Int32), vi w0, vi w1, vi w2, vi vt, vr b1, vr b5, vi (3 : Int32), vi (1 : Int32), uu] [(.int (3 : Int32)), (.ref b5)]) _
        refine st30.trans ?_
        show SS p e below T30 (mkF m 121 #[vi p0, vi p1, vi p2, vi p3, vi (1 : Int32), vi w0, vi w1, vi w2, vi vt, vr b1, vr b5, vi (3 : Int32), vi (1 : Int32), uu] [(.double (0 : UInt64))]) _
        refine XS.iload X30.here hx rfl (hb hby at_121) rfl ?_
        show SS p e below T30 (mkF m 123 #[vi p0, vi p1, vi p2, vi p3, vi (1 : Int32), vi w0, vi w1, vi w2, vi vt, vr b1, vr b5, vi (3 : Int32), vi (1 : Int32), uu] [(.int (3 : Int32)), (.double (0 : UInt64))]) _
        refine XS.iload X30.here hx rfl (hb hby at_123) rfl ?_
        show SS p e below T30 (mkF m 125 #[vi p0, vi p1, vi p2, vi p3, vi (1 : Int32), vi w0, vi w1, vi w2, vi vt, vr b1, vr b5, vi (3 : Int32), vi (1 : Int32), uu] [(.int w0), (.int (3 : Int32)), (.double (0 : UInt64))]) _
        refine XS.iload X30.here hx rfl (hb hby at_125) rfl ?_
        show SS p e below T30 (mkF m 127 #[vi p0, vi p1, vi p2, vi p3, vi (1 : Int32), vi w0, vi w1, vi w2, vi vt, vr b1, vr b5, vi (3 : Int32), vi (1 : Int32), uu] [(.int w1), (.int w0), (.int (3 : Int32)), (.double (0 : UInt64))]) _
        refine XS.iload X30.here hx rfl (hb hby at_127) rfl ?_
        show SS p e below T30 (mkF m 129 #[vi p0, vi p1, vi p2, vi p3, vi (1 : Int32), vi w0, vi w1, vi w2, vi vt, vr b1, vr b5, vi (3 : Int32), vi (1 : Int32), uu] [(.int w2), (.int w1), (.int w0), (.int (3 : Int32)), (.double (0 : UInt64))]) _
        refine st31 _ ?_
        show SS p e below T31 (mkF m 132 #[vi p0, vi p1, vi p2, vi p3, vi (1 : Int32), vi w0, vi w1, vi w2, vi vt, vr b1, vr b5, vi (3 : Int32), vi (1 : Int32), uu] [(.double (0 : UInt64)), (.double (0 : UInt64))]) _
        refine XS.dcmpS X31.here hx rfl (hb hby at_132) rfl (v := (0 : Int32)) own_eq0 ?_
        show SS p e below T31 (mkF m 133 #[vi p0, vi p1, vi p2, vi p3, vi (1 : Int32), vi w0, vi w1, vi w2, vi vt, vr b1, vr b5, vi (3 : Int32), vi (1 : Int32), uu] [(.int (0 : Int32))]) _
        refine XS.ifNo X31.here hx rfl (hb hby at_133) rfl ((if0 _ _).trans (teq (rfl : (0 : Int32) = (0 : Int32))).2) ?_
        show SS p e below T31 (mkF m 136 #[vi p0, vi p1, vi p2, vi p3, vi (1 : Int32), vi w0, vi w1, vi w2, vi vt, vr b1, vr b5, vi (3 : Int32), vi (1 : Int32), uu] []) _
        refine XS.iconst X31.here hx rfl (hb hby at_136) ?_
        show SS p e below T31 (mkF m 137 #[vi p0, vi p1, vi p2, vi p3, vi (1 : Int32), vi w0, vi w1, vi w2, vi vt, vr b1, vr b5, vi (3 : Int32), vi (1 : Int32), uu] [(.int (1 : Int32))]) _
        refine XS.goto X31.here hx rfl (pc0 := 137) (pc' := 141) rfl (hb hby at_137) (by decide) (by decide) ?_
        show SS p e below T31 (mkF m 141 #[vi p0, vi p1, vi p2, vi p3, vi (1 : Int32), vi w0, vi w1, vi w2, vi vt, vr b1, vr b5, vi (3 : Int32), vi (1 : Int32), uu] [(.int (1 : Int32))]) _
        refine XS.istore X31.here hx rfl (hb hby at_141) rfl (l' := #[vi p0, vi p1, vi p2, vi p3, vi (1 : Int32), vi w0, vi w1, vi w2, vi vt, vr b1, vr b5, vi (3 : Int32), vi (1 : Int32), vi (1 : Int32)]) rfl ?_
        show SS p e below T31 (mkF m 143 #[vi p0, vi p1, vi p2, vi p3, vi (1 : Int32), vi w0, vi w1, vi w2, vi vt, vr b1, vr b5, vi (3 : Int32), vi (1 : Int32), vi (1 : Int32)] []) _
        refine XS.iload X31.here hx rfl (hb hby at_143) rfl ?_
        show SS p e below T31 (mkF m 145 #[vi p0, vi p1, vi p2, vi p3, vi (1 : Int32), vi w0, vi w1, vi w2, vi vt, vr b1, vr b5, vi (3 : Int32), vi (1 : Int32), vi (1 : Int32)] [(.int (1 : Int32))]) _
        refine XS.ifNo X31.here hx rfl (hb hby at_145) rfl ((if0 _ _).trans (feq (by decide : ¬ ((1 : Int32) = (0 : Int32)))).1) ?_
        show SS p e below T31 (mkF m 148 #[vi p0, vi p1, vi p2, vi p3, vi (1 : Int32), vi w0, vi w1, vi w2, vi vt, vr b1, vr b5, vi (3 : Int32), vi (1 : Int32), vi (1 : Int32)] []) _
        refine XS.iload X31.here hx rfl (hb hby at_148) rfl ?_
        show SS p e below T31 (mkF m 150 #[vi p0, vi p1, vi p2, vi p3, vi (1 : Int32), vi w0, vi w1, vi w2, vi vt, vr b1, vr b5, vi (3 : Int32), vi (1 : Int32), vi (1 : Int32)] [(.int (1 : Int32))]) _
        refine XS.ifNo X31.here hx rfl (hb hby at_150) rfl ((if0 _ _).trans (feq (by decide : ¬ ((1 : Int32) = (0 : Int32)))).1) ?_
        show SS p e below T31 (mkF m 153 #[vi p0, vi p1, vi p2, vi p3, vi (1 : Int32), vi w0, vi w1, vi w2, vi vt, vr b1, vr b5, vi (3 : Int32), vi (1 : Int32), vi (1 : Int32)] []) _
        refine XS.iconst X31.here hx rfl (hb hby at_153) ?_
        show SS p e below T31 (mkF m 154 #[vi p0, vi p1, vi p2, vi p3, vi (1 : Int32), vi w0, vi w1, vi w2, vi vt, vr b1, vr b5, vi (3 : Int32), vi (1 : Int32), vi (1 : Int32)] [(.int (1 : Int32))]) _
        refine XS.goto X31.here hx rfl (pc0 := 154) (pc' := 158) rfl (hb hby at_154) (by decide) (by decide) ?_
        show SS p e below T31 (mkF m 158 #[vi p0, vi p1, vi p2, vi p3, vi (1 : Int32), vi w0, vi w1, vi w2, vi vt, vr b1, vr b5, vi (3 : Int32), vi (1 : Int32), vi (1 : Int32)] [(.int (1 : Int32))]) _
        exact retN X31 hx (t := .boolean) Bd.returns (by simp) (hb hby at_158) hr
      · show Q_rm0 Z p0 p1 p2 p3 (1 : Int32) w0 w1 w2 vt (3 : Int32) h0 n0 _ T31.heap _
        rw [eh31]
        exact ⟨rfl, N31⟩
  · obtain ⟨cq32, kq32, q32a, q32b, q32c⟩ := isOf hZ rfl f6_0
    obtain ⟨_, _, ⟨T32, L32, k32, n32⟩, -, X32, ⟨Lc32, hQ32, l32, y32, z32⟩, st32⟩ := X6.virtualBack hx (y := (⟨"org/quarrel/model/Distribution", "probability", "(I)D"⟩ : MethodName)) (z := (⟨"org/quarrel/model/Distribution", "probability", "(I)D"⟩ : MethodName)) hown (mvT hZ (wd hw 35 rfl)) (mvT hZ (wd hw 36 rfl)) (notFace_of_selects (args := #[]) (mvT hZ (wd hw 38 rfl))) (mvT hZ (wd hw 38 rfl)) (mvT hZ (wd hw 37 rfl)) (by decide) (backOf (W := 0) (rmP2 l Z a0 hw [] b5 nb_6 k1 vt (w0 * vt) (w1 * vt) (w2 * vt) T6.heap n0 Z6 f6_1 f6_2 f6_4 unz) hZ (wd hw 39 rfl) (wd hw 3 rfl) (by decide) (by decide)) q32a q32c (g := (mkF m 89 #[vi p0, vi p1, vi p2, vi p3, vi (2 : Int32), vi w0, vi w1, vi w2, vi vt, vr b1, vr b5, vi vn, uu, uu] [(.int (2 : Int32)), (.ref b5)])) rfl (by rw [hml]; rfl) (Steps.refl _) (argsL := [(.int (2 : Int32))]) (rest := []) (lenOf pd_4 rfl) rfl (by show 2 * 0 + _ ≤ _; exact Nat.le_of_eq rfl) (hb hby at_89) (fun _ _ => ⟨rfl, rfl, (by decide : 3 + 0 ≤ _), (by decide : 8 + 0 ≤ _)⟩)
    dsimp only [Pt.U, Pt.locs, Pt.cells, Pt.slots] at X32 l32 y32 z32 st32 hQ32
    subst l32 y32 z32
    obtain ⟨rfl, Nq32, eh32⟩ := hQ32
    have N32 := Fr.app N6 Nq32
    obtain ⟨_, _, ⟨T33, L33, k33, n33⟩, -, X33, ⟨Lc33, hQ33, l33, y33, z33⟩, st33⟩ := Jvm.LawKit.callS X32 hx (y := (⟨"org/quarrel/model/DistributionProbabilityPinLaw", "expected", "(IIII)D"⟩ : MethodName)) hown (mvT hZ (wd hw 40 rfl)) (mvT hZ (wd hw 41 rfl)) (mvT hZ (wd hw 42 rfl)) (mvT hZ (wd hw 43 rfl)) (by decide) (backOf (W := 2) (rmE2 l Z a0 hw [] w0 w1 w2 T6.heap n0 Z6) hZ (wd hw 43 rfl) (wd hw 42 rfl) (by decide) (by decide)) (g := (mkF m 100 #[vi p0, vi p1, vi p2, vi p3, vi (2 : Int32), vi w0, vi w1, vi w2, vi vt, vr b1, vr b5, vi vn, uu, uu] [(.int w2), (.int w1), (.int w0), (.int (2 : Int32)), (.double (FP.ddiv (FP.i2d (w2 * vt)) (FP.i2d vt)))])) rfl (by rw [hml]; rfl) (argsL := [(.int (2 : Int32)), (.int w0), (.int w1), (.int w2)]) (rest := [(.double (FP.ddiv (FP.i2d (w2 * vt)) (FP.i2d vt)))]) (lenOf pd_5 rfl) rfl (by show 2 * 0 + _ ≤ _; exact Nat.le_of_eq rfl) (hb hby at_100) (fun _ _ => ⟨rfl, eh32, (by decide : 3 + 0 ≤ _), (by decide : 8 + 0 ≤ _)⟩)
    dsimp only [Pt.U, Pt.locs, Pt.cells, Pt.slots] at X33 l33 y33 z33 st33 hQ33
    subst l33 y33 z33
    obtain ⟨rfl, Nq33, eh33⟩ := hQ33
    have N33 := Fr.app N32 Nq33
    have sg34 : ∀ target, SS p e below T33 (mkF m 118 #[vi p0, vi p1, vi p2, vi p3, vi (2 : Int32), vi w0, vi w1, vi w2, vi vt, vr b1, vr b5, vi vn, vi (1 : Int32), uu] [(.int vn), (.ref b5)]) target → SS p e below T6 (mkF m 89 #[vi p0, vi p1, vi p2, vi p3, vi (2 : Int32), vi w0, vi w1, vi w2, vi vt, vr b1, vr b5, vi vn, uu, uu] [(.int (2 : Int32)), (.ref b5)]) target := by
      intro target kt
      show SS p e below T6 (mkF m 89 #[vi p0, vi p1, vi p2, vi p3, vi (2 : Int32), vi w0, vi w1, vi w2, vi vt, vr b1, vr b5, vi vn, uu, uu] [(.int (2 : Int32)), (.ref b5)]) _
      refine st32.trans ?_
      show SS p e below T32 (mkF m 92 #[vi p0, vi p1, vi p2, vi p3, vi (2 : Int32), vi w0, vi w1, vi w2, vi vt, vr b1, vr b5, vi vn, uu, uu] [(.double (FP.ddiv (FP.i2d (w2 * vt)) (FP.i2d vt)))]) _
      refine XS.iload X32.here hx rfl (hb hby at_92) rfl ?_
      show SS p e below T32 (mkF m 94 #[vi p0, vi p1, vi p2, vi p3, vi (2 : Int32), vi w0, vi w1, vi w2, vi vt, vr b1, vr b5, vi vn, uu, uu] [(.int (2 : Int32)), (.double (FP.ddiv (FP.i2d (w2 * vt)) (FP.i2d vt)))]) _
      refine XS.iload X32.here hx rfl (hb hby at_94) rfl ?_
      show SS p e below T32 (mkF m 96 #[vi p0, vi p1, vi p2, vi p3, vi (2 : Int32), vi w0, vi w1, vi w2, vi vt, vr b1, vr b5, vi vn, uu, uu] [(.int w0), (.int (2 : Int32)), (.double (FP.ddiv (FP.i2d (w2 * vt)) (FP.i2d vt)))]) _
      refine XS.iload X32.here hx rfl (hb hby at_96) rfl ?_
      show SS p e below T32 (mkF m 98 #[vi p0, vi p1, vi p2, vi p3, vi (2 : Int32), vi w0, vi w1, vi w2, vi vt, vr b1, vr b5, vi vn, uu, uu] [(.int w1), (.int w0), (.int (2 : Int32)), (.double (FP.ddiv (FP.i2d (w2 * vt)) (FP.i2d vt)))]) _
      refine XS.iload X32.here hx rfl (hb hby at_98) rfl ?_
      show SS p e below T32 (mkF m 100 #[vi p0, vi p1, vi p2, vi p3, vi (2 : Int32), vi w0, vi w1, vi w2, vi vt, vr b1, vr b5, vi vn, uu, uu] [(.int w2), (.int w1), (.int w0), (.int (2 : Int32)), (.double (FP.ddiv (FP.i2d (w2 * vt)) (FP.i2d vt)))]) _
      refine st33 _ ?_
      show SS p e below T33 (mkF m 103 #[vi p0, vi p1, vi p2, vi p3, vi (2 : Int32), vi w0, vi w1, vi w2, vi vt, vr b1, vr b5, vi vn, uu, uu] [(.double (FP.i2d w2)), (.double (FP.ddiv (FP.i2d (w2 * vt)) (FP.i2d vt)))]) _
      refine XS.dcmpS X33.here hx rfl (hb hby at_103) rfl (v := (0 : Int32)) (own_eq ud_2) ?_
      show SS p e below T33 (mkF m 104 #[vi p0, vi p1, vi p2, vi p3, vi (2 : Int32), vi w0, vi w1, vi w2, vi vt, vr b1, vr b5, vi vn, uu, uu] [(.int (0 : Int32))]) _
      refine XS.ifNo X33.here hx rfl (hb hby at_104) rfl ((if0 _ _).trans (teq (rfl : (0 : Int32) = (0 : Int32))).2) ?_
      show SS p e below T33 (mkF m 107 #[vi p0, vi p1, vi p2, vi p3, vi (2 : Int32), vi w0, vi w1, vi w2, vi vt, vr b1, vr b5, vi vn, uu, uu] []) _
      refine XS.iconst X33.here hx rfl (hb hby at_107) ?_
      show SS p e below T33 (mkF m 108 #[vi p0, vi p1, vi p2, vi p3, vi (2 : Int32), vi w0, vi w1, vi w2, vi vt, vr b1, vr b5, vi vn, uu, uu] [(.int (1 : Int32))]) _
      refine XS.goto X33.here hx rfl (pc0 := 108) (pc' := 112) rfl (hb hby at_108) (by decide) (by decide) ?_
      show SS p e below T33 (mkF m 112 #[vi p0, vi p1, vi p2, vi p3, vi (2 : Int32), vi w0, vi w1, vi w2, vi vt, vr b1, vr b5, vi vn, uu, uu] [(.int (1 : Int32))]) _
      refine XS.istore X33.here hx rfl (hb hby at_112) rfl (l' := #[vi p0, vi p1, vi p2, vi p3, vi (2 : Int32), vi w0, vi w1, vi w2, vi vt, vr b1, vr b5, vi vn, vi (1 : Int32), uu]) rfl ?_
      show SS p e below T33 (mkF m 114 #[vi p0, vi p1, vi p2, vi p3, vi (2 : Int32), vi w0, vi w1, vi w2, vi vt, vr b1, vr b5, vi vn, vi (1 : Int32), uu] []) _
      refine XS.aload X33.here hx rfl (hb hby at_114) rfl rfl ?_
      show SS p e below T33 (mkF m 116 #[vi p0, vi p1, vi p2, vi p3, vi (2 : Int32), vi w0, vi w1, vi w2, vi vt, vr b1, vr b5, vi vn, vi (1 : Int32), uu] [(.ref b5)]) _
      refine XS.iload X33.here hx rfl (hb hby at_116) rfl ?_
      exact kt
    rcases un4 with rfl | rfl | rfl | rfl
    · obtain ⟨cq35, kq35, q35a, q35b, q35c⟩ := isOf hZ eh33 f6_0
      obtain ⟨_, _, ⟨T35, L35, k35, n35⟩, -, X35, ⟨Lc35, hQ35, l35, y35, z35⟩, st35⟩ := X33.virtualBack hx (y := (⟨"org/quarrel/model/Distribution", "probability", "(I)D"⟩ : MethodName)) (z := (⟨"org/quarrel/model/Distribution", "probability", "(I)D"⟩ : MethodName)) hown (mvT hZ (wd hw 35 rfl)) (mvT hZ (wd hw 36 rfl)) (notFace_of_selects (args := #[]) (mvT hZ (wd hw 38 rfl))) (mvT hZ (wd hw 38 rfl)) (mvT hZ (wd hw 37 rfl)) (by decide) (backOf (W := 0) (rmP0 l Z a0 hw [] b5 nb_6 k1 vt (w0 * vt) (w1 * vt) (w2 * vt) T6.heap n0 Z6 f6_1 f6_2 f6_4 unz) hZ (wd hw 39 rfl) (wd hw 3 rfl) (by decide) (by decide)) q35a q35c (g := (mkF m 118 #[vi p0, vi p1, vi p2, vi p3, vi (2 : Int32), vi w0, vi w1, vi w2, vi vt, vr b1, vr b5, vi (0 : Int32), vi (1 : Int32), uu] [(.int (0 : Int32)), (.ref b5)])) rfl (by rw [hml]; rfl) (Steps.refl _) (argsL := [(.int (0 : Int32))]) (rest := []) (lenOf pd_4 rfl) rfl (by show 2 * 0 + _ ≤ _; exact Nat.le_of_eq rfl) (hb hby at_118) (fun _ _ => ⟨rfl, eh33, (by decide : 3 + 0 ≤ _), (by decide : 8 + 0 ≤ _)⟩)
      dsimp only [Pt.U, Pt.locs, Pt.cells, Pt.slots] at X35 l35 y35 z35 st35 hQ35
      subst l35 y35 z35
      obtain ⟨rfl, Nq35, eh35⟩ := hQ35
      have N35 := Fr.app N33 Nq35
      obtain ⟨_, _, ⟨T36, L36, k36, n36⟩, -, X36, ⟨Lc36, hQ36, l36, y36, z36⟩, st36⟩ := Jvm.LawKit.callS X35 hx (y := (⟨"org/quarrel/model/DistributionProbabilityPinLaw", "expected", "(IIII)D"⟩ : MethodName)) hown (mvT hZ (wd hw 40 rfl)) (mvT hZ (wd hw 41 rfl)) (mvT hZ (wd hw 42 rfl)) (mvT hZ (wd hw 43 rfl)) (by decide) (backOf (W := 2) (rmE0 l Z a0 hw [] w0 w1 w2 T6.heap n0 Z6) hZ (wd hw 43 rfl) (wd hw 42 rfl) (by decide) (by decide)) (g := (mkF m 129 #[vi p0, vi p1, vi p2, vi p3, vi (2 : Int32), vi w0, vi w1, vi w2, vi vt, vr b1, vr b5, vi (0 : Int32), vi (1 : Int32), uu] [(.int w2), (.int w1), (.int w0), (.int (0 : Int32)), (.double (FP.ddiv (FP.i2d (w0 * vt)) (FP.i2d vt)))])) rfl (by rw [hml]; rfl) (argsL := [(.int (0 : Int32)), (.int w0), (.int w1), (.int w2)]) (rest := [(.double (FP.ddiv (FP.i2d (w0 * vt)) (FP.i2d vt)))]) (lenOf pd_5 rfl) rfl (by show 2 * 0 + _ ≤ _; exact Nat.le_of_eq rfl) (hb hby at_129) (fun _ _ => ⟨rfl, eh35, (by decide : 3 + 0 ≤ _), (by decide : 8 + 0 ≤ _)⟩)
      dsimp only [Pt.U, Pt.locs, Pt.cells, Pt.slots] at X36 l36 y36 z36 st36 hQ36
      subst l36 y36 z36
      obtain ⟨rfl, Nq36, eh36⟩ := hQ36
      have N36 := Fr.app N35 Nq36
      obtain ⟨fs, hr, hrun, hended, hW, hsame⟩ := X36.leave (v := some (.int (nar .boolean (1 : Int32)))) (fun h => by rw [Bd.returns] at h; cases h)
      refine ⟨_, _, pre0 _ ?_, hrun, hended, _, _, rfl, ?_, ⟨_, rfl⟩, hW, hsame.mono (by decide) (by decide)⟩
      · refine sg9 _ ?_
        refine sg34 _ ?_
        show SS p e below T33 (mkF m 118 #[vi p0, vi p1, vi p2, vi p3, vi (2 : Int32), vi w0, vi w1, vi w2, vi vt, vr b1, vr b5, vi (0 : Int32), vi (1 : Int32), uu] [(.int (0 : Int32)), (.ref b5)]) _
        refine st35.trans ?_
        show SS p e below T35 (mkF m 121 #[vi p0, vi p1, vi p2, vi p3, vi (2 : Int32), vi w0, vi w1, vi w2, vi vt, vr b1, vr b5, vi (0 : Int32), vi (1 : Int32), uu] [(.double (FP.ddiv (FP.i2d (w0 * vt)) (FP.i2d vt)))]) _
        refine XS.iload X35.here hx rfl (hb hby at_121) rfl ?_
        show SS p e below T35 (mkF m 123 #[vi p0, vi p1, vi p2, vi p3, vi (2 : Int32), vi w0, vi w1, vi w2, vi vt, vr b1, vr b5, vi (0 : Int32), vi (1 : Int32), uu] [(.int (0 : Int32)), (.double (FP.ddiv (FP.i2d (w0 * vt)) (FP.i2d vt)))]) _
        refine XS.iload X35.here hx rfl (hb hby at_123) rfl ?_
        show SS p e below T35 (mkF m 125 #[vi p0, vi p1, vi p2, vi p3, vi (2 : Int32), vi w0, vi w1, vi w2, vi vt, vr b1, vr b5, vi (0 : Int32), vi (1 : Int32), uu] [(.int w0), (.int (0 : Int32)), (.double (FP.ddiv (FP.i2d (w0 * vt)) (FP.i2d vt)))]) _
        refine XS.iload X35.here hx rfl (hb hby at_125) rfl ?_
        show SS p e below T35 (mkF m 127 #[vi p0, vi p1, vi p2, vi p3, vi (2 : Int32), vi w0, vi w1, vi w2, vi vt, vr b1, vr b5, vi (0 : Int32), vi (1 : Int32), uu] [(.int w1), (.int w0), (.int (0 : Int32)), (.double (FP.ddiv (FP.i2d (w0 * vt)) (FP.i2d vt)))]) _
        refine XS.iload X35.here hx rfl (hb hby at_127) rfl ?_
        show SS p e below T35 (mkF m 129 #[vi p0, vi p1, vi p2, vi p3, vi (2 : Int32), vi w0, vi w1, vi w2, vi vt, vr b1, vr b5, vi (0 : Int32), vi (1 : Int32), uu] [(.int w2), (.int w1), (.int w0), (.int (0 : Int32)), (.double (FP.ddiv (FP.i2d (w0 * vt)) (FP.i2d vt)))]) _
        refine st36 _ ?_
        show SS p e below T36 (mkF m 132 #[vi p0, vi p1, vi p2, vi p3, vi (2 : Int32), vi w0, vi w1, vi w2, vi vt, vr b1, vr b5, vi (0 : Int32), vi (1 : Int32), uu] [(.double (FP.i2d w0)), (.double (FP.ddiv (FP.i2d (w0 * vt)) (FP.i2d vt)))]) _
        refine XS.dcmpS X36.here hx rfl (hb hby at_132) rfl (v := (0 : Int32)) (own_eq ud_0) ?_
        show SS p e below T36 (mkF m 133 #[vi p0, vi p1, vi p2, vi p3, vi (2 : Int32), vi w0, vi w1, vi w2, vi vt, vr b1, vr b5, vi (0 : Int32), vi (1 : Int32), uu] [(.int (0 : Int32))]) _
        refine XS.ifNo X36.here hx rfl (hb hby at_133) rfl ((if0 _ _).trans (teq (rfl : (0 : Int32) = (0 : Int32))).2) ?_
        show SS p e below T36 (mkF m 136 #[vi p0, vi p1, vi p2, vi p3, vi (2 : Int32), vi w0, vi w1, vi w2, vi vt, vr b1, vr b5, vi (0 : Int32), vi (1 : Int32), uu] []) _
        refine XS.iconst X36.here hx rfl (hb hby at_136) ?_
        show SS p e below T36 (mkF m 137 #[vi p0, vi p1, vi p2, vi p3, vi (2 : Int32), vi w0, vi w1, vi w2, vi vt, vr b1, vr b5, vi (0 : Int32), vi (1 : Int32), uu] [(.int (1 : Int32))]) _
        refine XS.goto X36.here hx rfl (pc0 := 137) (pc' := 141) rfl (hb hby at_137) (by decide) (by decide) ?_
        show SS p e below T36 (mkF m 141 #[vi p0, vi p1, vi p2, vi p3, vi (2 : Int32), vi w0, vi w1, vi w2, vi vt, vr b1, vr b5, vi (0 : Int32), vi (1 : Int32), uu] [(.int (1 : Int32))]) _
        refine XS.istore X36.here hx rfl (hb hby at_141) rfl (l' := #[vi p0, vi p1, vi p2, vi p3, vi (2 : Int32), vi w0, vi w1, vi w2, vi vt, vr b1, vr b5, vi (0 : Int32), vi (1 : Int32), vi (1 : Int32)]) rfl ?_
        show SS p e below T36 (mkF m 143 #[vi p0, vi p1, vi p2, vi p3, vi (2 : Int32), vi w0, vi w1, vi w2, vi vt, vr b1, vr b5, vi (0 : Int32), vi (1 : Int32), vi (1 : Int32)] []) _
        refine XS.iload X36.here hx rfl (hb hby at_143) rfl ?_
        show SS p e below T36 (mkF m 145 #[vi p0, vi p1, vi p2, vi p3, vi (2 : Int32), vi w0, vi w1, vi w2, vi vt, vr b1, vr b5, vi (0 : Int32), vi (1 : Int32), vi (1 : Int32)] [(.int (1 : Int32))]) _
        refine XS.ifNo X36.here hx rfl (hb hby at_145) rfl ((if0 _ _).trans (feq (by decide : ¬ ((1 : Int32) = (0 : Int32)))).1) ?_
        show SS p e below T36 (mkF m 148 #[vi p0, vi p1, vi p2, vi p3, vi (2 : Int32), vi w0, vi w1, vi w2, vi vt, vr b1, vr b5, vi (0 : Int32), vi (1 : Int32), vi (1 : Int32)] []) _
        refine XS.iload X36.here hx rfl (hb hby at_148) rfl ?_
        show SS p e below T36 (mkF m 150 #[vi p0, vi p1, vi p2, vi p3, vi (2 : Int32), vi w0, vi w1, vi w2, vi vt, vr b1, vr b5, vi (0 : Int32), vi (1 : Int32), vi (1 : Int32)] [(.int (1 : Int32))]) _
        refine XS.ifNo X36.here hx rfl (hb hby at_150) rfl ((if0 _ _).trans (feq (by decide : ¬ ((1 : Int32) = (0 : Int32)))).1) ?_
        show SS p e below T36 (mkF m 153 #[vi p0, vi p1, vi p2, vi p3, vi (2 : Int32), vi w0, vi w1, vi w2, vi vt, vr b1, vr b5, vi (0 : Int32), vi (1 : Int32), vi (1 : Int32)] []) _
        refine XS.iconst X36.here hx rfl (hb hby at_153) ?_
        show SS p e below T36 (mkF m 154 #[vi p0, vi p1, vi p2, vi p3, vi (2 : Int32), vi w0, vi w1, vi w2, vi vt, vr b1, vr b5, vi (0 : Int32), vi (1 : Int32), vi (1 : Int32)] [(.int (1 : Int32))]) _
        refine XS.goto X36.here hx rfl (pc0 := 154) (pc' := 158) rfl (hb hby at_154) (by decide) (by decide) ?_
        show SS p e below T36 (mkF m 158 #[vi p0, vi p1, vi p2, vi p3, vi (2 : Int32), vi w0, vi w1, vi w2, vi vt, vr b1, vr b5, vi (0 : Int32), vi (1 : Int32), vi (1 : Int32)] [(.int (1 : Int32))]) _
        exact retN X36 hx (t := .boolean) Bd.returns (by simp) (hb hby at_158) hr
      · show Q_rm0 Z p0 p1 p2 p3 (2 : Int32) w0 w1 w2 vt (0 : Int32) h0 n0 _ T36.heap _
        rw [eh36]
        exact ⟨rfl, N36⟩
    · obtain ⟨cq37, kq37, q37a, q37b, q37c⟩ := isOf hZ eh33 f6_0
      obtain ⟨_, _, ⟨T37, L37, k37, n37⟩, -, X37, ⟨Lc37, hQ37, l37, y37, z37⟩, st37⟩ := X33.virtualBack hx (y := (⟨"org/quarrel/model/Distribution", "probability", "(I)D"⟩ : MethodName)) (z := (⟨"org/quarrel/model/Distribution", "probability", "(I)D"⟩ : MethodName)) hown (mvT hZ (wd hw 35 rfl)) (mvT hZ (wd hw 36 rfl)) (notFace_of_selects (args := #[]) (mvT hZ (wd hw 38 rfl))) (mvT hZ (wd hw 38 rfl)) (mvT hZ (wd hw 37 rfl)) (by decide) (backOf (W := 0) (rmP1 l Z a0 hw [] b5 nb_6 k1 vt (w0 * vt) (w1 * vt) (w2 * vt) T6.heap n0 Z6 f6_1 f6_2 f6_4 unz) hZ (wd hw 39 rfl) (wd hw 3 rfl) (by decide) (by decide)) q37a q37c (g := (mkF m 118 #[vi p0, vi p1, vi p2, vi p3, vi (2 : Int32), vi w0, vi w1, vi w2, vi vt, vr b1, vr b5, vi (1 : Int32), vi (1 : Int32), uu] [(.int (1 : Int32)), (.ref b5)])) rfl (by rw [hml]; rfl) (Steps.refl _) (argsL := [(.int (1 : Int32))]) (rest := []) (lenOf pd_4 rfl) rfl (by show 2 * 0 + _ ≤ _; exact Nat.le_of_eq rfl) (hb hby at_118) (fun _ _ => ⟨rfl, eh33, (by decide : 3 + 0 ≤ _), (by decide : 8 + 0 ≤ _)⟩)
      dsimp only [Pt.U, Pt.locs, Pt.cells, Pt.slots] at X37 l37 y37 z37 st37 hQ37
      subst l37 y37 z37
      obtain ⟨rfl, Nq37, eh37⟩ := hQ37
      have N37 := Fr.app N33 Nq37
      obtain ⟨_, _, ⟨T38, L38, k38, n38⟩, -, X38, ⟨Lc38, hQ38, l38, y38, z38⟩, st38⟩ := Jvm.LawKit.callS X37 hx (y := (⟨"org/quarrel/model/DistributionProbabilityPinLaw", "expected", "(IIII)D"⟩ : MethodName)) hown (mvT hZ (wd hw 40 rfl)) (mvT hZ (wd hw 41 rfl)) (mvT hZ (wd hw 42 rfl)) (mvT hZ (wd hw 43 rfl)) (by decide) (backOf (W := 2) (rmE1 l Z a0 hw [] w0 w1 w2 T6.heap n0 Z6) hZ (wd hw 43 rfl) (wd hw 42 rfl) (by decide) (by decide)) (g := (mkF m 129 #[vi p0, vi p1, vi p2, vi p3, vi (2 : Int32), vi w0, vi w1, vi w2, vi vt, vr b1, vr b5, vi (1 : Int32), vi (1 : Int32), uu] [(.int w2), (.int w1), (.int w0), (.int (1 : Int32)), (.double (FP.ddiv (FP.i2d (w1 * vt)) (FP.i2d vt)))])) rfl (by rw [hml]; rfl) (argsL := [(.int (1 : Int32)), (.int w0), (.int w1), (.int w2)]) (rest := [(.double (FP.ddiv (FP.i2d (w1 * vt)) (FP.i2d vt)))]) (lenOf pd_5 rfl) rfl (by show 2 * 0 + _ ≤ _; exact Nat.le_of_eq rfl) (hb hby at_129) (fun _ _ => ⟨rfl, eh37, (by decide : 3 + 0 ≤ _), (by decide : 8 + 0 ≤ _)⟩)
      dsimp only [Pt.U, Pt.locs, Pt.cells, Pt.slots] at X38 l38 y38 z38 st38 hQ38
      subst l38 y38 z38
      obtain ⟨rfl, Nq38, eh38⟩ := hQ38
      have N38 := Fr.app N37 Nq38
      obtain ⟨fs, hr, hrun, hended, hW, hsame⟩ := X38.leave (v := some (.int (nar .boolean (1 : Int32)))) (fun h => by rw [Bd.returns] at h; cases h)
      refine ⟨_, _, pre0 _ ?_, hrun, hended, _, _, rfl, ?_, ⟨_, rfl⟩, hW, hsame.mono (by decide) (by decide)⟩
      · refine sg9 _ ?_
        refine sg34 _ ?_
        show SS p e below T33 (mkF m 118 #[vi p0, vi p1, vi p2, vi p3, vi (2 : Int32), vi w0, vi w1, vi w2, vi vt, vr b1, vr b5, vi (1 : Int32), vi (1 : Int32), uu] [(.int (1 : Int32)), (.ref b5)]) _
        refine st37.trans ?_
        show SS p e below T37 (mkF m 121 #[vi p0, vi p1, vi p2, vi p3, vi (2 : Int32), vi w0, vi w1, vi w2, vi vt, vr b1, vr b5, vi (1 : Int32), vi (1 : Int32), uu] [(.double (FP.ddiv (FP.i2d (w1 * vt)) (FP.i2d vt)))]) _
        refine XS.iload X37.here hx rfl (hb hby at_121) rfl ?_
        show SS p e below T37 (mkF m 123 #[vi p0, vi p1, vi p2, vi p3, vi (2 : Int32), vi w0, vi w1, vi w2, vi vt, vr b1, vr b5, vi (1 : Int32), vi (1 : Int32), uu] [(.int (1 : Int32)), (.double (FP.ddiv (FP.i2d (w1 * vt)) (FP.i2d vt)))]) _
        refine XS.iload X37.here hx rfl (hb hby at_123) rfl ?_
        show SS p e below T37 (mkF m 125 #[vi p0, vi p1, vi p2, vi p3, vi (2 : Int32), vi w0, vi w1, vi w2, vi vt, vr b1, vr b5, vi (1 : Int32), vi (1 : Int32), uu] [(.int w0), (.int (1 : Int32)), (.double (FP.ddiv (FP.i2d (w1 * vt)) (FP.i2d vt)))]) _
        refine XS.iload X37.here hx rfl (hb hby at_125) rfl ?_
        show SS p e below T37 (mkF m 127 #[vi p0, vi p1, vi p2, vi p3, vi (2 : Int32), vi w0, vi w1, vi w2, vi vt, vr b1, vr b5, vi (1 : Int32), vi (1 : Int32), uu] [(.int w1), (.int w0), (.int (1 : Int32)), (.double (FP.ddiv (FP.i2d (w1 * vt)) (FP.i2d vt)))]) _
        refine XS.iload X37.here hx rfl (hb hby at_127) rfl ?_
        show SS p e below T37 (mkF m 129 #[vi p0, vi p1, vi p2, vi p3, vi (2 : Int32), vi w0, vi w1, vi w2, vi vt, vr b1, vr b5, vi (1 : Int32), vi (1 : Int32), uu] [(.int w2), (.int w1), (.int w0), (.int (1 : Int32)), (.double (FP.ddiv (FP.i2d (w1 * vt)) (FP.i2d vt)))]) _
        refine st38 _ ?_
        show SS p e below T38 (mkF m 132 #[vi p0, vi p1, vi p2, vi p3, vi (2 : Int32), vi w0, vi w1, vi w2, vi vt, vr b1, vr b5, vi (1 : Int32), vi (1 : Int32), uu] [(.double (FP.i2d w1)), (.double (FP.ddiv (FP.i2d (w1 * vt)) (FP.i2d vt)))]) _
        refine XS.dcmpS X38.here hx rfl (hb hby at_132) rfl (v := (0 : Int32)) (own_eq ud_1) ?_
        show SS p e below T38 (mkF m 133 #[vi p0, vi p1, vi p2, vi p3, vi (2 : Int32), vi w0, vi w1, vi w2, vi vt, vr b1, vr b5, vi (1 : Int32), vi (1 : Int32), uu] [(.int (0 : Int32))]) _
        refine XS.ifNo X38.here hx rfl (hb hby at_133) rfl ((if0 _ _).trans (teq (rfl : (0 : Int32) = (0 : Int32))).2) ?_
        show SS p e below T38 (mkF m 136 #[vi p0, vi p1, vi p2, vi p3, vi (2 : Int32), vi w0, vi w1, vi w2, vi vt, vr b1, vr b5, vi (1 : Int32), vi (1 : Int32), uu] []) _
        refine XS.iconst X38.here hx rfl (hb hby at_136) ?_
        show SS p e below T38 (mkF m 137 #[vi p0, vi p1, vi p2, vi p3, vi (2 : Int32), vi w0, vi w1, vi w2, vi vt, vr b1, vr b5, vi (1 : Int32), vi (1 : Int32), uu] [(.int (1 : Int32))]) _
        refine XS.goto X38.here hx rfl (pc0 := 137) (pc' := 141) rfl (hb hby at_137) (by decide) (by decide) ?_
        show SS p e below T38 (mkF m 141 #[vi p0, vi p1, vi p2, vi p3, vi (2 : Int32), vi w0, vi w1, vi w2, vi vt, vr b1, vr b5, vi (1 : Int32), vi (1 : Int32), uu] [(.int (1 : Int32))]) _
        refine XS.istore X38.here hx rfl (hb hby at_141) rfl (l' := #[vi p0, vi p1, vi p2, vi p3, vi (2 : Int32), vi w0, vi w1, vi w2, vi vt, vr b1, vr b5, vi (1 : Int32), vi (1 : Int32), vi (1 : Int32)]) rfl ?_
        show SS p e below T38 (mkF m 143 #[vi p0, vi p1, vi p2, vi p3, vi (2 : Int32), vi w0, vi w1, vi w2, vi vt, vr b1, vr b5, vi (1 : Int32), vi (1 : Int32), vi (1 : Int32)] []) _
        refine XS.iload X38.here hx rfl (hb hby at_143) rfl ?_
        show SS p e below T38 (mkF m 145 #[vi p0, vi p1, vi p2, vi p3, vi (2 : Int32), vi w0, vi w1, vi w2, vi vt, vr b1, vr b5, vi (1 : Int32), vi (1 : Int32), vi (1 : Int32)] [(.int (1 : Int32))]) _
        refine XS.ifNo X38.here hx rfl (hb hby at_145) rfl ((if0 _ _).trans (feq (by decide : ¬ ((1 : Int32) = (0 : Int32)))).1) ?_
        show SS p e below T38 (mkF m 148 #[vi p0, vi p1, vi p2, vi p3, vi (2 : Int32), vi w0, vi w1, vi w2, vi vt, vr b1, vr b5, vi (1 : Int32), vi (1 : Int32), vi (1 : Int32)] []) _
        refine XS.iload X38.here hx rfl (hb hby at_148) rfl ?_
        show SS p e below T38 (mkF m 150 #[vi p0, vi p1, vi p2, vi p3, vi (2 : Int32), vi w0, vi w1, vi w2, vi vt, vr b1, vr b5, vi (1 : Int32), vi (1 : Int32), vi (1 : Int32)] [(.int (1 : Int32))]) _
        refine XS.ifNo X38.here hx rfl (hb hby at_150) rfl ((if0 _ _).trans (feq (by decide : ¬ ((1 : Int32) = (0 : Int32)))).1) ?_
        show SS p e below T38 (mkF m 153 #[vi p0, vi p1, vi p2, vi p3, vi (2 : Int32), vi w0, vi w1, vi w2, vi vt, vr b1, vr b5, vi (1 : Int32), vi (1 : Int32), vi (1 : Int32)] []) _
        refine XS.iconst X38.here hx rfl (hb hby at_153) ?_
        show SS p e below T38 (mkF m 154 #[vi p0, vi p1, vi p2, vi p3, vi (2 : Int32), vi w0, vi w1, vi w2, vi vt, vr b1, vr b5, vi (1 : Int32), vi (1 : Int32), vi (1 : Int32)] [(.int (1 : Int32))]) _
        refine XS.goto X38.here hx rfl (pc0 := 154) (pc' := 158) rfl (hb hby at_154) (by decide) (by decide) ?_
        show SS p e below T38 (mkF m 158 #[vi p0, vi p1, vi p2, vi p3, vi (2 : Int32), vi w0, vi w1, vi w2, vi vt, vr b1, vr b5, vi (1 : Int32), vi (1 : Int32), vi (1 : Int32)] [(.int (1 : Int32))]) _
        exact retN X38 hx (t := .boolean) Bd.returns (by simp) (hb hby at_158) hr
      · show Q_rm0 Z p0 p1 p2 p3 (2 : Int32) w0 w1 w2 vt (1 : Int32) h0 n0 _ T38.heap _
        rw [eh38]
        exact ⟨rfl, N38⟩
    · obtain ⟨cq39, kq39, q39a, q39b, q39c⟩ := isOf hZ eh33 f6_0
      obtain ⟨_, _, ⟨T39, L39, k39, n39⟩, -, X39, ⟨Lc39, hQ39, l39, y39, z39⟩, st39⟩ := X33.virtualBack hx (y := (⟨"org/quarrel/model/Distribution", "probability", "(I)D"⟩ : MethodName)) (z := (⟨"org/quarrel/model/Distribution", "probability", "(I)D"⟩ : MethodName)) hown (mvT hZ (wd hw 35 rfl)) (mvT hZ (wd hw 36 rfl)) (notFace_of_selects (args := #[]) (mvT hZ (wd hw 38 rfl))) (mvT hZ (wd hw 38 rfl)) (mvT hZ (wd hw 37 rfl)) (by decide) (backOf (W := 0) (rmP2 l Z a0 hw [] b5 nb_6 k1 vt (w0 * vt) (w1 * vt) (w2 * vt) T6.heap n0 Z6 f6_1 f6_2 f6_4 unz) hZ (wd hw 39 rfl) (wd hw 3 rfl) (by decide) (by decide)) q39a q39c (g := (mkF m 118 #[vi p0, vi p1, vi p2, vi p3, vi (2 : Int32), vi w0, vi w1, vi w2, vi vt, vr b1, vr b5, vi (2 : Int32), vi (1 : Int32), uu] [(.int (2 : Int32)), (.ref b5)])) rfl (by rw [hml]; rfl) (Steps.refl _) (argsL := [(.int (2 : Int32))]) (rest := []) (lenOf pd_4 rfl) rfl (by show 2 * 0 + _ ≤ _; exact Nat.le_of_eq rfl) (hb hby at_118) (fun _ _ => ⟨rfl, eh33, (by decide : 3 + 0 ≤ _), (by decide : 8 + 0 ≤ _)⟩)
      dsimp only [Pt.U, Pt.locs, Pt.cells, Pt.slots] at X39 l39 y39 z39 st39 hQ39
      subst l39 y39 z39
      obtain ⟨rfl, Nq39, eh39⟩ := hQ39
      have N39 := Fr.app N33 Nq39
      obtain ⟨_, _, ⟨T40, L40, k40, n40⟩, -, X40, ⟨Lc40, hQ40, l40, y40, z40⟩, st40⟩ := Jvm.LawKit.callS X39 hx (y := (⟨"org/quarrel/model/DistributionProbabilityPinLaw", "expected", "(IIII)D"⟩ : MethodName)) hown (mvT hZ (wd hw 40 rfl)) (mvT hZ (wd hw 41 rfl)) (mvT hZ (wd hw 42 rfl)) (mvT hZ (wd hw 43 rfl)) (by decide) (backOf (W := 2) (rmE2 l Z a0 hw [] w0 w1 w2 T6.heap n0 Z6) hZ (wd hw 43 rfl) (wd hw 42 rfl) (by decide) (by decide)) (g := (mkF m 129 #[vi p0, vi p1, vi p2, vi p3, vi (2 : Int32), vi w0, vi w1, vi w2, vi vt, vr b1, vr b5, vi (2 : Int32), vi (1 : Int32), uu] [(.int w2), (.int w1), (.int w0), (.int (2 : Int32)), (.double (FP.ddiv (FP.i2d (w2 * vt)) (FP.i2d vt)))])) rfl (by rw [hml]; rfl) (argsL := [(.int (2 : Int32)), (.int w0), (.int w1), (.int w2)]) (rest := [(.double (FP.ddiv (FP.i2d (w2 * vt)) (FP.i2d vt)))]) (lenOf pd_5 rfl) rfl (by show 2 * 0 + _ ≤ _; exact Nat.le_of_eq rfl) (hb hby at_129) (fun _ _ => ⟨rfl, eh39, (by decide : 3 + 0 ≤ _), (by decide : 8 + 0 ≤ _)⟩)
      dsimp only [Pt.U, Pt.locs, Pt.cells, Pt.slots] at X40 l40 y40 z40 st40 hQ40
      subst l40 y40 z40
      obtain ⟨rfl, Nq40, eh40⟩ := hQ40
      have N40 := Fr.app N39 Nq40
      obtain ⟨fs, hr, hrun, hended, hW, hsame⟩ := X40.leave (v := some (.int (nar .boolean (1 : Int32)))) (fun h => by rw [Bd.returns] at h; cases h)
      refine ⟨_, _, pre0 _ ?_, hrun, hended, _, _, rfl, ?_, ⟨_, rfl⟩, hW, hsame.mono (by decide) (by decide)⟩
      · refine sg9 _ ?_
        refine sg34 _ ?_
        show SS p e below T33 (mkF m 118 #[vi p0, vi p1, vi p2, vi p3, vi (2 : Int32), vi w0, vi w1, vi w2, vi vt, vr b1, vr b5, vi (2 : Int32), vi (1 : Int32), uu] [(.int (2 : Int32)), (.ref b5)]) _
        refine st39.trans ?_
        show SS p e below T39 (mkF m 121 #[vi p0, vi p1, vi p2, vi p3, vi (2 : Int32), vi w0, vi w1, vi w2, vi vt, vr b1, vr b5, vi (2 : Int32), vi (1 : Int32), uu] [(.double (FP.ddiv (FP.i2d (w2 * vt)) (FP.i2d vt)))]) _
        refine XS.iload X39.here hx rfl (hb hby at_121) rfl ?_
        show SS p e below T39 (mkF m 123 #[vi p0, vi p1, vi p2, vi p3, vi (2 : Int32), vi w0, vi w1, vi w2, vi vt, vr b1, vr b5, vi (2 : Int32), vi (1 : Int32), uu] [(.int (2 : Int32)), (.double (FP.ddiv (FP.i2d (w2 * vt)) (FP.i2d vt)))]) _
        refine XS.iload X39.here hx rfl (hb hby at_123) rfl ?_
        show SS p e below T39 (mkF m 125 #[vi p0, vi p1, vi p2, vi p3, vi (2 : Int32), vi w0, vi w1, vi w2, vi vt, vr b1, vr b5, vi (2 : Int32), vi (1 : Int32), uu] [(.int w0), (.int (2 : Int32)), (.double (FP.ddiv (FP.i2d (w2 * vt)) (FP.i2d vt)))]) _
        refine XS.iload X39.here hx rfl (hb hby at_125) rfl ?_
        show SS p e below T39 (mkF m 127 #[vi p0, vi p1, vi p2, vi p3, vi (2 : Int32), vi w0, vi w1, vi w2, vi vt, vr b1, vr b5, vi (2 : Int32), vi (1 : Int32), uu] [(.int w1), (.int w0), (.int (2 : Int32)), (.double (FP.ddiv (FP.i2d (w2 * vt)) (FP.i2d vt)))]) _
        refine XS.iload X39.here hx rfl (hb hby at_127) rfl ?_
        show SS p e below T39 (mkF m 129 #[vi p0, vi p1, vi p2, vi p3, vi (2 : Int32), vi w0, vi w1, vi w2, vi vt, vr b1, vr b5, vi (2 : Int32), vi (1 : Int32), uu] [(.int w2), (.int w1), (.int w0), (.int (2 : Int32)), (.double (FP.ddiv (FP.i2d (w2 * vt)) (FP.i2d vt)))]) _
        refine st40 _ ?_
        show SS p e below T40 (mkF m 132 #[vi p0, vi p1, vi p2, vi p3, vi (2 : Int32), vi w0, vi w1, vi w2, vi vt, vr b1, vr b5, vi (2 : Int32), vi (1 : Int32), uu] [(.double (FP.i2d w2)), (.double (FP.ddiv (FP.i2d (w2 * vt)) (FP.i2d vt)))]) _
        refine XS.dcmpS X40.here hx rfl (hb hby at_132) rfl (v := (0 : Int32)) (own_eq ud_2) ?_
        show SS p e below T40 (mkF m 133 #[vi p0, vi p1, vi p2, vi p3, vi (2 : Int32), vi w0, vi w1, vi w2, vi vt, vr b1, vr b5, vi (2 : Int32), vi (1 : Int32), uu] [(.int (0 : Int32))]) _
        refine XS.ifNo X40.here hx rfl (hb hby at_133) rfl ((if0 _ _).trans (teq (rfl : (0 : Int32) = (0 : Int32))).2) ?_
        show SS p e below T40 (mkF m 136 #[vi p0, vi p1, vi p2, vi p3, vi (2 : Int32), vi w0, vi w1, vi w2, vi vt, vr b1, vr b5, vi (2 : Int32), vi (1 : Int32), uu] []) _
        refine XS.iconst X40.here hx rfl (hb hby at_136) ?_
        show SS p e below T40 (mkF m 137 #[vi p0, vi p1, vi p2, vi p3, vi (2 : Int32), vi w0, vi w1, vi w2, vi vt, vr b1, vr b5, vi (2 : Int32), vi (1 : Int32), uu] [(.int (1 : Int32))]) _
        refine XS.goto X40.here hx rfl (pc0 := 137) (pc' := 141) rfl (hb hby at_137) (by decide) (by decide) ?_
        show SS p e below T40 (mkF m 141 #[vi p0, vi p1, vi p2, vi p3, vi (2 : Int32), vi w0, vi w1, vi w2, vi vt, vr b1, vr b5, vi (2 : Int32), vi (1 : Int32), uu] [(.int (1 : Int32))]) _
        refine XS.istore X40.here hx rfl (hb hby at_141) rfl (l' := #[vi p0, vi p1, vi p2, vi p3, vi (2 : Int32), vi w0, vi w1, vi w2, vi vt, vr b1, vr b5, vi (2 : Int32), vi (1 : Int32), vi (1 : Int32)]) rfl ?_
        show SS p e below T40 (mkF m 143 #[vi p0, vi p1, vi p2, vi p3, vi (2 : Int32), vi w0, vi w1, vi w2, vi vt, vr b1, vr b5, vi (2 : Int32), vi (1 : Int32), vi (1 : Int32)] []) _
        refine XS.iload X40.here hx rfl (hb hby at_143) rfl ?_
        show SS p e below T40 (mkF m 145 #[vi p0, vi p1, vi p2, vi p3, vi (2 : Int32), vi w0, vi w1, vi w2, vi vt, vr b1, vr b5, vi (2 : Int32), vi (1 : Int32), vi (1 : Int32)] [(.int (1 : Int32))]) _
        refine XS.ifNo X40.here hx rfl (hb hby at_145) rfl ((if0 _ _).trans (feq (by decide : ¬ ((1 : Int32) = (0 : Int32)))).1) ?_
        show SS p e below T40 (mkF m 148 #[vi p0, vi p1, vi p2, vi p3, vi (2 : Int32), vi w0, vi w1, vi w2, vi vt, vr b1, vr b5, vi (2 : Int32), vi (1 : Int32), vi (1 : Int32)] []) _
        refine XS.iload X40.here hx rfl (hb hby at_148) rfl ?_
        show SS p e below T40 (mkF m 150 #[vi p0, vi p1, vi p2, vi p3, vi (2 : Int32), vi w0, vi w1, vi w2, vi vt, vr b1, vr b5, vi (2 : Int32), vi (1 : Int32), vi (1 : Int32)] [(.int (1 : Int32))]) _
        refine XS.ifNo X40.here hx rfl (hb hby at_150) rfl ((if0 _ _).trans (feq (by decide : ¬ ((1 : Int32) = (0 : Int32)))).1) ?_
        show SS p e below T40 (mkF m 153 #[vi p0, vi p1, vi p2, vi p3, vi (2 : Int32), vi w0, vi w1, vi w2, vi vt, vr b1, vr b5, vi (2 : Int32), vi (1 : Int32), vi (1 : Int32)] []) _
        refine XS.iconst X40.here hx rfl (hb hby at_153) ?_
        show SS p e below T40 (mkF m 154 #[vi p0, vi p1, vi p2, vi p3, vi (2 : Int32), vi w0, vi w1, vi w2, vi vt, vr b1, vr b5, vi (2 : Int32), vi (1 : Int32), vi (1 : Int32)] [(.int (1 : Int32))]) _
        refine XS.goto X40.here hx rfl (pc0 := 154) (pc' := 158) rfl (hb hby at_154) (by decide) (by decide) ?_
        show SS p e below T40 (mkF m 158 #[vi p0, vi p1, vi p2, vi p3, vi (2 : Int32), vi w0, vi w1, vi w2, vi vt, vr b1, vr b5, vi (2 : Int32), vi (1 : Int32), vi (1 : Int32)] [(.int (1 : Int32))]) _
        exact retN X40 hx (t := .boolean) Bd.returns (by simp) (hb hby at_158) hr
      · show Q_rm0 Z p0 p1 p2 p3 (2 : Int32) w0 w1 w2 vt (2 : Int32) h0 n0 _ T40.heap _
        rw [eh40]
        exact ⟨rfl, N40⟩
    · obtain ⟨cq41, kq41, q41a, q41b, q41c⟩ := isOf hZ eh33 f6_0
      obtain ⟨_, _, ⟨T41, L41, k41, n41⟩, -, X41, ⟨Lc41, hQ41, l41, y41, z41⟩, st41⟩ := X33.virtualBack hx (y := (⟨"org/quarrel/model/Distribution", "probability", "(I)D"⟩ : MethodName)) (z := (⟨"org/quarrel/model/Distribution", "probability", "(I)D"⟩ : MethodName)) hown (mvT hZ (wd hw 35 rfl)) (mvT hZ (wd hw 36 rfl)) (notFace_of_selects (args := #[]) (mvT hZ (wd hw 38 rfl))) (mvT hZ (wd hw 38 rfl)) (mvT hZ (wd hw 37 rfl)) (by decide) (backOf (W := 0) (rmPh l Z a0 hw [] b5 (3 : Int32) nb_6 k1 vt (w0 * vt) (w1 * vt) (w2 * vt) T6.heap n0 Z6 f6_1 f6_2 f6_4 unz (by decide) (by decide)) hZ (wd hw 39 rfl) (wd hw 3 rfl) (by decide) (by decide)) q41a q41c (g := (mkF m 118 #[vi p0, vi p1, vi p2, vi p3, vi (2 : Int32), vi w0, vi w1, vi w2, vi vt, vr b1, vr b5, vi (3 : Int32), vi (1 : Int32), uu] [(.int (3 : Int32)), (.ref b5)])) rfl (by rw [hml]; rfl) (Steps.refl _) (argsL := [(.int (3 : Int32))]) (rest := []) (lenOf pd_4 rfl) rfl (by show 2 * 0 + _ ≤ _; exact Nat.le_of_eq rfl) (hb hby at_118) (fun _ _ => ⟨rfl, eh33, (by decide : 3 + 0 ≤ _), (by decide : 8 + 0 ≤ _)⟩)
      dsimp only [Pt.U, Pt.locs, Pt.cells, Pt.slots] at X41 l41 y41 z41 st41 hQ41
      subst l41 y41 z41
      obtain ⟨rfl, Nq41, eh41⟩ := hQ41
      have N41 := Fr.app N33 Nq41
      obtain ⟨_, _, ⟨T42, L42, k42, n42⟩, -, X42, ⟨Lc42, hQ42, l42, y42, z42⟩, st42⟩ := Jvm.LawKit.callS X41 hx (y := (⟨"org/quarrel/model/DistributionProbabilityPinLaw", "expected", "(IIII)D"⟩ : MethodName)) hown (mvT hZ (wd hw 40 rfl)) (mvT hZ (wd hw 41 rfl)) (mvT hZ (wd hw 42 rfl)) (mvT hZ (wd hw 43 rfl)) (by decide) (backOf (W := 2) (rmEn l Z a0 hw [] (3 : Int32) w0 w1 w2 T6.heap n0 Z6 (by decide) (by decide) (by decide)) hZ (wd hw 43 rfl) (wd hw 42 rfl) (by decide) (by decide)) (g := (mkF m 129 #[vi p0, vi p1, vi p2, vi p3, vi (2 : Int32), vi w0, vi w1, vi w2, vi vt, vr b1, vr b5, vi (3 : Int32), vi (1 : Int32), uu] [(.int w2), (.int w1), (.int w0), (.int (3 : Int32)), (.double (0 : UInt64))])) rfl (by rw [hml]; rfl) (argsL := [(.int (3 : Int32)), (.int w0), (.int w1), (.int w2)]) (rest := [(.double (0 : UInt64))]) (lenOf pd_5 rfl) rfl (by show 2 * 0 + _ ≤ _; exact Nat.le_of_eq rfl) (hb hby at_129) (fun _ _ => ⟨rfl, eh41, (by decide : 3 + 0 ≤ _), (by decide : 8 + 0 ≤ _)⟩)
      dsimp only [Pt.U, Pt.locs, Pt.cells, Pt.slots] at X42 l42 y42 z42 st42 hQ42
      subst l42 y42 z42
      obtain ⟨rfl, Nq42, eh42⟩ := hQ42
      have N42 := Fr.app N41 Nq42
      obtain ⟨fs, hr, hrun, hended, hW, hsame⟩ := X42.leave (v := some (.int (nar .boolean (1 : Int32)))) (fun h => by rw [Bd.returns] at h; cases h)
      refine ⟨_, _, pre0 _ ?_, hrun, hended, _, _, rfl, ?_, ⟨_, rfl⟩, hW, hsame.mono (by decide) (by decide)⟩
      · refine sg9 _ ?_
        refine sg34 _ ?_
        show SS p e below T33 (mkF m 118 #[vi p0, vi p1, vi p2, vi p3, vi (2 : Int32), vi w0, vi w1, vi w2, vi vt, vr b1, vr b5, vi (3 : Int32), vi (1 : Int32), uu] [(.int (3 : Int32)), (.ref b5)]) _
        refine st41.trans ?_
        show SS p e below T41 (mkF m 121 #[vi p0, vi p1, vi p2, vi p3, vi (2 : Int32), vi w0, vi w1, vi w2, vi vt, vr b1, vr b5, vi (3 : Int32), vi (1 : Int32), uu] [(.double (0 : UInt64))]) _
        refine XS.iload X41.here hx rfl (hb hby at_121) rfl ?_
        show SS p e below T41 (mkF m 123 #[vi p0, vi p1, vi p2, vi p3, vi (2 : Int32), vi w0, vi w1, vi w2, vi vt, vr b1, vr b5, vi (3 : Int32), vi (1 : Int32), uu] [(.int (3 : Int32)), (.double (0 : UInt64))]) _
        refine XS.iload X41.here hx rfl (hb hby at_123) rfl ?_
        show SS p e below T41 (mkF m 125 #[vi p0, vi p1, vi p2, vi p3, vi (2 : Int32), vi w0, vi w1, vi w2, vi vt, vr b1, vr b5, vi (3 : Int32), vi (1 : Int32), uu] [(.int w0), (.int (3 : Int32)), (.double (0 : UInt64))]) _
        refine XS.iload X41.here hx rfl (hb hby at_125) rfl ?_
        show SS p e below T41 (mkF m 127 #[vi p0, vi p1, vi p2, vi p3, vi (2 : Int32), vi w0, vi w1, vi w2, vi vt, vr b1, vr b5, vi (3 : Int32), vi (1 : Int32), uu] [(.int w1), (.int w0), (.int (3 : Int32)), (.double (0 : UInt64))]) _
        refine XS.iload X41.here hx rfl (hb hby at_127) rfl ?_
        show SS p e below T41 (mkF m 129 #[vi p0, vi p1, vi p2, vi p3, vi (2 : Int32), vi w0, vi w1, vi w2, vi vt, vr b1, vr b5, vi (3 : Int32), vi (1 : Int32), uu] [(.int w2), (.int w1), (.int w0), (.int (3 : Int32)), (.double (0 : UInt64))]) _
        refine st42 _ ?_
        show SS p e below T42 (mkF m 132 #[vi p0, vi p1, vi p2, vi p3, vi (2 : Int32), vi w0, vi w1, vi w2, vi vt, vr b1, vr b5, vi (3 : Int32), vi (1 : Int32), uu] [(.double (0 : UInt64)), (.double (0 : UInt64))]) _
        refine XS.dcmpS X42.here hx rfl (hb hby at_132) rfl (v := (0 : Int32)) own_eq0 ?_
        show SS p e below T42 (mkF m 133 #[vi p0, vi p1, vi p2, vi p3, vi (2 : Int32), vi w0, vi w1, vi w2, vi vt, vr b1, vr b5, vi (3 : Int32), vi (1 : Int32), uu] [(.int (0 : Int32))]) _
        refine XS.ifNo X42.here hx rfl (hb hby at_133) rfl ((if0 _ _).trans (teq (rfl : (0 : Int32) = (0 : Int32))).2) ?_
        show SS p e below T42 (mkF m 136 #[vi p0, vi p1, vi p2, vi p3, vi (2 : Int32), vi w0, vi w1, vi w2, vi vt, vr b1, vr b5, vi (3 : Int32), vi (1 : Int32), uu] []) _
        refine XS.iconst X42.here hx rfl (hb hby at_136) ?_
        show SS p e below T42 (mkF m 137 #[vi p0, vi p1, vi p2, vi p3, vi (2 : Int32), vi w0, vi w1, vi w2, vi vt, vr b1, vr b5, vi (3 : Int32), vi (1 : Int32), uu] [(.int (1 : Int32))]) _
        refine XS.goto X42.here hx rfl (pc0 := 137) (pc' := 141) rfl (hb hby at_137) (by decide) (by decide) ?_
        show SS p e below T42 (mkF m 141 #[vi p0, vi p1, vi p2, vi p3, vi (2 : Int32), vi w0, vi w1, vi w2, vi vt, vr b1, vr b5, vi (3 : Int32), vi (1 : Int32), uu] [(.int (1 : Int32))]) _
        refine XS.istore X42.here hx rfl (hb hby at_141) rfl (l' := #[vi p0, vi p1, vi p2, vi p3, vi (2 : Int32), vi w0, vi w1, vi w2, vi vt, vr b1, vr b5, vi (3 : Int32), vi (1 : Int32), vi (1 : Int32)]) rfl ?_
        show SS p e below T42 (mkF m 143 #[vi p0, vi p1, vi p2, vi p3, vi (2 : Int32), vi w0, vi w1, vi w2, vi vt, vr b1, vr b5, vi (3 : Int32), vi (1 : Int32), vi (1 : Int32)] []) _
        refine XS.iload X42.here hx rfl (hb hby at_143) rfl ?_
        show SS p e below T42 (mkF m 145 #[vi p0, vi p1, vi p2, vi p3, vi (2 : Int32), vi w0, vi w1, vi w2, vi vt, vr b1, vr b5, vi (3 : Int32), vi (1 : Int32), vi (1 : Int32)] [(.int (1 : Int32))]) _
        refine XS.ifNo X42.here hx rfl (hb hby at_145) rfl ((if0 _ _).trans (feq (by decide : ¬ ((1 : Int32) = (0 : Int32)))).1) ?_
        show SS p e below T42 (mkF m 148 #[vi p0, vi p1, vi p2, vi p3, vi (2 : Int32), vi w0, vi w1, vi w2, vi vt, vr b1, vr b5, vi (3 : Int32), vi (1 : Int32), vi (1 : Int32)] []) _
        refine XS.iload X42.here hx rfl (hb hby at_148) rfl ?_
        show SS p e below T42 (mkF m 150 #[vi p0, vi p1, vi p2, vi p3, vi (2 : Int32), vi w0, vi w1, vi w2, vi vt, vr b1, vr b5, vi (3 : Int32), vi (1 : Int32), vi (1 : Int32)] [(.int (1 : Int32))]) _
        refine XS.ifNo X42.here hx rfl (hb hby at_150) rfl ((if0 _ _).trans (feq (by decide : ¬ ((1 : Int32) = (0 : Int32)))).1) ?_
        show SS p e below T42 (mkF m 153 #[vi p0, vi p1, vi p2, vi p3, vi (2 : Int32), vi w0, vi w1, vi w2, vi vt, vr b1, vr b5, vi (3 : Int32), vi (1 : Int32), vi (1 : Int32)] []) _
        refine XS.iconst X42.here hx rfl (hb hby at_153) ?_
        show SS p e below T42 (mkF m 154 #[vi p0, vi p1, vi p2, vi p3, vi (2 : Int32), vi w0, vi w1, vi w2, vi vt, vr b1, vr b5, vi (3 : Int32), vi (1 : Int32), vi (1 : Int32)] [(.int (1 : Int32))]) _
        refine XS.goto X42.here hx rfl (pc0 := 154) (pc' := 158) rfl (hb hby at_154) (by decide) (by decide) ?_
        show SS p e below T42 (mkF m 158 #[vi p0, vi p1, vi p2, vi p3, vi (2 : Int32), vi w0, vi w1, vi w2, vi vt, vr b1, vr b5, vi (3 : Int32), vi (1 : Int32), vi (1 : Int32)] [(.int (1 : Int32))]) _
        exact retN X42 hx (t := .boolean) Bd.returns (by simp) (hb hby at_158) hr
      · show Q_rm0 Z p0 p1 p2 p3 (2 : Int32) w0 w1 w2 vt (3 : Int32) h0 n0 _ T42.heap _
        rw [eh42]
        exact ⟨rfl, N42⟩
  · obtain ⟨cq43, kq43, q43a, q43b, q43c⟩ := isOf hZ rfl f6_0
    obtain ⟨_, _, ⟨T43, L43, k43, n43⟩, -, X43, ⟨Lc43, hQ43, l43, y43, z43⟩, st43⟩ := X6.virtualBack hx (y := (⟨"org/quarrel/model/Distribution", "probability", "(I)D"⟩ : MethodName)) (z := (⟨"org/quarrel/model/Distribution", "probability", "(I)D"⟩ : MethodName)) hown (mvT hZ (wd hw 35 rfl)) (mvT hZ (wd hw 36 rfl)) (notFace_of_selects (args := #[]) (mvT hZ (wd hw 38 rfl))) (mvT hZ (wd hw 38 rfl)) (mvT hZ (wd hw 37 rfl)) (by decide) (backOf (W := 0) (rmPl l Z a0 hw [] b5 p4 nb_6 k1 vt (w0 * vt) (w1 * vt) (w2 * vt) T6.heap n0 Z6 f6_1 f6_2 f6_4 unz hl.1) hZ (wd hw 39 rfl) (wd hw 3 rfl) (by decide) (by decide)) q43a q43c (g := (mkF m 89 #[vi p0, vi p1, vi p2, vi p3, vi p4, vi w0, vi w1, vi w2, vi vt, vr b1, vr b5, vi vn, uu, uu] [(.int p4), (.ref b5)])) rfl (by rw [hml]; rfl) (Steps.refl _) (argsL := [(.int p4)]) (rest := []) (lenOf pd_4 rfl) rfl (by show 2 * 0 + _ ≤ _; exact Nat.le_of_eq rfl) (hb hby at_89) (fun _ _ => ⟨rfl, rfl, (by decide : 3 + 0 ≤ _), (by decide : 8 + 0 ≤ _)⟩)
    dsimp only [Pt.U, Pt.locs, Pt.cells, Pt.slots] at X43 l43 y43 z43 st43 hQ43
    subst l43 y43 z43
    obtain ⟨rfl, Nq43, eh43⟩ := hQ43
    have N43 := Fr.app N6 Nq43
    obtain ⟨_, _, ⟨T44, L44, k44, n44⟩, -, X44, ⟨Lc44, hQ44, l44, y44, z44⟩, st44⟩ := Jvm.LawKit.callS X43 hx (y := (⟨"org/quarrel/model/DistributionProbabilityPinLaw", "expected", "(IIII)D"⟩ : MethodName)) hown (mvT hZ (wd hw 40 rfl)) (mvT hZ (wd hw 41 rfl)) (mvT hZ (wd hw 42 rfl)) (mvT hZ (wd hw 43 rfl)) (by decide) (backOf (W := 2) (rmEn l Z a0 hw [] p4 w0 w1 w2 T6.heap n0 Z6 hl.2.1 hl.2.2.1 hl.2.2.2) hZ (wd hw 43 rfl) (wd hw 42 rfl) (by decide) (by decide)) (g := (mkF m 100 #[vi p0, vi p1, vi p2, vi p3, vi p4, vi w0, vi w1, vi w2, vi vt, vr b1, vr b5, vi vn, uu, uu] [(.int w2), (.int w1), (.int w0), (.int p4), (.double (0 : UInt64))])) rfl (by rw [hml]; rfl) (argsL := [(.int p4), (.int w0), (.int w1), (.int w2)]) (rest := [(.double (0 : UInt64))]) (lenOf pd_5 rfl) rfl (by show 2 * 0 + _ ≤ _; exact Nat.le_of_eq rfl) (hb hby at_100) (fun _ _ => ⟨rfl, eh43, (by decide : 3 + 0 ≤ _), (by decide : 8 + 0 ≤ _)⟩)
    dsimp only [Pt.U, Pt.locs, Pt.cells, Pt.slots] at X44 l44 y44 z44 st44 hQ44
    subst l44 y44 z44
    obtain ⟨rfl, Nq44, eh44⟩ := hQ44
    have N44 := Fr.app N43 Nq44
    have sg45 : ∀ target, SS p e below T44 (mkF m 118 #[vi p0, vi p1, vi p2, vi p3, vi p4, vi w0, vi w1, vi w2, vi vt, vr b1, vr b5, vi vn, vi (1 : Int32), uu] [(.int vn), (.ref b5)]) target → SS p e below T6 (mkF m 89 #[vi p0, vi p1, vi p2, vi p3, vi p4, vi w0, vi w1, vi w2, vi vt, vr b1, vr b5, vi vn, uu, uu] [(.int p4), (.ref b5)]) target := by
      intro target kt
      show SS p e below T6 (mkF m 89 #[vi p0, vi p1, vi p2, vi p3, vi p4, vi w0, vi w1, vi w2, vi vt, vr b1, vr b5, vi vn, uu, uu] [(.int p4), (.ref b5)]) _
      refine st43.trans ?_
      show SS p e below T43 (mkF m 92 #[vi p0, vi p1, vi p2, vi p3, vi p4, vi w0, vi w1, vi w2, vi vt, vr b1, vr b5, vi vn, uu, uu] [(.double (0 : UInt64))]) _
      refine XS.iload X43.here hx rfl (hb hby at_92) rfl ?_
      show SS p e below T43 (mkF m 94 #[vi p0, vi p1, vi p2, vi p3, vi p4, vi w0, vi w1, vi w2, vi vt, vr b1, vr b5, vi vn, uu, uu] [(.int p4), (.double (0 : UInt64))]) _
      refine XS.iload X43.here hx rfl (hb hby at_94) rfl ?_
      show SS p e below T43 (mkF m 96 #[vi p0, vi p1, vi p2, vi p3, vi p4, vi w0, vi w1, vi w2, vi vt, vr b1, vr b5, vi vn, uu, uu] [(.int w0), (.int p4), (.double (0 : UInt64))]) _
      refine XS.iload X43.here hx rfl (hb hby at_96) rfl ?_
      show SS p e below T43 (mkF m 98 #[vi p0, vi p1, vi p2, vi p3, vi p4, vi w0, vi w1, vi w2, vi vt, vr b1, vr b5, vi vn, uu, uu] [(.int w1), (.int w0), (.int p4), (.double (0 : UInt64))]) _
      refine XS.iload X43.here hx rfl (hb hby at_98) rfl ?_
      show SS p e below T43 (mkF m 100 #[vi p0, vi p1, vi p2, vi p3, vi p4, vi w0, vi w1, vi w2, vi vt, vr b1, vr b5, vi vn, uu, uu] [(.int w2), (.int w1), (.int w0), (.int p4), (.double (0 : UInt64))]) _
      refine st44 _ ?_
      show SS p e below T44 (mkF m 103 #[vi p0, vi p1, vi p2, vi p3, vi p4, vi w0, vi w1, vi w2, vi vt, vr b1, vr b5, vi vn, uu, uu] [(.double (0 : UInt64)), (.double (0 : UInt64))]) _
      refine XS.dcmpS X44.here hx rfl (hb hby at_103) rfl (v := (0 : Int32)) own_eq0 ?_
      show SS p e below T44 (mkF m 104 #[vi p0, vi p1, vi p2, vi p3, vi p4, vi w0, vi w1, vi w2, vi vt, vr b1, vr b5, vi vn, uu, uu] [(.int (0 : Int32))]) _
      refine XS.ifNo X44.here hx rfl (hb hby at_104) rfl ((if0 _ _).trans (teq (rfl : (0 : Int32) = (0 : Int32))).2) ?_
      show SS p e below T44 (mkF m 107 #[vi p0, vi p1, vi p2, vi p3, vi p4, vi w0, vi w1, vi w2, vi vt, vr b1, vr b5, vi vn, uu, uu] []) _
      refine XS.iconst X44.here hx rfl (hb hby at_107) ?_
      show SS p e below T44 (mkF m 108 #[vi p0, vi p1, vi p2, vi p3, vi p4, vi w0, vi w1, vi w2, vi vt, vr b1, vr b5, vi vn, uu, uu] [(.int (1 : Int32))]) _
      refine XS.goto X44.here hx rfl (pc0 := 108) (pc' := 112) rfl (hb hby at_108) (by decide) (by decide) ?_
      show SS p e below T44 (mkF m 112 #[vi p0, vi p1, vi p2, vi p3, vi p4, vi w0, vi w1, vi w2, vi vt, vr b1, vr b5, vi vn, uu, uu] [(.int (1 : Int32))]) _
      refine XS.istore X44.here hx rfl (hb hby at_112) rfl (l' := #[vi p0, vi p1, vi p2, vi p3, vi p4, vi w0, vi w1, vi w2, vi vt, vr b1, vr b5, vi vn, vi (1 : Int32), uu]) rfl ?_
      show SS p e below T44 (mkF m 114 #[vi p0, vi p1, vi p2, vi p3, vi p4, vi w0, vi w1, vi w2, vi vt, vr b1, vr b5, vi vn, vi (1 : Int32), uu] []) _
      refine XS.aload X44.here hx rfl (hb hby at_114) rfl rfl ?_
      show SS p e below T44 (mkF m 116 #[vi p0, vi p1, vi p2, vi p3, vi p4, vi w0, vi w1, vi w2, vi vt, vr b1, vr b5, vi vn, vi (1 : Int32), uu] [(.ref b5)]) _
      refine XS.iload X44.here hx rfl (hb hby at_116) rfl ?_
      exact kt
    rcases un4 with rfl | rfl | rfl | rfl
    · obtain ⟨cq46, kq46, q46a, q46b, q46c⟩ := isOf hZ eh44 f6_0
      obtain ⟨_, _, ⟨T46, L46, k46, n46⟩, -, X46, ⟨Lc46, hQ46, l46, y46, z46⟩, st46⟩ := X44.virtualBack hx (y := (⟨"org/quarrel/model/Distribution", "probability", "(I)D"⟩ : MethodName)) (z := (⟨"org/quarrel/model/Distribution", "probability", "(I)D"⟩ : MethodName)) hown (mvT hZ (wd hw 35 rfl)) (mvT hZ (wd hw 36 rfl)) (notFace_of_selects (args := #[]) (mvT hZ (wd hw 38 rfl))) (mvT hZ (wd hw 38 rfl)) (mvT hZ (wd hw 37 rfl)) (by decide) (backOf (W := 0) (rmP0 l Z a0 hw [] b5 nb_6 k1 vt (w0 * vt) (w1 * vt) (w2 * vt) T6.heap n0 Z6 f6_1 f6_2 f6_4 unz) hZ (wd hw 39 rfl) (wd hw 3 rfl) (by decide) (by decide)) q46a q46c (g := (mkF m 118 #[vi p0, vi p1, vi p2, vi p3, vi p4, vi w0, vi w1, vi w2, vi vt, vr b1, vr b5, vi (0 : Int32), vi (1 : Int32), uu] [(.int (0 : Int32)), (.ref b5)])) rfl (by rw [hml]; rfl) (Steps.refl _) (argsL := [(.int (0 : Int32))]) (rest := []) (lenOf pd_4 rfl) rfl (by show 2 * 0 + _ ≤ _; exact Nat.le_of_eq rfl) (hb hby at_118) (fun _ _ => ⟨rfl, eh44, (by decide : 3 + 0 ≤ _), (by decide : 8 + 0 ≤ _)⟩)
      dsimp only [Pt.U, Pt.locs, Pt.cells, Pt.slots] at X46 l46 y46 z46 st46 hQ46
      subst l46 y46 z46
      obtain ⟨rfl, Nq46, eh46⟩ := hQ46
      have N46 := Fr.app N44 Nq46
      obtain ⟨_, _, ⟨T47, L47, k47, n47⟩, -, X47, ⟨Lc47, hQ47, l47, y47, z47⟩, st47⟩ := Jvm.LawKit.callS X46 hx (y := (⟨"org/quarrel/model/DistributionProbabilityPinLaw", "expected", "(IIII)D"⟩ : MethodName)) hown (mvT hZ (wd hw 40 rfl)) (mvT hZ (wd hw 41 rfl)) (mvT hZ (wd hw 42 rfl)) (mvT hZ (wd hw 43 rfl)) (by decide) (backOf (W := 2) (rmE0 l Z a0 hw [] w0 w1 w2 T6.heap n0 Z6) hZ (wd hw 43 rfl) (wd hw 42 rfl) (by decide) (by decide)) (g := (mkF m 129 #[vi p0, vi p1, vi p2, vi p3, vi p4, vi w0, vi w1, vi w2, vi vt, vr b1, vr b5, vi (0 : Int32), vi (1 : Int32), uu] [(.int w2), (.int w1), (.int w0), (.int (0 : Int32)), (.double (FP.ddiv (FP.i2d (w0 * vt)) (FP.i2d vt)))])) rfl (by rw [hml]; rfl) (argsL := [(.int (0 : Int32)), (.int w0), (.int w1), (.int w2)]) (rest := [(.double (FP.ddiv (FP.i2d (w0 * vt)) (FP.i2d vt)))]) (lenOf pd_5 rfl) rfl (by show 2 * 0 + _ ≤ _; exact Nat.le_of_eq rfl) (hb hby at_129) (fun _ _ => ⟨rfl, eh46, (by decide : 3 + 0 ≤ _), (by decide : 8 + 0 ≤ _)⟩)
      dsimp only [Pt.U, Pt.locs, Pt.cells, Pt.slots] at X47 l47 y47 z47 st47 hQ47
      subst l47 y47 z47
      obtain ⟨rfl, Nq47, eh47⟩ := hQ47
      have N47 := Fr.app N46 Nq47
      obtain ⟨fs, hr, hrun, hended, hW, hsame⟩ := X47.leave (v := some (.int (nar .boolean (1 : Int32)))) (fun h => by rw [Bd.returns] at h; cases h)
      refine ⟨_, _, pre0 _ ?_, hrun, hended, _, _, rfl, ?_, ⟨_, rfl⟩, hW, hsame.mono (by decide) (by decide)⟩
      · refine sg9 _ ?_
        refine sg45 _ ?_
        show SS p e below T44 (mkF m 118 #[vi p0, vi p1, vi p2, vi p3, vi p4, vi w0, vi w1, vi w2, vi vt, vr b1, vr b5, vi (0 : Int32), vi (1 : Int32), uu] [(.int (0 : Int32)), (.ref b5)]) _
        refine st46.trans ?_
        show SS p e below T46 (mkF m 121 #[vi p0, vi p1, vi p2, vi p3, vi p4, vi w0, vi w1, vi w2, vi vt, vr b1, vr b5, vi (0 : Int32), vi (1 : Int32), uu] [(.double (FP.ddiv (FP.i2d (w0 * vt)) (FP.i2d vt)))]) _
        refine XS.iload X46.here hx rfl (hb hby at_121) rfl ?_
        show SS p e below T46 (mkF m 123 #[vi p0, vi p1, vi p2, vi p3, vi p4, vi w0, vi w1, vi w2, vi vt, vr b1, vr b5, vi (0 : Int32), vi (1 : Int32), uu] [(.int (0 : Int32)), (.double (FP.ddiv (FP.i2d (w0 * vt)) (FP.i2d vt)))]) _
        refine XS.iload X46.here hx rfl (hb hby at_123) rfl ?_
        show SS p e below T46 (mkF m 125 #[vi p0, vi p1, vi p2, vi p3, vi p4, vi w0, vi w1, vi w2, vi vt, vr b1, vr b5, vi (0 : Int32), vi (1 : Int32), uu] [(.int w0), (.int (0 : Int32)), (.double (FP.ddiv (FP.i2d (w0 * vt)) (FP.i2d vt)))]) _
        refine XS.iload X46.here hx rfl (hb hby at_125) rfl ?_
        show SS p e below T46 (mkF m 127 #[vi p0, vi p1, vi p2, vi p3, vi p4, vi w0, vi w1, vi w2, vi vt, vr b1, vr b5, vi (0 : Int32), vi (1 : Int32), uu] [(.int w1), (.int w0), (.int (0 : Int32)), (.double (FP.ddiv (FP.i2d (w0 * vt)) (FP.i2d vt)))]) _
        refine XS.iload X46.here hx rfl (hb hby at_127) rfl ?_
        show SS p e below T46 (mkF m 129 #[vi p0, vi p1, vi p2, vi p3, vi p4, vi w0, vi w1, vi w2, vi vt, vr b1, vr b5, vi (0 : Int32), vi (1 : Int32), uu] [(.int w2), (.int w1), (.int w0), (.int (0 : Int32)), (.double (FP.ddiv (FP.i2d (w0 * vt)) (FP.i2d vt)))]) _
        refine st47 _ ?_
        show SS p e below T47 (mkF m 132 #[vi p0, vi p1, vi p2, vi p3, vi p4, vi w0, vi w1, vi w2, vi vt, vr b1, vr b5, vi (0 : Int32), vi (1 : Int32), uu] [(.double (FP.i2d w0)), (.double (FP.ddiv (FP.i2d (w0 * vt)) (FP.i2d vt)))]) _
        refine XS.dcmpS X47.here hx rfl (hb hby at_132) rfl (v := (0 : Int32)) (own_eq ud_0) ?_
        show SS p e below T47 (mkF m 133 #[vi p0, vi p1, vi p2, vi p3, vi p4, vi w0, vi w1, vi w2, vi vt, vr b1, vr b5, vi (0 : Int32), vi (1 : Int32), uu] [(.int (0 : Int32))]) _
        refine XS.ifNo X47.here hx rfl (hb hby at_133) rfl ((if0 _ _).trans (teq (rfl : (0 : Int32) = (0 : Int32))).2) ?_
        show SS p e below T47 (mkF m 136 #[vi p0, vi p1, vi p2, vi p3, vi p4, vi w0, vi w1, vi w2, vi vt, vr b1, vr b5, vi (0 : Int32), vi (1 : Int32), uu] []) _
        refine XS.iconst X47.here hx rfl (hb hby at_136) ?_
        show SS p e below T47 (mkF m 137 #[vi p0, vi p1, vi p2, vi p3, vi p4, vi w0, vi w1, vi w2, vi vt, vr b1, vr b5, vi (0 : Int32), vi (1 : Int32), uu] [(.int (1 : Int32))]) _
        refine XS.goto X47.here hx rfl (pc0 := 137) (pc' := 141) rfl (hb hby at_137) (by decide) (by decide) ?_
        show SS p e below T47 (mkF m 141 #[vi p0, vi p1, vi p2, vi p3, vi p4, vi w0, vi w1, vi w2, vi vt, vr b1, vr b5, vi (0 : Int32), vi (1 : Int32), uu] [(.int (1 : Int32))]) _
        refine XS.istore X47.here hx rfl (hb hby at_141) rfl (l' := #[vi p0, vi p1, vi p2, vi p3, vi p4, vi w0, vi w1, vi w2, vi vt, vr b1, vr b5, vi (0 : Int32), vi (1 : Int32), vi (1 : Int32)]) rfl ?_
        show SS p e below T47 (mkF m 143 #[vi p0, vi p1, vi p2, vi p3, vi p4, vi w0, vi w1, vi w2, vi vt, vr b1, vr b5, vi (0 : Int32), vi (1 : Int32), vi (1 : Int32)] []) _
        refine XS.iload X47.here hx rfl (hb hby at_143) rfl ?_
        show SS p e below T47 (mkF m 145 #[vi p0, vi p1, vi p2, vi p3, vi p4, vi w0, vi w1, vi w2, vi vt, vr b1, vr b5, vi (0 : Int32), vi (1 : Int32), vi (1 : Int32)] [(.int (1 : Int32))]) _
        refine XS.ifNo X47.here hx rfl (hb hby at_145) rfl ((if0 _ _).trans (feq (by decide : ¬ ((1 : Int32) = (0 : Int32)))).1) ?_
        show SS p e below T47 (mkF m 148 #[vi p0, vi p1, vi p2, vi p3, vi p4, vi w0, vi w1, vi w2, vi vt, vr b1, vr b5, vi (0 : Int32), vi (1 : Int32), vi (1 : Int32)] []) _
        refine XS.iload X47.here hx rfl (hb hby at_148) rfl ?_
        show SS p e below T47 (mkF m 150 #[vi p0, vi p1, vi p2, vi p3, vi p4, vi w0, vi w1, vi w2, vi vt, vr b1, vr b5, vi (0 : Int32), vi (1 : Int32), vi (1 : Int32)] [(.int (1 : Int32))]) _
        refine XS.ifNo X47.here hx rfl (hb hby at_150) rfl ((if0 _ _).trans (feq (by decide : ¬ ((1 : Int32) = (0 : Int32)))).1) ?_
        show SS p e below T47 (mkF m 153 #[vi p0, vi p1, vi p2, vi p3, vi p4, vi w0, vi w1, vi w2, vi vt, vr b1, vr b5, vi (0 : Int32), vi (1 : Int32), vi (1 : Int32)] []) _
        refine XS.iconst X47.here hx rfl (hb hby at_153) ?_
        show SS p e below T47 (mkF m 154 #[vi p0, vi p1, vi p2, vi p3, vi p4, vi w0, vi w1, vi w2, vi vt, vr b1, vr b5, vi (0 : Int32), vi (1 : Int32), vi (1 : Int32)] [(.int (1 : Int32))]) _
        refine XS.goto X47.here hx rfl (pc0 := 154) (pc' := 158) rfl (hb hby at_154) (by decide) (by decide) ?_
        show SS p e below T47 (mkF m 158 #[vi p0, vi p1, vi p2, vi p3, vi p4, vi w0, vi w1, vi w2, vi vt, vr b1, vr b5, vi (0 : Int32), vi (1 : Int32), vi (1 : Int32)] [(.int (1 : Int32))]) _
        exact retN X47 hx (t := .boolean) Bd.returns (by simp) (hb hby at_158) hr
      · show Q_rm0 Z p0 p1 p2 p3 p4 w0 w1 w2 vt (0 : Int32) h0 n0 _ T47.heap _
        rw [eh47]
        exact ⟨rfl, N47⟩
    · obtain ⟨cq48, kq48, q48a, q48b, q48c⟩ := isOf hZ eh44 f6_0
      obtain ⟨_, _, ⟨T48, L48, k48, n48⟩, -, X48, ⟨Lc48, hQ48, l48, y48, z48⟩, st48⟩ := X44.virtualBack hx (y := (⟨"org/quarrel/model/Distribution", "probability", "(I)D"⟩ : MethodName)) (z := (⟨"org/quarrel/model/Distribution", "probability", "(I)D"⟩ : MethodName)) hown (mvT hZ (wd hw 35 rfl)) (mvT hZ (wd hw 36 rfl)) (notFace_of_selects (args := #[]) (mvT hZ (wd hw 38 rfl))) (mvT hZ (wd hw 38 rfl)) (mvT hZ (wd hw 37 rfl)) (by decide) (backOf (W := 0) (rmP1 l Z a0 hw [] b5 nb_6 k1 vt (w0 * vt) (w1 * vt) (w2 * vt) T6.heap n0 Z6 f6_1 f6_2 f6_4 unz) hZ (wd hw 39 rfl) (wd hw 3 rfl) (by decide) (by decide)) q48a q48c (g := (mkF m 118 #[vi p0, vi p1, vi p2, vi p3, vi p4, vi w0, vi w1, vi w2, vi vt, vr b1, vr b5, vi (1 : Int32), vi (1 : Int32), uu] [(.int (1 : Int32)), (.ref b5)])) rfl (by rw [hml]; rfl) (Steps.refl _) (argsL := [(.int (1 : Int32))]) (rest := []) (lenOf pd_4 rfl) rfl (by show 2 * 0 + _ ≤ _; exact Nat.le_of_eq rfl) (hb hby at_118) (fun _ _ => ⟨rfl, eh44, (by decide : 3 + 0 ≤ _), (by decide : 8 + 0 ≤ _)⟩)
      dsimp only [Pt.U, Pt.locs, Pt.cells, Pt.slots] at X48 l48 y48 z48 st48 hQ48
      subst l48 y48 z48
      obtain ⟨rfl, Nq48, eh48⟩ := hQ48
      have N48 := Fr.app N44 Nq48
      obtain ⟨_, _, ⟨T49, L49, k49, n49⟩, -, X49, ⟨Lc49, hQ49, l49, y49, z49⟩, st49⟩ := Jvm.LawKit.callS X48 hx (y := (⟨"org/quarrel/model/DistributionProbabilityPinLaw", "expected", "(IIII)D"⟩ : MethodName)) hown (mvT hZ (wd hw 40 rfl)) (mvT hZ (wd hw 41 rfl)) (mvT hZ (wd hw 42 rfl)) (mvT hZ (wd hw 43 rfl)) (by decide) (backOf (W := 2) (rmE1 l Z a0 hw [] w0 w1 w2 T6.heap n0 Z6) hZ (wd hw 43 rfl) (wd hw 42 rfl) (by decide) (by decide)) (g := (mkF m 129 #[vi p0, vi p1, vi p2, vi p3, vi p4, vi w0, vi w1, vi w2, vi vt, vr b1, vr b5, vi (1 : Int32), vi (1 : Int32), uu] [(.int w2), (.int w1), (.int w0), (.int (1 : Int32)), (.double (FP.ddiv (FP.i2d (w1 * vt)) (FP.i2d vt)))])) rfl (by rw [hml]; rfl) (argsL := [(.int (1 : Int32)), (.int w0), (.int w1), (.int w2)]) (rest := [(.double (FP.ddiv (FP.i2d (w1 * vt)) (FP.i2d vt)))]) (lenOf pd_5 rfl) rfl (by show 2 * 0 + _ ≤ _; exact Nat.le_of_eq rfl) (hb hby at_129) (fun _ _ => ⟨rfl, eh48, (by decide : 3 + 0 ≤ _), (by decide : 8 + 0 ≤ _)⟩)
      dsimp only [Pt.U, Pt.locs, Pt.cells, Pt.slots] at X49 l49 y49 z49 st49 hQ49
      subst l49 y49 z49
      obtain ⟨rfl, Nq49, eh49⟩ := hQ49
      have N49 := Fr.app N48 Nq49
      obtain ⟨fs, hr, hrun, hended, hW, hsame⟩ := X49.leave (v := some (.int (nar .boolean (1 : Int32)))) (fun h => by rw [Bd.returns] at h; cases h)
      refine ⟨_, _, pre0 _ ?_, hrun, hended, _, _, rfl, ?_, ⟨_, rfl⟩, hW, hsame.mono (by decide) (by decide)⟩
      · refine sg9 _ ?_
        refine sg45 _ ?_
        show SS p e below T44 (mkF m 118 #[vi p0, vi p1, vi p2, vi p3, vi p4, vi w0, vi w1, vi w2, vi vt, vr b1, vr b5, vi (1 : Int32), vi (1 : Int32), uu] [(.int (1 : Int32)), (.ref b5)]) _
        refine st48.trans ?_
        show SS p e below T48 (mkF m 121 #[vi p0, vi p1, vi p2, vi p3, vi p4, vi w0, vi w1, vi w2, vi vt, vr b1, vr b5, vi (1 : Int32), vi (1 : Int32), uu] [(.double (FP.ddiv (FP.i2d (w1 * vt)) (FP.i2d vt)))]) _
        refine XS.iload X48.here hx rfl (hb hby at_121) rfl ?_
        show SS p e below T48 (mkF m 123 #[vi p0, vi p1, vi p2, vi p3, vi p4, vi w0, vi w1, vi w2, vi vt, vr b1, vr b5, vi (1 : Int32), vi (1 : Int32), uu] [(.int (1 : Int32)), (.double (FP.ddiv (FP.i2d (w1 * vt)) (FP.i2d vt)))]) _
        refine XS.iload X48.here hx rfl (hb hby at_123) rfl ?_
        show SS p e below T48 (mkF m 125 #[vi p0, vi p1, vi p2, vi p3, vi p4, vi w0, vi w1, vi w2, vi vt, vr b1, vr b5, vi (1 : Int32), vi (1 : Int32), uu] [(.int w0), (.int (1 : Int32)), (.double (FP.ddiv (FP.i2d (w1 * vt)) (FP.i2d vt)))]) _
        refine XS.iload X48.here hx rfl (hb hby at_125) rfl ?_
        show SS p e below T48 (mkF m 127 #[vi p0, vi p1, vi p2, vi p3, vi p4, vi w0, vi w1, vi w2, vi vt, vr b1, vr b5, vi (1 : Int32), vi (1 : Int32), uu] [(.int w1), (.int w0), (.int (1 : Int32)), (.double (FP.ddiv (FP.i2d (w1 * vt)) (FP.i2d vt)))]) _
        refine XS.iload X48.here hx rfl (hb hby at_127) rfl ?_
        show SS p e below T48 (mkF m 129 #[vi p0, vi p1, vi p2, vi p3, vi p4, vi w0, vi w1, vi w2, vi vt, vr b1, vr b5, vi (1 : Int32), vi (1 : Int32), uu] [(.int w2), (.int w1), (.int w0), (.int (1 : Int32)), (.double (FP.ddiv (FP.i2d (w1 * vt)) (FP.i2d vt)))]) _
        refine st49 _ ?_
        show SS p e below T49 (mkF m 132 #[vi p0, vi p1, vi p2, vi p3, vi p4, vi w0, vi w1, vi w2, vi vt, vr b1, vr b5, vi (1 : Int32), vi (1 : Int32), uu] [(.double (FP.i2d w1)), (.double (FP.ddiv (FP.i2d (w1 * vt)) (FP.i2d vt)))]) _
        refine XS.dcmpS X49.here hx rfl (hb hby at_132) rfl (v := (0 : Int32)) (own_eq ud_1) ?_
        show SS p e below T49 (mkF m 133 #[vi p0, vi p1, vi p2, vi p3, vi p4, vi w0, vi w1, vi w2, vi vt, vr b1, vr b5, vi (1 : Int32), vi (1 : Int32), uu] [(.int (0 : Int32))]) _
        refine XS.ifNo X49.here hx rfl (hb hby at_133) rfl ((if0 _ _).trans (teq (rfl : (0 : Int32) = (0 : Int32))).2) ?_
        show SS p e below T49 (mkF m 136 #[vi p0, vi p1, vi p2, vi p3, vi p4, vi w0, vi w1, vi w2, vi vt, vr b1, vr b5, vi (1 : Int32), vi (1 : Int32), uu] []) _
        refine XS.iconst X49.here hx rfl (hb hby at_136) ?_
        show SS p e below T49 (mkF m 137 #[vi p0, vi p1, vi p2, vi p3, vi p4, vi w0, vi w1, vi w2, vi vt, vr b1, vr b5, vi (1 : Int32), vi (1 : Int32), uu] [(.int (1 : Int32))]) _
        refine XS.goto X49.here hx rfl (pc0 := 137) (pc' := 141) rfl (hb hby at_137) (by decide) (by decide) ?_
        show SS p e below T49 (mkF m 141 #[vi p0, vi p1, vi p2, vi p3, vi p4, vi w0, vi w1, vi w2, vi vt, vr b1, vr b5, vi (1 : Int32), vi (1 : Int32), uu] [(.int (1 : Int32))]) _
        refine XS.istore X49.here hx rfl (hb hby at_141) rfl (l' := #[vi p0, vi p1, vi p2, vi p3, vi p4, vi w0, vi w1, vi w2, vi vt, vr b1, vr b5, vi (1 : Int32), vi (1 : Int32), vi (1 : Int32)]) rfl ?_
        show SS p e below T49 (mkF m 143 #[vi p0, vi p1, vi p2, vi p3, vi p4, vi w0, vi w1, vi w2, vi vt, vr b1, vr b5, vi (1 : Int32), vi (1 : Int32), vi (1 : Int32)] []) _
        refine XS.iload X49.here hx rfl (hb hby at_143) rfl ?_
        show SS p e below T49 (mkF m 145 #[vi p0, vi p1, vi p2, vi p3, vi p4, vi w0, vi w1, vi w2, vi vt, vr b1, vr b5, vi (1 : Int32), vi (1 : Int32), vi (1 : Int32)] [(.int (1 : Int32))]) _
        refine XS.ifNo X49.here hx rfl (hb hby at_145) rfl ((if0 _ _).trans (feq (by decide : ¬ ((1 : Int32) = (0 : Int32)))).1) ?_
        show SS p e below T49 (mkF m 148 #[vi p0, vi p1, vi p2, vi p3, vi p4, vi w0, vi w1, vi w2, vi vt, vr b1, vr b5, vi (1 : Int32), vi (1 : Int32), vi (1 : Int32)] []) _
        refine XS.iload X49.here hx rfl (hb hby at_148) rfl ?_
        show SS p e below T49 (mkF m 150 #[vi p0, vi p1, vi p2, vi p3, vi p4, vi w0, vi w1, vi w2, vi vt, vr b1, vr b5, vi (1 : Int32), vi (1 : Int32), vi (1 : Int32)] [(.int (1 : Int32))]) _
        refine XS.ifNo X49.here hx rfl (hb hby at_150) rfl ((if0 _ _).trans (feq (by decide : ¬ ((1 : Int32) = (0 : Int32)))).1) ?_
        show SS p e below T49 (mkF m 153 #[vi p0, vi p1, vi p2, vi p3, vi p4, vi w0, vi w1, vi w2, vi vt, vr b1, vr b5, vi (1 : Int32), vi (1 : Int32), vi (1 : Int32)] []) _
        refine XS.iconst X49.here hx rfl (hb hby at_153) ?_
        show SS p e below T49 (mkF m 154 #[vi p0, vi p1, vi p2, vi p3, vi p4, vi w0, vi w1, vi w2, vi vt, vr b1, vr b5, vi (1 : Int32), vi (1 : Int32), vi (1 : Int32)] [(.int (1 : Int32))]) _
        refine XS.goto X49.here hx rfl (pc0 := 154) (pc' := 158) rfl (hb hby at_154) (by decide) (by decide) ?_
        show SS p e below T49 (mkF m 158 #[vi p0, vi p1, vi p2, vi p3, vi p4, vi w0, vi w1, vi w2, vi vt, vr b1, vr b5, vi (1 : Int32), vi (1 : Int32), vi (1 : Int32)] [(.int (1 : Int32))]) _
        exact retN X49 hx (t := .boolean) Bd.returns (by simp) (hb hby at_158) hr
      · show Q_rm0 Z p0 p1 p2 p3 p4 w0 w1 w2 vt (1 : Int32) h0 n0 _ T49.heap _
        rw [eh49]
        exact ⟨rfl, N49⟩
    · obtain ⟨cq50, kq50, q50a, q50b, q50c⟩ := isOf hZ eh44 f6_0
      obtain ⟨_, _, ⟨T50, L50, k50, n50⟩, -, X50, ⟨Lc50, hQ50, l50, y50, z50⟩, st50⟩ := X44.virtualBack hx (y := (⟨"org/quarrel/model/Distribution", "probability", "(I)D"⟩ : MethodName)) (z := (⟨"org/quarrel/model/Distribution", "probability", "(I)D"⟩ : MethodName)) hown (mvT hZ (wd hw 35 rfl)) (mvT hZ (wd hw 36 rfl)) (notFace_of_selects (args := #[]) (mvT hZ (wd hw 38 rfl))) (mvT hZ (wd hw 38 rfl)) (mvT hZ (wd hw 37 rfl)) (by decide) (backOf (W := 0) (rmP2 l Z a0 hw [] b5 nb_6 k1 vt (w0 * vt) (w1 * vt) (w2 * vt) T6.heap n0 Z6 f6_1 f6_2 f6_4 unz) hZ (wd hw 39 rfl) (wd hw 3 rfl) (by decide) (by decide)) q50a q50c (g := (mkF m 118 #[vi p0, vi p1, vi p2, vi p3, vi p4, vi w0, vi w1, vi w2, vi vt, vr b1, vr b5, vi (2 : Int32), vi (1 : Int32), uu] [(.int (2 : Int32)), (.ref b5)])) rfl (by rw [hml]; rfl) (Steps.refl _) (argsL := [(.int (2 : Int32))]) (rest := []) (lenOf pd_4 rfl) rfl (by show 2 * 0 + _ ≤ _; exact Nat.le_of_eq rfl) (hb hby at_118) (fun _ _ => ⟨rfl, eh44, (by decide : 3 + 0 ≤ _), (by decide : 8 + 0 ≤ _)⟩)
      dsimp only [Pt.U, Pt.locs, Pt.cells, Pt.slots] at X50 l50 y50 z50 st50 hQ50
      subst l50 y50 z50
      obtain ⟨rfl, Nq50, eh50⟩ := hQ50
      have N50 := Fr.app N44 Nq50
      obtain ⟨_, _, ⟨T51, L51, k51, n51⟩, -, X51, ⟨Lc51, hQ51, l51, y51, z51⟩, st51⟩ := Jvm.LawKit.callS X50 hx (y := (⟨"org/quarrel/model/DistributionProbabilityPinLaw", "expected", "(IIII)D"⟩ : MethodName)) hown (mvT hZ (wd hw 40 rfl)) (mvT hZ (wd hw 41 rfl)) (mvT hZ (wd hw 42 rfl)) (mvT hZ (wd hw 43 rfl)) (by decide) (backOf (W := 2) (rmE2 l Z a0 hw [] w0 w1 w2 T6.heap n0 Z6) hZ (wd hw 43 rfl) (wd hw 42 rfl) (by decide) (by decide)) (g := (mkF m 129 #[vi p0, vi p1, vi p2, vi p3, vi p4, vi w0, vi w1, vi w2, vi vt, vr b1, vr b5, vi (2 : Int32), vi (1 : Int32), uu] [(.int w2), (.int w1), (.int w0), (.int (2 : Int32)), (.double (FP.ddiv (FP.i2d (w2 * vt)) (FP.i2d vt)))])) rfl (by rw [hml]; rfl) (argsL := [(.int (2 : Int32)), (.int w0), (.int w1), (.int w2)]) (rest := [(.double (FP.ddiv (FP.i2d (w2 * vt)) (FP.i2d vt)))]) (lenOf pd_5 rfl) rfl (by show 2 * 0 + _ ≤ _; exact Nat.le_of_eq rfl) (hb hby at_129) (fun _ _ => ⟨rfl, eh50, (by decide : 3 + 0 ≤ _), (by decide : 8 + 0 ≤ _)⟩)
      dsimp only [Pt.U, Pt.locs, Pt.cells, Pt.slots] at X51 l51 y51 z51 st51 hQ51
      subst l51 y51 z51
      obtain ⟨rfl, Nq51, eh51⟩ := hQ51
      have N51 := Fr.app N50 Nq51
      obtain ⟨fs, hr, hrun, hended, hW, hsame⟩ := X51.leave (v := some (.int (nar .boolean (1 : Int32)))) (fun h => by rw [Bd.returns] at h; cases h)
      refine ⟨_, _, pre0 _ ?_, hrun, hended, _, _, rfl, ?_, ⟨_, rfl⟩, hW, hsame.mono (by decide) (by decide)⟩
      · refine sg9 _ ?_
        refine sg45 _ ?_
        show SS p e below T44 (mkF m 118 #[vi p0, vi p1, vi p2, vi p3, vi p4, vi w0, vi w1, vi w2, vi vt, vr b1, vr b5, vi (2 : Int32), vi (1 : Int32), uu] [(.int (2 : Int32)), (.ref b5)]) _
        refine st50.trans ?_
        show SS p e below T50 (mkF m 121 #[vi p0, vi p1, vi p2, vi p3, vi p4, vi w0, vi w1, vi w2, vi vt, vr b1, vr b5, vi (2 : Int32), vi (1 : Int32), uu] [(.double (FP.ddiv (FP.i2d (w2 * vt)) (FP.i2d vt)))]) _
        refine XS.iload X50.here hx rfl (hb hby at_121) rfl ?_
        show SS p e below T50 (mkF m 123 #[vi p0, vi p1, vi p2, vi p3, vi p4, vi w0, vi w1, vi w2, vi vt, vr b1, vr b5, vi (2 : Int32), vi (1 : Int32), uu] [(.int (2 : Int32)), (.double (FP.ddiv (FP.i2d (w2 * vt)) (FP.i2d vt)))]) _
        refine XS.iload X50.here hx rfl (hb hby at_123) rfl ?_
        show SS p e below T50 (mkF m 125 #[vi p0, vi p1, vi p2, vi p3, vi p4, vi w0, vi w1, vi w2, vi vt, vr b1, vr b5, vi (2 : Int32), vi (1 : Int32), uu] [(.int w0), (.int (2 : Int32)), (.double (FP.ddiv (FP.i2d (w2 * vt)) (FP.i2d vt)))]) _
        refine XS.iload X50.here hx rfl (hb hby at_125) rfl ?_
        show SS p e below T50 (mkF m 127 #[vi p0, vi p1, vi p2, vi p3, vi p4, vi w0, vi w1, vi w2, vi vt, vr b1, vr b5, vi (2 : Int32), vi (1 : Int32), uu] [(.int w1), (.int w0), (.int (2 : Int32)), (.double (FP.ddiv (FP.i2d (w2 * vt)) (FP.i2d vt)))]) _
        refine XS.iload X50.here hx rfl (hb hby at_127) rfl ?_
        show SS p e below T50 (mkF m 129 #[vi p0, vi p1, vi p2, vi p3, vi p4, vi w0, vi w1, vi w2, vi vt, vr b1, vr b5, vi (2 : Int32), vi (1 : Int32), uu] [(.int w2), (.int w1), (.int w0), (.int (2 : Int32)), (.double (FP.ddiv (FP.i2d (w2 * vt)) (FP.i2d vt)))]) _
        refine st51 _ ?_
        show SS p e below T51 (mkF m 132 #[vi p0, vi p1, vi p2, vi p3, vi p4, vi w0, vi w1, vi w2, vi vt, vr b1, vr b5, vi (2 : Int32), vi (1 : Int32), uu] [(.double (FP.i2d w2)), (.double (FP.ddiv (FP.i2d (w2 * vt)) (FP.i2d vt)))]) _
        refine XS.dcmpS X51.here hx rfl (hb hby at_132) rfl (v := (0 : Int32)) (own_eq ud_2) ?_
        show SS p e below T51 (mkF m 133 #[vi p0, vi p1, vi p2, vi p3, vi p4, vi w0, vi w1, vi w2, vi vt, vr b1, vr b5, vi (2 : Int32), vi (1 : Int32), uu] [(.int (0 : Int32))]) _
        refine XS.ifNo X51.here hx rfl (hb hby at_133) rfl ((if0 _ _).trans (teq (rfl : (0 : Int32) = (0 : Int32))).2) ?_
        show SS p e below T51 (mkF m 136 #[vi p0, vi p1, vi p2, vi p3, vi p4, vi w0, vi w1, vi w2, vi vt, vr b1, vr b5, vi (2 : Int32), vi (1 : Int32), uu] []) _
        refine XS.iconst X51.here hx rfl (hb hby at_136) ?_
        show SS p e below T51 (mkF m 137 #[vi p0, vi p1, vi p2, vi p3, vi p4, vi w0, vi w1, vi w2, vi vt, vr b1, vr b5, vi (2 : Int32), vi (1 : Int32), uu] [(.int (1 : Int32))]) _
        refine XS.goto X51.here hx rfl (pc0 := 137) (pc' := 141) rfl (hb hby at_137) (by decide) (by decide) ?_
        show SS p e below T51 (mkF m 141 #[vi p0, vi p1, vi p2, vi p3, vi p4, vi w0, vi w1, vi w2, vi vt, vr b1, vr b5, vi (2 : Int32), vi (1 : Int32), uu] [(.int (1 : Int32))]) _
        refine XS.istore X51.here hx rfl (hb hby at_141) rfl (l' := #[vi p0, vi p1, vi p2, vi p3, vi p4, vi w0, vi w1, vi w2, vi vt, vr b1, vr b5, vi (2 : Int32), vi (1 : Int32), vi (1 : Int32)]) rfl ?_
        show SS p e below T51 (mkF m 143 #[vi p0, vi p1, vi p2, vi p3, vi p4, vi w0, vi w1, vi w2, vi vt, vr b1, vr b5, vi (2 : Int32), vi (1 : Int32), vi (1 : Int32)] []) _
        refine XS.iload X51.here hx rfl (hb hby at_143) rfl ?_
        show SS p e below T51 (mkF m 145 #[vi p0, vi p1, vi p2, vi p3, vi p4, vi w0, vi w1, vi w2, vi vt, vr b1, vr b5, vi (2 : Int32), vi (1 : Int32), vi (1 : Int32)] [(.int (1 : Int32))]) _
        refine XS.ifNo X51.here hx rfl (hb hby at_145) rfl ((if0 _ _).trans (feq (by decide : ¬ ((1 : Int32) = (0 : Int32)))).1) ?_
        show SS p e below T51 (mkF m 148 #[vi p0, vi p1, vi p2, vi p3, vi p4, vi w0, vi w1, vi w2, vi vt, vr b1, vr b5, vi (2 : Int32), vi (1 : Int32), vi (1 : Int32)] []) _
        refine XS.iload X51.here hx rfl (hb hby at_148) rfl ?_
        show SS p e below T51 (mkF m 150 #[vi p0, vi p1, vi p2, vi p3, vi p4, vi w0, vi w1, vi w2, vi vt, vr b1, vr b5, vi (2 : Int32), vi (1 : Int32), vi (1 : Int32)] [(.int (1 : Int32))]) _
        refine XS.ifNo X51.here hx rfl (hb hby at_150) rfl ((if0 _ _).trans (feq (by decide : ¬ ((1 : Int32) = (0 : Int32)))).1) ?_
        show SS p e below T51 (mkF m 153 #[vi p0, vi p1, vi p2, vi p3, vi p4, vi w0, vi w1, vi w2, vi vt, vr b1, vr b5, vi (2 : Int32), vi (1 : Int32), vi (1 : Int32)] []) _
        refine XS.iconst X51.here hx rfl (hb hby at_153) ?_
        show SS p e below T51 (mkF m 154 #[vi p0, vi p1, vi p2, vi p3, vi p4, vi w0, vi w1, vi w2, vi vt, vr b1, vr b5, vi (2 : Int32), vi (1 : Int32), vi (1 : Int32)] [(.int (1 : Int32))]) _
        refine XS.goto X51.here hx rfl (pc0 := 154) (pc' := 158) rfl (hb hby at_154) (by decide) (by decide) ?_
        show SS p e below T51 (mkF m 158 #[vi p0, vi p1, vi p2, vi p3, vi p4, vi w0, vi w1, vi w2, vi vt, vr b1, vr b5, vi (2 : Int32), vi (1 : Int32), vi (1 : Int32)] [(.int (1 : Int32))]) _
        exact retN X51 hx (t := .boolean) Bd.returns (by simp) (hb hby at_158) hr
      · show Q_rm0 Z p0 p1 p2 p3 p4 w0 w1 w2 vt (2 : Int32) h0 n0 _ T51.heap _
        rw [eh51]
        exact ⟨rfl, N51⟩
    · obtain ⟨cq52, kq52, q52a, q52b, q52c⟩ := isOf hZ eh44 f6_0
      obtain ⟨_, _, ⟨T52, L52, k52, n52⟩, -, X52, ⟨Lc52, hQ52, l52, y52, z52⟩, st52⟩ := X44.virtualBack hx (y := (⟨"org/quarrel/model/Distribution", "probability", "(I)D"⟩ : MethodName)) (z := (⟨"org/quarrel/model/Distribution", "probability", "(I)D"⟩ : MethodName)) hown (mvT hZ (wd hw 35 rfl)) (mvT hZ (wd hw 36 rfl)) (notFace_of_selects (args := #[]) (mvT hZ (wd hw 38 rfl))) (mvT hZ (wd hw 38 rfl)) (mvT hZ (wd hw 37 rfl)) (by decide) (backOf (W := 0) (rmPh l Z a0 hw [] b5 (3 : Int32) nb_6 k1 vt (w0 * vt) (w1 * vt) (w2 * vt) T6.heap n0 Z6 f6_1 f6_2 f6_4 unz (by decide) (by decide)) hZ (wd hw 39 rfl) (wd hw 3 rfl) (by decide) (by decide)) q52a q52c (g := (mkF m 118 #[vi p0, vi p1, vi p2, vi p3, vi p4, vi w0, vi w1, vi w2, vi vt, vr b1, vr b5, vi (3 : Int32), vi (1 : Int32), uu] [(.int (3 : Int32)), (.ref b5)])) rfl (by rw [hml]; rfl) (Steps.refl _) (argsL := [(.int (3 : Int32))]) (rest := []) (lenOf pd_4 rfl) rfl (by show 2 * 0 + _ ≤ _; exact Nat.le_of_eq rfl) (hb hby at_118) (fun _ _ => ⟨rfl, eh44, (by decide : 3 + 0 ≤ _), (by decide : 8 + 0 ≤ _)⟩)
      dsimp only [Pt.U, Pt.locs, Pt.cells, Pt.slots] at X52 l52 y52 z52 st52 hQ52
      subst l52 y52 z52
      obtain ⟨rfl, Nq52, eh52⟩ := hQ52
      have N52 := Fr.app N44 Nq52
      obtain ⟨_, _, ⟨T53, L53, k53, n53⟩, -, X53, ⟨Lc53, hQ53, l53, y53, z53⟩, st53⟩ := Jvm.LawKit.callS X52 hx (y := (⟨"org/quarrel/model/DistributionProbabilityPinLaw", "expected", "(IIII)D"⟩ : MethodName)) hown (mvT hZ (wd hw 40 rfl)) (mvT hZ (wd hw 41 rfl)) (mvT hZ (wd hw 42 rfl)) (mvT hZ (wd hw 43 rfl)) (by decide) (backOf (W := 2) (rmEn l Z a0 hw [] (3 : Int32) w0 w1 w2 T6.heap n0 Z6 (by decide) (by decide) (by decide)) hZ (wd hw 43 rfl) (wd hw 42 rfl) (by decide) (by decide)) (g := (mkF m 129 #[vi p0, vi p1, vi p2, vi p3, vi p4, vi w0, vi w1, vi w2, vi vt, vr b1, vr b5, vi (3 : Int32), vi (1 : Int32), uu] [(.int w2), (.int w1), (.int w0), (.int (3 : Int32)), (.double (0 : UInt64))])) rfl (by rw [hml]; rfl) (argsL := [(.int (3 : Int32)), (.int w0), (.int w1), (.int w2)]) (rest := [(.double (0 : UInt64))]) (lenOf pd_5 rfl) rfl (by show 2 * 0 + _ ≤ _; exact Nat.le_of_eq rfl) (hb hby at_129) (fun _ _ => ⟨rfl, eh52, (by decide : 3 + 0 ≤ _), (by decide : 8 + 0 ≤ _)⟩)
      dsimp only [Pt.U, Pt.locs, Pt.cells, Pt.slots] at X53 l53 y53 z53 st53 hQ53
      subst l53 y53 z53
      obtain ⟨rfl, Nq53, eh53⟩ := hQ53
      have N53 := Fr.app N52 Nq53
      obtain ⟨fs, hr, hrun, hended, hW, hsame⟩ := X53.leave (v := some (.int (nar .boolean (1 : Int32)))) (fun h => by rw [Bd.returns] at h; cases h)
      refine ⟨_, _, pre0 _ ?_, hrun, hended, _, _, rfl, ?_, ⟨_, rfl⟩, hW, hsame.mono (by decide) (by decide)⟩
      · refine sg9 _ ?_
        refine sg45 _ ?_
        show SS p e below T44 (mkF m 118 #[vi p0, vi p1, vi p2, vi p3, vi p4, vi w0, vi w1, vi w2, vi vt, vr b1, vr b5, vi (3 : Int32), vi (1 : Int32), uu] [(.int (3 : Int32)), (.ref b5)]) _
        refine st52.trans ?_
        show SS p e below T52 (mkF m 121 #[vi p0, vi p1, vi p2, vi p3, vi p4, vi w0, vi w1, vi w2, vi vt, vr b1, vr b5, vi (3 : Int32), vi (1 : Int32), uu] [(.double (0 : UInt64))]) _
        refine XS.iload X52.here hx rfl (hb hby at_121) rfl ?_
        show SS p e below T52 (mkF m 123 #[vi p0, vi p1, vi p2, vi p3, vi p4, vi w0, vi w1, vi w2, vi vt, vr b1, vr b5, vi (3 : Int32), vi (1 : Int32), uu] [(.int (3 : Int32)), (.double (0 : UInt64))]) _
        refine XS.iload X52.here hx rfl (hb hby at_123) rfl ?_
        show SS p e below T52 (mkF m 125 #[vi p0, vi p1, vi p2, vi p3, vi p4, vi w0, vi w1, vi w2, vi vt, vr b1, vr b5, vi (3 : Int32), vi (1 : Int32), uu] [(.int w0), (.int (3 : Int32)), (.double (0 : UInt64))]) _
        refine XS.iload X52.here hx rfl (hb hby at_125) rfl ?_
        show SS p e below T52 (mkF m 127 #[vi p0, vi p1, vi p2, vi p3, vi p4, vi w0, vi w1, vi w2, vi vt, vr b1, vr b5, vi (3 : Int32), vi (1 : Int32), uu] [(.int w1), (.int w0), (.int (3 : Int32)), (.double (0 : UInt64))]) _
        refine XS.iload X52.here hx rfl (hb hby at_127) rfl ?_
        show SS p e below T52 (mkF m 129 #[vi p0, vi p1, vi p2, vi p3, vi p4, vi w0, vi w1, vi w2, vi vt, vr b1, vr b5, vi (3 : Int32), vi (1 : Int32), uu] [(.int w2), (.int w1), (.int w0), (.int (3 : Int32)), (.double (0 : UInt64))]) _
        refine st53 _ ?_
        show SS p e below T53 (mkF m 132 #[vi p0, vi p1, vi p2, vi p3, vi p4, vi w0, vi w1, vi w2, vi vt, vr b1, vr b5, vi (3 : Int32), vi (1 : Int32), uu] [(.double (0 : UInt64)), (.double (0 : UInt64))]) _
        refine XS.dcmpS X53.here hx rfl (hb hby at_132) rfl (v := (0 : Int32)) own_eq0 ?_
        show SS p e below T53 (mkF m 133 #[vi p0, vi p1, vi p2, vi p3, vi p4, vi w0, vi w1, vi w2, vi vt, vr b1, vr b5, vi (3 : Int32), vi (1 : Int32), uu] [(.int (0 : Int32))]) _
        refine XS.ifNo X53.here hx rfl (hb hby at_133) rfl ((if0 _ _).trans (teq (rfl : (0 : Int32) = (0 : Int32))).2) ?_
        show SS p e below T53 (mkF m 136 #[vi p0, vi p1, vi p2, vi p3, vi p4, vi w0, vi w1, vi w2, vi vt, vr b1, vr b5, vi (3 : Int32), vi (1 : Int32), uu] []) _
        refine XS.iconst X53.here hx rfl (hb hby at_136) ?_
        show SS p e below T53 (mkF m 137 #[vi p0, vi p1, vi p2, vi p3, vi p4, vi w0, vi w1, vi w2, vi vt, vr b1, vr b5, vi (3 : Int32), vi (1 : Int32), uu] [(.int (1 : Int32))]) _
        refine XS.goto X53.here hx rfl (pc0 := 137) (pc' := 141) rfl (hb hby at_137) (by decide) (by decide) ?_
        show SS p e below T53 (mkF m 141 #[vi p0, vi p1, vi p2, vi p3, vi p4, vi w0, vi w1, vi w2, vi vt, vr b1, vr b5, vi (3 : Int32), vi (1 : Int32), uu] [(.int (1 : Int32))]) _
        refine XS.istore X53.here hx rfl (hb hby at_141) rfl (l' := #[vi p0, vi p1, vi p2, vi p3, vi p4, vi w0, vi w1, vi w2, vi vt, vr b1, vr b5, vi (3 : Int32), vi (1 : Int32), vi (1 : Int32)]) rfl ?_
        show SS p e below T53 (mkF m 143 #[vi p0, vi p1, vi p2, vi p3, vi p4, vi w0, vi w1, vi w2, vi vt, vr b1, vr b5, vi (3 : Int32), vi (1 : Int32), vi (1 : Int32)] []) _
        refine XS.iload X53.here hx rfl (hb hby at_143) rfl ?_
        show SS p e below T53 (mkF m 145 #[vi p0, vi p1, vi p2, vi p3, vi p4, vi w0, vi w1, vi w2, vi vt, vr b1, vr b5, vi (3 : Int32), vi (1 : Int32), vi (1 : Int32)] [(.int (1 : Int32))]) _
        refine XS.ifNo X53.here hx rfl (hb hby at_145) rfl ((if0 _ _).trans (feq (by decide : ¬ ((1 : Int32) = (0 : Int32)))).1) ?_
        show SS p e below T53 (mkF m 148 #[vi p0, vi p1, vi p2, vi p3, vi p4, vi w0, vi w1, vi w2, vi vt, vr b1, vr b5, vi (3 : Int32), vi (1 : Int32), vi (1 : Int32)] []) _
        refine XS.iload X53.here hx rfl (hb hby at_148) rfl ?_
        show SS p e below T53 (mkF m 150 #[vi p0, vi p1, vi p2, vi p3, vi p4, vi w0, vi w1, vi w2, vi vt, vr b1, vr b5, vi (3 : Int32), vi (1 : Int32), vi (1 : Int32)] [(.int (1 : Int32))]) _
        refine XS.ifNo X53.here hx rfl (hb hby at_150) rfl ((if0 _ _).trans (feq (by decide : ¬ ((1 : Int32) = (0 : Int32)))).1) ?_
        show SS p e below T53 (mkF m 153 #[vi p0, vi p1, vi p2, vi p3, vi p4, vi w0, vi w1, vi w2, vi vt, vr b1, vr b5, vi (3 : Int32), vi (1 : Int32), vi (1 : Int32)] []) _
        refine XS.iconst X53.here hx rfl (hb hby at_153) ?_
        show SS p e below T53 (mkF m 154 #[vi p0, vi p1, vi p2, vi p3, vi p4, vi w0, vi w1, vi w2, vi vt, vr b1, vr b5, vi (3 : Int32), vi (1 : Int32), vi (1 : Int32)] [(.int (1 : Int32))]) _
        refine XS.goto X53.here hx rfl (pc0 := 154) (pc' := 158) rfl (hb hby at_154) (by decide) (by decide) ?_
        show SS p e below T53 (mkF m 158 #[vi p0, vi p1, vi p2, vi p3, vi p4, vi w0, vi w1, vi w2, vi vt, vr b1, vr b5, vi (3 : Int32), vi (1 : Int32), vi (1 : Int32)] [(.int (1 : Int32))]) _
        exact retN X53 hx (t := .boolean) Bd.returns (by simp) (hb hby at_158) hr
      · show Q_rm0 Z p0 p1 p2 p3 p4 w0 w1 w2 vt (3 : Int32) h0 n0 _ T53.heap _
        rw [eh53]
        exact ⟨rfl, N53⟩
  · obtain ⟨cq54, kq54, q54a, q54b, q54c⟩ := isOf hZ rfl f6_0
    obtain ⟨_, _, ⟨T54, L54, k54, n54⟩, -, X54, ⟨Lc54, hQ54, l54, y54, z54⟩, st54⟩ := X6.virtualBack hx (y := (⟨"org/quarrel/model/Distribution", "probability", "(I)D"⟩ : MethodName)) (z := (⟨"org/quarrel/model/Distribution", "probability", "(I)D"⟩ : MethodName)) hown (mvT hZ (wd hw 35 rfl)) (mvT hZ (wd hw 36 rfl)) (notFace_of_selects (args := #[]) (mvT hZ (wd hw 38 rfl))) (mvT hZ (wd hw 38 rfl)) (mvT hZ (wd hw 37 rfl)) (by decide) (backOf (W := 0) (rmPh l Z a0 hw [] b5 p4 nb_6 k1 vt (w0 * vt) (w1 * vt) (w2 * vt) T6.heap n0 Z6 f6_1 f6_2 f6_4 unz hl.1 hl.2.1) hZ (wd hw 39 rfl) (wd hw 3 rfl) (by decide) (by decide)) q54a q54c (g := (mkF m 89 #[vi p0, vi p1, vi p2, vi p3, vi p4, vi w0, vi w1, vi w2, vi vt, vr b1, vr b5, vi vn, uu, uu] [(.int p4), (.ref b5)])) rfl (by rw [hml]; rfl) (Steps.refl _) (argsL := [(.int p4)]) (rest := []) (lenOf pd_4 rfl) rfl (by show 2 * 0 + _ ≤ _; exact Nat.le_of_eq rfl) (hb hby at_89) (fun _ _ => ⟨rfl, rfl, (by decide : 3 + 0 ≤ _), (by decide : 8 + 0 ≤ _)⟩)
    dsimp only [Pt.U, Pt.locs, Pt.cells, Pt.slots] at X54 l54 y54 z54 st54 hQ54
    subst l54 y54 z54
    obtain ⟨rfl, Nq54, eh54⟩ := hQ54
    have N54 := Fr.app N6 Nq54
    obtain ⟨_, _, ⟨T55, L55, k55, n55⟩, -, X55, ⟨Lc55, hQ55, l55, y55, z55⟩, st55⟩ := Jvm.LawKit.callS X54 hx (y := (⟨"org/quarrel/model/DistributionProbabilityPinLaw", "expected", "(IIII)D"⟩ : MethodName)) hown (mvT hZ (wd hw 40 rfl)) (mvT hZ (wd hw 41 rfl)) (mvT hZ (wd hw 42 rfl)) (mvT hZ (wd hw 43 rfl)) (by decide) (backOf (W := 2) (rmEn l Z a0 hw [] p4 w0 w1 w2 T6.heap n0 Z6 hl.2.2.1 hl.2.2.2.1 hl.2.2.2.2) hZ (wd hw 43 rfl) (wd hw 42 rfl) (by decide) (by decide)) (g := (mkF m 100 #[vi p0, vi p1, vi p2, vi p3, vi p4, vi w0, vi w1, vi w2, vi vt, vr b1, vr b5, vi vn, uu, uu] [(.int w2), (.int w1), (.int w0), (.int p4), (.double (0 : UInt64))])) rfl (by rw [hml]; rfl) (argsL := [(.int p4), (.int w0), (.int w1), (.int w2)]) (rest := [(.double (0 : UInt64))]) (lenOf pd_5 rfl) rfl (by show 2 * 0 + _ ≤ _; exact Nat.le_of_eq rfl) (hb hby at_100) (fun _ _ => ⟨rfl, eh54, (by decide : 3 + 0 ≤ _), (by decide : 8 + 0 ≤ _)⟩)
    dsimp only [Pt.U, Pt.locs, Pt.cells, Pt.slots] at X55 l55 y55 z55 st55 hQ55
    subst l55 y55 z55
    obtain ⟨rfl, Nq55, eh55⟩ := hQ55
    have N55 := Fr.app N54 Nq55
    have sg56 : ∀ target, SS p e below T55 (mkF m 118 #[vi p0, vi p1, vi p2, vi p3, vi p4, vi w0, vi w1, vi w2, vi vt, vr b1, vr b5, vi vn, vi (1 : Int32), uu] [(.int vn), (.ref b5)]) target → SS p e below T6 (mkF m 89 #[vi p0, vi p1, vi p2, vi p3, vi p4, vi w0, vi w1, vi w2, vi vt, vr b1, vr b5, vi vn, uu, uu] [(.int p4), (.ref b5)]) target := by
      intro target kt
      show SS p e below T6 (mkF m 89 #[vi p0, vi p1, vi p2, vi p3, vi p4, vi w0, vi w1, vi w2, vi vt, vr b1, vr b5, vi vn, uu, uu] [(.int p4), (.ref b5)]) _
      refine st54.trans ?_
      show SS p e below T54 (mkF m 92 #[vi p0, vi p1, vi p2, vi p3, vi p4, vi w0, vi w1, vi w2, vi vt, vr b1, vr b5, vi vn, uu, uu] [(.double (0 : UInt64))]) _
      refine XS.iload X54.here hx rfl (hb hby at_92) rfl ?_
      show SS p e below T54 (mkF m 94 #[vi p0, vi p1, vi p2, vi p3, vi p4, vi w0, vi w1, vi w2, vi vt, vr b1, vr b5, vi vn, uu, uu] [(.int p4), (.double (0 : UInt64))]) _
      refine XS.iload X54.here hx rfl (hb hby at_94) rfl ?_
      show SS p e below T54 (mkF m 96 #[vi p0, vi p1, vi p2, vi p3, vi p4, vi w0, vi w1, vi w2, vi vt, vr b1, vr b5, vi vn, uu, uu] [(.int w0), (.int p4), (.double (0 : UInt64))]) _
      refine XS.iload X54.here hx rfl (hb hby at_96) rfl ?_
      show SS p e below T54 (mkF m 98 #[vi p0, vi p1, vi p2, vi p3, vi p4, vi w0, vi w1, vi w2, vi vt, vr b1, vr b5, vi vn, uu, uu] [(.int w1), (.int w0), (.int p4), (.double (0 : UInt64))]) _
      refine XS.iload X54.here hx rfl (hb hby at_98) rfl ?_
      show SS p e below T54 (mkF m 100 #[vi p0, vi p1, vi p2, vi p3, vi p4, vi w0, vi w1, vi w2, vi vt, vr b1, vr b5, vi vn, uu, uu] [(.int w2), (.int w1), (.int w0), (.int p4), (.double (0 : UInt64))]) _
      refine st55 _ ?_
      show SS p e below T55 (mkF m 103 #[vi p0, vi p1, vi p2, vi p3, vi p4, vi w0, vi w1, vi w2, vi vt, vr b1, vr b5, vi vn, uu, uu] [(.double (0 : UInt64)), (.double (0 : UInt64))]) _
      refine XS.dcmpS X55.here hx rfl (hb hby at_103) rfl (v := (0 : Int32)) own_eq0 ?_
      show SS p e below T55 (mkF m 104 #[vi p0, vi p1, vi p2, vi p3, vi p4, vi w0, vi w1, vi w2, vi vt, vr b1, vr b5, vi vn, uu, uu] [(.int (0 : Int32))]) _
      refine XS.ifNo X55.here hx rfl (hb hby at_104) rfl ((if0 _ _).trans (teq (rfl : (0 : Int32) = (0 : Int32))).2) ?_
      show SS p e below T55 (mkF m 107 #[vi p0, vi p1, vi p2, vi p3, vi p4, vi w0, vi w1, vi w2, vi vt, vr b1, vr b5, vi vn, uu, uu] []) _
      refine XS.iconst X55.here hx rfl (hb hby at_107) ?_
      show SS p e below T55 (mkF m 108 #[vi p0, vi p1, vi p2, vi p3, vi p4, vi w0, vi w1, vi w2, vi vt, vr b1, vr b5, vi vn, uu, uu] [(.int (1 : Int32))]) _
      refine XS.goto X55.here hx rfl (pc0 := 108) (pc' := 112) rfl (hb hby at_108) (by decide) (by decide) ?_
      show SS p e below T55 (mkF m 112 #[vi p0, vi p1, vi p2, vi p3, vi p4, vi w0, vi w1, vi w2, vi vt, vr b1, vr b5, vi vn, uu, uu] [(.int (1 : Int32))]) _
      refine XS.istore X55.here hx rfl (hb hby at_112) rfl (l' := #[vi p0, vi p1, vi p2, vi p3, vi p4, vi w0, vi w1, vi w2, vi vt, vr b1, vr b5, vi vn, vi (1 : Int32), uu]) rfl ?_
      show SS p e below T55 (mkF m 114 #[vi p0, vi p1, vi p2, vi p3, vi p4, vi w0, vi w1, vi w2, vi vt, vr b1, vr b5, vi vn, vi (1 : Int32), uu] []) _
      refine XS.aload X55.here hx rfl (hb hby at_114) rfl rfl ?_
      show SS p e below T55 (mkF m 116 #[vi p0, vi p1, vi p2, vi p3, vi p4, vi w0, vi w1, vi w2, vi vt, vr b1, vr b5, vi vn, vi (1 : Int32), uu] [(.ref b5)]) _
      refine XS.iload X55.here hx rfl (hb hby at_116) rfl ?_
      exact kt
    rcases un4 with rfl | rfl | rfl | rfl
    · obtain ⟨cq57, kq57, q57a, q57b, q57c⟩ := isOf hZ eh55 f6_0
      obtain ⟨_, _, ⟨T57, L57, k57, n57⟩, -, X57, ⟨Lc57, hQ57, l57, y57, z57⟩, st57⟩ := X55.virtualBack hx (y := (⟨"org/quarrel/model/Distribution", "probability", "(I)D"⟩ : MethodName)) (z := (⟨"org/quarrel/model/Distribution", "probability", "(I)D"⟩ : MethodName)) hown (mvT hZ (wd hw 35 rfl)) (mvT hZ (wd hw 36 rfl)) (notFace_of_selects (args := #[]) (mvT hZ (wd hw 38 rfl))) (mvT hZ (wd hw 38 rfl)) (mvT hZ (wd hw 37 rfl)) (by decide) (backOf (W := 0) (rmP0 l Z a0 hw [] b5 nb_6 k1 vt (w0 * vt) (w1 * vt) (w2 * vt) T6.heap n0 Z6 f6_1 f6_2 f6_4 unz) hZ (wd hw 39 rfl) (wd hw 3 rfl) (by decide) (by decide)) q57a q57c (g := (mkF m 118 #[vi p0, vi p1, vi p2, vi p3, vi p4, vi w0, vi w1, vi w2, vi vt, vr b1, vr b5, vi (0 : Int32), vi (1 : Int32), uu] [(.int (0 : Int32)), (.ref b5)])) rfl (by rw [hml]; rfl) (Steps.refl _) (argsL := [(.int (0 : Int32))]) (rest := []) (lenOf pd_4 rfl) rfl (by show 2 * 0 + _ ≤ _; exact Nat.le_of_eq rfl) (hb hby at_118) (fun _ _ => ⟨rfl, eh55, (by decide : 3 + 0 ≤ _), (by decide : 8 + 0 ≤ _)⟩)
      dsimp only [Pt.U, Pt.locs, Pt.cells, Pt.slots] at X57 l57 y57 z57 st57 hQ57
      subst l57 y57 z57
      obtain ⟨rfl, Nq57, eh57⟩ := hQ57
      have N57 := Fr.app N55 Nq57
      obtain ⟨_, _, ⟨T58, L58, k58, n58⟩, -, X58, ⟨Lc58, hQ58, l58, y58, z58⟩, st58⟩ := Jvm.LawKit.callS X57 hx (y := (⟨"org/quarrel/model/DistributionProbabilityPinLaw", "expected", "(IIII)D"⟩ : MethodName)) hown (mvT hZ (wd hw 40 rfl)) (mvT hZ (wd hw 41 rfl)) (mvT hZ (wd hw 42 rfl)) (mvT hZ (wd hw 43 rfl)) (by decide) (backOf (W := 2) (rmE0 l Z a0 hw [] w0 w1 w2 T6.heap n0 Z6) hZ (wd hw 43 rfl) (wd hw 42 rfl) (by decide) (by decide)) (g := (mkF m 129 #[vi p0, vi p1, vi p2, vi p3, vi p4, vi w0, vi w1, vi w2, vi vt, vr b1, vr b5, vi (0 : Int32), vi (1 : Int32), uu] [(.int w2), (.int w1), (.int w0), (.int (0 : Int32)), (.double (FP.ddiv (FP.i2d (w0 * vt)) (FP.i2d vt)))])) rfl (by rw [hml]; rfl) (argsL := [(.int (0 : Int32)), (.int w0), (.int w1), (.int w2)]) (rest := [(.double (FP.ddiv (FP.i2d (w0 * vt)) (FP.i2d vt)))]) (lenOf pd_5 rfl) rfl (by show 2 * 0 + _ ≤ _; exact Nat.le_of_eq rfl) (hb hby at_129) (fun _ _ => ⟨rfl, eh57, (by decide : 3 + 0 ≤ _), (by decide : 8 + 0 ≤ _)⟩)
      dsimp only [Pt.U, Pt.locs, Pt.cells, Pt.slots] at X58 l58 y58 z58 st58 hQ58
      subst l58 y58 z58
      obtain ⟨rfl, Nq58, eh58⟩ := hQ58
      have N58 := Fr.app N57 Nq58
      obtain ⟨fs, hr, hrun, hended, hW, hsame⟩ := X58.leave (v := some (.int (nar .boolean (1 : Int32)))) (fun h => by rw [Bd.returns] at h; cases h)
      refine ⟨_, _, pre0 _ ?_, hrun, hended, _, _, rfl, ?_, ⟨_, rfl⟩, hW, hsame.mono (by decide) (by decide)⟩
      · refine sg9 _ ?_
        refine sg56 _ ?_
        show SS p e below T55 (mkF m 118 #[vi p0, vi p1, vi p2, vi p3, vi p4, vi w0, vi w1, vi w2, vi vt, vr b1, vr b5, vi (0 : Int32), vi (1 : Int32), uu] [(.int (0 : Int32)), (.ref b5)]) _
        refine st57.trans ?_
        show SS p e below T57 (mkF m 121 #[vi p0, vi p1, vi p2, vi p3, vi p4, vi w0, vi w1, vi w2, vi vt, vr b1, vr b5, vi (0 : Int32), vi (1 : Int32), uu] [(.double (FP.ddiv (FP.i2d (w0 * vt)) (FP.i2d vt)))]) _
        refine XS.iload X57.here hx rfl (hb hby at_121) rfl ?_
        show SS p e below T57 (mkF m 123 #[vi p0, vi p1, vi p2, vi p3, vi p4, vi w0, vi w1, vi w2, vi vt, vr b1, vr b5, vi (0 : Int32), vi (1 : Int32), uu] [(.int (0 : Int32)), (.double (FP.ddiv (FP.i2d (w0 * vt)) (FP.i2d vt)))]) _
        refine XS.iload X57.here hx rfl (hb hby at_123) rfl ?_
        show SS p e below T57 (mkF m 125 #[vi p0, vi p1, vi p2, vi p3, vi p4, vi w0, vi w1, vi w2, vi vt, vr b1, vr b5, vi (0 : Int32), vi (1 : Int32), uu] [(.int w0), (.int (0 : Int32)), (.double (FP.ddiv (FP.i2d (w0 * vt)) (FP.i2d vt)))]) _
        refine XS.iload X57.here hx rfl (hb hby at_125) rfl ?_
        show SS p e below T57 (mkF m 127 #[vi p0, vi p1, vi p2, vi p3, vi p4, vi w0, vi w1, vi w2, vi vt, vr b1, vr b5, vi (0 : Int32), vi (1 : Int32), uu] [(.int w1), (.int w0), (.int (0 : Int32)), (.double (FP.ddiv (FP.i2d (w0 * vt)) (FP.i2d vt)))]) _
        refine XS.iload X57.here hx rfl (hb hby at_127) rfl ?_
        show SS p e below T57 (mkF m 129 #[vi p0, vi p1, vi p2, vi p3, vi p4, vi w0, vi w1, vi w2, vi vt, vr b1, vr b5, vi (0 : Int32), vi (1 : Int32), uu] [(.int w2), (.int w1), (.int w0), (.int (0 : Int32)), (.double (FP.ddiv (FP.i2d (w0 * vt)) (FP.i2d vt)))]) _
        refine st58 _ ?_
        show SS p e below T58 (mkF m 132 #[vi p0, vi p1, vi p2, vi p3, vi p4, vi w0, vi w1, vi w2, vi vt, vr b1, vr b5, vi (0 : Int32), vi (1 : Int32), uu] [(.double (FP.i2d w0)), (.double (FP.ddiv (FP.i2d (w0 * vt)) (FP.i2d vt)))]) _
        refine XS.dcmpS X58.here hx rfl (hb hby at_132) rfl (v := (0 : Int32)) (own_eq ud_0) ?_
        show SS p e below T58 (mkF m 133 #[vi p0, vi p1, vi p2, vi p3, vi p4, vi w0, vi w1, vi w2, vi vt, vr b1, vr b5, vi (0 : Int32), vi (1 : Int32), uu] [(.int (0 : Int32))]) _
        refine XS.ifNo X58.here hx rfl (hb hby at_133) rfl ((if0 _ _).trans (teq (rfl : (0 : Int32) = (0 : Int32))).2) ?_
        show SS p e below T58 (mkF m 136 #[vi p0, vi p1, vi p2, vi p3, vi p4, vi w0, vi w1, vi w2, vi vt, vr b1, vr b5, vi (0 : Int32), vi (1 : Int32), uu] []) _
        refine XS.iconst X58.here hx rfl (hb hby at_136) ?_
        show SS p e below T58 (mkF m 137 #[vi p0, vi p1, vi p2, vi p3, vi p4, vi w0, vi w1, vi w2, vi vt, vr b1, vr b5, vi (0 : Int32), vi (1 : Int32), uu] [(.int (1 : Int32))]) _
        refine XS.goto X58.here hx rfl (pc0 := 137) (pc' := 141) rfl (hb hby at_137) (by decide) (by decide) ?_
        show SS p e below T58 (mkF m 141 #[vi p0, vi p1, vi p2, vi p3, vi p4, vi w0, vi w1, vi w2, vi vt, vr b1, vr b5, vi (0 : Int32), vi (1 : Int32), uu] [(.int (1 : Int32))]) _
        refine XS.istore X58.here hx rfl (hb hby at_141) rfl (l' := #[vi p0, vi p1, vi p2, vi p3, vi p4, vi w0, vi w1, vi w2, vi vt, vr b1, vr b5, vi (0 : Int32), vi (1 : Int32), vi (1 : Int32)]) rfl ?_
        show SS p e below T58 (mkF m 143 #[vi p0, vi p1, vi p2, vi p3, vi p4, vi w0, vi w1, vi w2, vi vt, vr b1, vr b5, vi (0 : Int32), vi (1 : Int32), vi (1 : Int32)] []) _
        refine XS.iload X58.here hx rfl (hb hby at_143) rfl ?_
        show SS p e below T58 (mkF m 145 #[vi p0, vi p1, vi p2, vi p3, vi p4, vi w0, vi w1, vi w2, vi vt, vr b1, vr b5, vi (0 : Int32), vi (1 : Int32), vi (1 : Int32)] [(.int (1 : Int32))]) _
        refine XS.ifNo X58.here hx rfl (hb hby at_145) rfl ((if0 _ _).trans (feq (by decide : ¬ ((1 : Int32) = (0 : Int32)))).1) ?_
        show SS p e below T58 (mkF m 148 #[vi p0, vi p1, vi p2, vi p3, vi p4, vi w0, vi w1, vi w2, vi vt, vr b1, vr b5, vi (0 : Int32), vi (1 : Int32), vi (1 : Int32)] []) _
        refine XS.iload X58.here hx rfl (hb hby at_148) rfl ?_
        show SS p e below T58 (mkF m 150 #[vi p0, vi p1, vi p2, vi p3, vi p4, vi w0, vi w1, vi w2, vi vt, vr b1, vr b5, vi (0 : Int32), vi (1 : Int32), vi (1 : Int32)] [(.int (1 : Int32))]) _
        refine XS.ifNo X58.here hx rfl (hb hby at_150) rfl ((if0 _ _).trans (feq (by decide : ¬ ((1 : Int32) = (0 : Int32)))).1) ?_
        show SS p e below T58 (mkF m 153 #[vi p0, vi p1, vi p2, vi p3, vi p4, vi w0, vi w1, vi w2, vi vt, vr b1, vr b5, vi (0 : Int32), vi (1 : Int32), vi (1 : Int32)] []) _
        refine XS.iconst X58.here hx rfl (hb hby at_153) ?_
        show SS p e below T58 (mkF m 154 #[vi p0, vi p1, vi p2, vi p3, vi p4, vi w0, vi w1, vi w2, vi vt, vr b1, vr b5, vi (0 : Int32), vi (1 : Int32), vi (1 : Int32)] [(.int (1 : Int32))]) _
        refine XS.goto X58.here hx rfl (pc0 := 154) (pc' := 158) rfl (hb hby at_154) (by decide) (by decide) ?_
        show SS p e below T58 (mkF m 158 #[vi p0, vi p1, vi p2, vi p3, vi p4, vi w0, vi w1, vi w2, vi vt, vr b1, vr b5, vi (0 : Int32), vi (1 : Int32), vi (1 : Int32)] [(.int (1 : Int32))]) _
        exact retN X58 hx (t := .boolean) Bd.returns (by simp) (hb hby at_158) hr
      · show Q_rm0 Z p0 p1 p2 p3 p4 w0 w1 w2 vt (0 : Int32) h0 n0 _ T58.heap _
        rw [eh58]
        exact ⟨rfl, N58⟩
    · obtain ⟨cq59, kq59, q59a, q59b, q59c⟩ := isOf hZ eh55 f6_0
      obtain ⟨_, _, ⟨T59, L59, k59, n59⟩, -, X59, ⟨Lc59, hQ59, l59, y59, z59⟩, st59⟩ := X55.virtualBack hx (y := (⟨"org/quarrel/model/Distribution", "probability", "(I)D"⟩ : MethodName)) (z := (⟨"org/quarrel/model/Distribution", "probability", "(I)D"⟩ : MethodName)) hown (mvT hZ (wd hw 35 rfl)) (mvT hZ (wd hw 36 rfl)) (notFace_of_selects (args := #[]) (mvT hZ (wd hw 38 rfl))) (mvT hZ (wd hw 38 rfl)) (mvT hZ (wd hw 37 rfl)) (by decide) (backOf (W := 0) (rmP1 l Z a0 hw [] b5 nb_6 k1 vt (w0 * vt) (w1 * vt) (w2 * vt) T6.heap n0 Z6 f6_1 f6_2 f6_4 unz) hZ (wd hw 39 rfl) (wd hw 3 rfl) (by decide) (by decide)) q59a q59c (g := (mkF m 118 #[vi p0, vi p1, vi p2, vi p3, vi p4, vi w0, vi w1, vi w2, vi vt, vr b1, vr b5, vi (1 : Int32), vi (1 : Int32), uu] [(.int (1 : Int32)), (.ref b5)])) rfl (by rw [hml]; rfl) (Steps.refl _) (argsL := [(.int (1 : Int32))]) (rest := []) (lenOf pd_4 rfl) rfl (by show 2 * 0 + _ ≤ _; exact Nat.le_of_eq rfl) (hb hby at_118) (fun _ _ => ⟨rfl, eh55, (by decide : 3 + 0 ≤ _), (by decide : 8 + 0 ≤ _)⟩)
      dsimp only [Pt.U, Pt.locs, Pt.cells, Pt.slots] at X59 l59 y59 z59 st59 hQ59
      subst l59 y59 z59
      obtain ⟨rfl, Nq59, eh59⟩ := hQ59
      have N59 := Fr.app N55 Nq59
      obtain ⟨_, _, ⟨T60, L60, k60, n60⟩, -, X60, ⟨Lc60, hQ60, l60, y60, z60⟩, st60⟩ := Jvm.LawKit.callS X59 hx (y := (⟨"org/quarrel/model/DistributionProbabilityPinLaw", "expected", "(IIII)D"⟩ : MethodName)) hown (mvT hZ (wd hw 40 rfl)) (mvT hZ (wd hw 41 rfl)) (mvT hZ (wd hw 42 rfl)) (mvT hZ (wd hw 43 rfl)) (by decide) (backOf (W := 2) (rmE1 l Z a0 hw [] w0 w1 w2 T6.heap n0 Z6) hZ (wd hw 43 rfl) (wd hw 42 rfl) (by decide) (by decide)) (g := (mkF m 129 #[vi p0, vi p1, vi p2, vi p3, vi p4, vi w0, vi w1, vi w2, vi vt, vr b1, vr b5, vi (1 : Int32), vi (1 : Int32), uu] [(.int w2), (.int w1), (.int w0), (.int (1 : Int32)), (.double (FP.ddiv (FP.i2d (w1 * vt)) (FP.i2d vt)))])) rfl (by rw [hml]; rfl) (argsL := [(.int (1 : Int32)), (.int w0), (.int w1), (.int w2)]) (rest := [(.double (FP.ddiv (FP.i2d (w1 * vt)) (FP.i2d vt)))]) (lenOf pd_5 rfl) rfl (by show 2 * 0 + _ ≤ _; exact Nat.le_of_eq rfl) (hb hby at_129) (fun _ _ => ⟨rfl, eh59, (by decide : 3 + 0 ≤ _), (by decide : 8 + 0 ≤ _)⟩)
      dsimp only [Pt.U, Pt.locs, Pt.cells, Pt.slots] at X60 l60 y60 z60 st60 hQ60
      subst l60 y60 z60
      obtain ⟨rfl, Nq60, eh60⟩ := hQ60
      have N60 := Fr.app N59 Nq60
      obtain ⟨fs, hr, hrun, hended, hW, hsame⟩ := X60.leave (v := some (.int (nar .boolean (1 : Int32)))) (fun h => by rw [Bd.returns] at h; cases h)
      refine ⟨_, _, pre0 _ ?_, hrun, hended, _, _, rfl, ?_, ⟨_, rfl⟩, hW, hsame.mono (by decide) (by decide)⟩
      · refine sg9 _ ?_
        refine sg56 _ ?_
        show SS p e below T55 (mkF m 118 #[vi p0, vi p1, vi p2, vi p3, vi p4, vi w0, vi w1, vi w2, vi vt, vr b1, vr b5, vi (1 : Int32), vi (1 : Int32), uu] [(.int (1 : Int32)), (.ref b5)]) _
        refine st59.trans ?_
        show SS p e below T59 (mkF m 121 #[vi p0, vi p1, vi p2, vi p3, vi p4, vi w0, vi w1, vi w2, vi vt, vr b1, vr b5, vi (1 : Int32), vi (1 : Int32), uu] [(.double (FP.ddiv (FP.i2d (w1 * vt)) (FP.i2d vt)))]) _
        refine XS.iload X59.here hx rfl (hb hby at_121) rfl ?_
        show SS p e below T59 (mkF m 123 #[vi p0, vi p1, vi p2, vi p3, vi p4, vi w0, vi w1, vi w2, vi vt, vr b1, vr b5, vi (1 : Int32), vi (1 : Int32), uu] [(.int (1 : Int32)), (.double (FP.ddiv (FP.i2d (w1 * vt)) (FP.i2d vt)))]) _
        refine XS.iload X59.here hx rfl (hb hby at_123) rfl ?_
        show SS p e below T59 (mkF m 125 #[vi p0, vi p1, vi p2, vi p3, vi p4, vi w0, vi w1, vi w2, vi vt, vr b1, vr b5, vi (1 : Int32), vi (1 : Int32), uu] [(.int w0), (.int (1 : Int32)), (.double (FP.ddiv (FP.i2d (w1 * vt)) (FP.i2d vt)))]) _
        refine XS.iload X59.here hx rfl (hb hby at_125) rfl ?_
        show SS p e below T59 (mkF m 127 #[vi p0, vi p1, vi p2, vi p3, vi p4, vi w0, vi w1, vi w2, vi vt, vr b1, vr b5, vi (1 : Int32), vi (1 : Int32), uu] [(.int w1), (.int w0), (.int (1 : Int32)), (.double (FP.ddiv (FP.i2d (w1 * vt)) (FP.i2d vt)))]) _
        refine XS.iload X59.here hx rfl (hb hby at_127) rfl ?_
        show SS p e below T59 (mkF m 129 #[vi p0, vi p1, vi p2, vi p3, vi p4, vi w0, vi w1, vi w2, vi vt, vr b1, vr b5, vi (1 : Int32), vi (1 : Int32), uu] [(.int w2), (.int w1), (.int w0), (.int (1 : Int32)), (.double (FP.ddiv (FP.i2d (w1 * vt)) (FP.i2d vt)))]) _
        refine st60 _ ?_
        show SS p e below T60 (mkF m 132 #[vi p0, vi p1, vi p2, vi p3, vi p4, vi w0, vi w1, vi w2, vi vt, vr b1, vr b5, vi (1 : Int32), vi (1 : Int32), uu] [(.double (FP.i2d w1)), (.double (FP.ddiv (FP.i2d (w1 * vt)) (FP.i2d vt)))]) _
        refine XS.dcmpS X60.here hx rfl (hb hby at_132) rfl (v := (0 : Int32)) (own_eq ud_1) ?_
        show SS p e below T60 (mkF m 133 #[vi p0, vi p1, vi p2, vi p3, vi p4, vi w0, vi w1, vi w2, vi vt, vr b1, vr b5, vi (1 : Int32), vi (1 : Int32), uu] [(.int (0 : Int32))]) _
        refine XS.ifNo X60.here hx rfl (hb hby at_133) rfl ((if0 _ _).trans (teq (rfl : (0 : Int32) = (0 : Int32))).2) ?_
        show SS p e below T60 (mkF m 136 #[vi p0, vi p1, vi p2, vi p3, vi p4, vi w0, vi w1, vi w2, vi vt, vr b1, vr b5, vi (1 : Int32), vi (1 : Int32), uu] []) _
        refine XS.iconst X60.here hx rfl (hb hby at_136) ?_
        show SS p e below T60 (mkF m 137 #[vi p0, vi p1, vi p2, vi p3, vi p4, vi w0, vi w1, vi w2, vi vt, vr b1, vr b5, vi (1 : Int32), vi (1 : Int32), uu] [(.int (1 : Int32))]) _
        refine XS.goto X60.here hx rfl (pc0 := 137) (pc' := 141) rfl (hb hby at_137) (by decide) (by decide) ?_
        show SS p e below T60 (mkF m 141 #[vi p0, vi p1, vi p2, vi p3, vi p4, vi w0, vi w1, vi w2, vi vt, vr b1, vr b5, vi (1 : Int32), vi (1 : Int32), uu] [(.int (1 : Int32))]) _
        refine XS.istore X60.here hx rfl (hb hby at_141) rfl (l' := #[vi p0, vi p1, vi p2, vi p3, vi p4, vi w0, vi w1, vi w2, vi vt, vr b1, vr b5, vi (1 : Int32), vi (1 : Int32), vi (1 : Int32)]) rfl ?_
        show SS p e below T60 (mkF m 143 #[vi p0, vi p1, vi p2, vi p3, vi p4, vi w0, vi w1, vi w2, vi vt, vr b1, vr b5, vi (1 : Int32), vi (1 : Int32), vi (1 : Int32)] []) _
        refine XS.iload X60.here hx rfl (hb hby at_143) rfl ?_
        show SS p e below T60 (mkF m 145 #[vi p0, vi p1, vi p2, vi p3, vi p4, vi w0, vi w1, vi w2, vi vt, vr b1, vr b5, vi (1 : Int32), vi (1 : Int32), vi (1 : Int32)] [(.int (1 : Int32))]) _
        refine XS.ifNo X60.here hx rfl (hb hby at_145) rfl ((if0 _ _).trans (feq (by decide : ¬ ((1 : Int32) = (0 : Int32)))).1) ?_
        show SS p e below T60 (mkF m 148 #[vi p0, vi p1, vi p2, vi p3, vi p4, vi w0, vi w1, vi w2, vi vt, vr b1, vr b5, vi (1 : Int32), vi (1 : Int32), vi (1 : Int32)] []) _
        refine XS.iload X60.here hx rfl (hb hby at_148) rfl ?_
        show SS p e below T60 (mkF m 150 #[vi p0, vi p1, vi p2, vi p3, vi p4, vi w0, vi w1, vi w2, vi vt, vr b1, vr b5, vi (1 : Int32), vi (1 : Int32), vi (1 : Int32)] [(.int (1 : Int32))]) _
        refine XS.ifNo X60.here hx rfl (hb hby at_150) rfl ((if0 _ _).trans (feq (by decide : ¬ ((1 : Int32) = (0 : Int32)))).1) ?_
        show SS p e below T60 (mkF m 153 #[vi p0, vi p1, vi p2, vi p3, vi p4, vi w0, vi w1, vi w2, vi vt, vr b1, vr b5, vi (1 : Int32), vi (1 : Int32), vi (1 : Int32)] []) _
        refine XS.iconst X60.here hx rfl (hb hby at_153) ?_
        show SS p e below T60 (mkF m 154 #[vi p0, vi p1, vi p2, vi p3, vi p4, vi w0, vi w1, vi w2, vi vt, vr b1, vr b5, vi (1 : Int32), vi (1 : Int32), vi (1 : Int32)] [(.int (1 : Int32))]) _
        refine XS.goto X60.here hx rfl (pc0 := 154) (pc' := 158) rfl (hb hby at_154) (by decide) (by decide) ?_
        show SS p e below T60 (mkF m 158 #[vi p0, vi p1, vi p2, vi p3, vi p4, vi w0, vi w1, vi w2, vi vt, vr b1, vr b5, vi (1 : Int32), vi (1 : Int32), vi (1 : Int32)] [(.int (1 : Int32))]) _
        exact retN X60 hx (t := .boolean) Bd.returns (by simp) (hb hby at_158) hr
      · show Q_rm0 Z p0 p1 p2 p3 p4 w0 w1 w2 vt (1 : Int32) h0 n0 _ T60.heap _
        rw [eh60]
        exact ⟨rfl, N60⟩
    · obtain ⟨cq61, kq61, q61a, q61b, q61c⟩ := isOf hZ eh55 f6_0
      obtain ⟨_, _, ⟨T61, L61, k61, n61⟩, -, X61, ⟨Lc61, hQ61, l61, y61, z61⟩, st61⟩ := X55.virtualBack hx (y := (⟨"org/quarrel/model/Distribution", "probability", "(I)D"⟩ : MethodName)) (z := (⟨"org/quarrel/model/Distribution", "probability", "(I)D"⟩ : MethodName)) hown (mvT hZ (wd hw 35 rfl)) (mvT hZ (wd hw 36 rfl)) (notFace_of_selects (args := #[]) (mvT hZ (wd hw 38 rfl))) (mvT hZ (wd hw 38 rfl)) (mvT hZ (wd hw 37 rfl)) (by decide) (backOf (W := 0) (rmP2 l Z a0 hw [] b5 nb_6 k1 vt (w0 * vt) (w1 * vt) (w2 * vt) T6.heap n0 Z6 f6_1 f6_2 f6_4 unz) hZ (wd hw 39 rfl) (wd hw 3 rfl) (by decide) (by decide)) q61a q61c (g := (mkF m 118 #[vi p0, vi p1, vi p2, vi p3, vi p4, vi w0, vi w1, vi w2, vi vt, vr b1, vr b5, vi (2 : Int32), vi (1 : Int32), uu] [(.int (2 : Int32)), (.ref b5)])) rfl (by rw [hml]; rfl) (Steps.refl _) (argsL := [(.int (2 : Int32))]) (rest := []) (lenOf pd_4 rfl) rfl (by show 2 * 0 + _ ≤ _; exact Nat.le_of_eq rfl) (hb hby at_118) (fun _ _ => ⟨rfl, eh55, (by decide : 3 + 0 ≤ _), (by decide : 8 + 0 ≤ _)⟩)
      dsimp only [Pt.U, Pt.locs, Pt.cells, Pt.slots] at X61 l61 y61 z61 st61 hQ61
      subst l61 y61 z61
      obtain ⟨rfl, Nq61, eh61⟩ := hQ61
      have N61 := Fr.app N55 Nq61
      obtain ⟨_, _, ⟨T62, L62, k62, n62⟩, -, X62, ⟨Lc62, hQ62, l62, y62, z62⟩, st62⟩ := Jvm.LawKit.callS X61 hx (y := (⟨"org/quarrel/model/DistributionProbabilityPinLaw", "expected", "(IIII)D"⟩ : MethodName)) hown (mvT hZ (wd hw 40 rfl)) (mvT hZ (wd hw 41 rfl)) (mvT hZ (wd hw 42 rfl)) (mvT hZ (wd hw 43 rfl)) (by decide) (backOf (W := 2) (rmE2 l Z a0 hw [] w0 w1 w2 T6.heap n0 Z6) hZ (wd hw 43 rfl) (wd hw 42 rfl) (by decide) (by decide)) (g := (mkF m 129 #[vi p0, vi p1, vi p2, vi p3, vi p4, vi w0, vi w1, vi w2, vi vt, vr b1, vr b5, vi (2 : Int32), vi (1 : Int32), uu] [(.int w2), (.int w1), (.int w0), (.int (2 : Int32)), (.double (FP.ddiv (FP.i2d (w2 * vt)) (FP.i2d vt)))])) rfl (by rw [hml]; rfl) (argsL := [(.int (2 : Int32)), (.int w0), (.int w1), (.int w2)]) (rest := [(.double (FP.ddiv (FP.i2d (w2 * vt)) (FP.i2d vt)))]) (lenOf pd_5 rfl) rfl (by show 2 * 0 + _ ≤ _; exact Nat.le_of_eq rfl) (hb hby at_129) (fun _ _ => ⟨rfl, eh61, (by decide : 3 + 0 ≤ _), (by decide : 8 + 0 ≤ _)⟩)
      dsimp only [Pt.U, Pt.locs, Pt.cells, Pt.slots] at X62 l62 y62 z62 st62 hQ62
      subst l62 y62 z62
      obtain ⟨rfl, Nq62, eh62⟩ := hQ62
      have N62 := Fr.app N61 Nq62
      obtain ⟨fs, hr, hrun, hended, hW, hsame⟩ := X62.leave (v := some (.int (nar .boolean (1 : Int32)))) (fun h => by rw [Bd.returns] at h; cases h)
      refine ⟨_, _, pre0 _ ?_, hrun, hended, _, _, rfl, ?_, ⟨_, rfl⟩, hW, hsame.mono (by decide) (by decide)⟩
      · refine sg9 _ ?_
        refine sg56 _ ?_
        show SS p e below T55 (mkF m 118 #[vi p0, vi p1, vi p2, vi p3, vi p4, vi w0, vi w1, vi w2, vi vt, vr b1, vr b5, vi (2 : Int32), vi (1 : Int32), uu] [(.int (2 : Int32)), (.ref b5)]) _
        refine st61.trans ?_
        show SS p e below T61 (mkF m 121 #[vi p0, vi p1, vi p2, vi p3, vi p4, vi w0, vi w1, vi w2, vi vt, vr b1, vr b5, vi (2 : Int32), vi (1 : Int32), uu] [(.double (FP.ddiv (FP.i2d (w2 * vt)) (FP.i2d vt)))]) _
        refine XS.iload X61.here hx rfl (hb hby at_121) rfl ?_
        show SS p e below T61 (mkF m 123 #[vi p0, vi p1, vi p2, vi p3, vi p4, vi w0, vi w1, vi w2, vi vt, vr b1, vr b5, vi (2 : Int32), vi (1 : Int32), uu] [(.int (2 : Int32)), (.double (FP.ddiv (FP.i2d (w2 * vt)) (FP.i2d vt)))]) _
        refine XS.iload X61.here hx rfl (hb hby at_123) rfl ?_
        show SS p e below T61 (mkF m 125 #[vi p0, vi p1, vi p2, vi p3, vi p4, vi w0, vi w1, vi w2, vi vt, vr b1, vr b5, vi (2 : Int32), vi (1 : Int32), uu] [(.int w0), (.int (2 : Int32)), (.double (FP.ddiv (FP.i2d (w2 * vt)) (FP.i2d vt)))]) _
        refine XS.iload X61.here hx rfl (hb hby at_125) rfl ?_
        show SS p e below T61 (mkF m 127 #[vi p0, vi p1, vi p2, vi p3, vi p4, vi w0, vi w1, vi w2, vi vt, vr b1, vr b5, vi (2 : Int32), vi (1 : Int32), uu] [(.int w1), (.int w0), (.int (2 : Int32)), (.double (FP.ddiv (FP.i2d (w2 * vt)) (FP.i2d vt)))]) _
        refine XS.iload X61.here hx rfl (hb hby at_127) rfl ?_
        show SS p e below T61 (mkF m 129 #[vi p0, vi p1, vi p2, vi p3, vi p4, vi w0, vi w1, vi w2, vi vt, vr b1, vr b5, vi (2 : Int32), vi (1 : Int32), uu] [(.int w2), (.int w1), (.int w0), (.int (2 : Int32)), (.double (FP.ddiv (FP.i2d (w2 * vt)) (FP.i2d vt)))]) _
        refine st62 _ ?_
        show SS p e below T62 (mkF m 132 #[vi p0, vi p1, vi p2, vi p3, vi p4, vi w0, vi w1, vi w2, vi vt, vr b1, vr b5, vi (2 : Int32), vi (1 : Int32), uu] [(.double (FP.i2d w2)), (.double (FP.ddiv (FP.i2d (w2 * vt)) (FP.i2d vt)))]) _
        refine XS.dcmpS X62.here hx rfl (hb hby at_132) rfl (v := (0 : Int32)) (own_eq ud_2) ?_
        show SS p e below T62 (mkF m 133 #[vi p0, vi p1, vi p2, vi p3, vi p4, vi w0, vi w1, vi w2, vi vt, vr b1, vr b5, vi (2 : Int32), vi (1 : Int32), uu] [(.int (0 : Int32))]) _
        refine XS.ifNo X62.here hx rfl (hb hby at_133) rfl ((if0 _ _).trans (teq (rfl : (0 : Int32) = (0 : Int32))).2) ?_
        show SS p e below T62 (mkF m 136 #[vi p0, vi p1, vi p2, vi p3, vi p4, vi w0, vi w1, vi w2, vi vt, vr b1, vr b5, vi (2 : Int32), vi (1 : Int32), uu] []) _
        refine XS.iconst X62.here hx rfl (hb hby at_136) ?_
        show SS p e below T62 (mkF m 137 #[vi p0, vi p1, vi p2, vi p3, vi p4, vi w0, vi w1, vi w2, vi vt, vr b1, vr b5, vi (2 : Int32), vi (1 : Int32), uu] [(.int (1 : Int32))]) _
        refine XS.goto X62.here hx rfl (pc0 := 137) (pc' := 141) rfl (hb hby at_137) (by decide) (by decide) ?_
        show SS p e below T62 (mkF m 141 #[vi p0, vi p1, vi p2, vi p3, vi p4, vi w0, vi w1, vi w2, vi vt, vr b1, vr b5, vi (2 : Int32), vi (1 : Int32), uu] [(.int (1 : Int32))]) _
        refine XS.istore X62.here hx rfl (hb hby at_141) rfl (l' := #[vi p0, vi p1, vi p2, vi p3, vi p4, vi w0, vi w1, vi w2, vi vt, vr b1, vr b5, vi (2 : Int32), vi (1 : Int32), vi (1 : Int32)]) rfl ?_
        show SS p e below T62 (mkF m 143 #[vi p0, vi p1, vi p2, vi p3, vi p4, vi w0, vi w1, vi w2, vi vt, vr b1, vr b5, vi (2 : Int32), vi (1 : Int32), vi (1 : Int32)] []) _
        refine XS.iload X62.here hx rfl (hb hby at_143) rfl ?_
        show SS p e below T62 (mkF m 145 #[vi p0, vi p1, vi p2, vi p3, vi p4, vi w0, vi w1, vi w2, vi vt, vr b1, vr b5, vi (2 : Int32), vi (1 : Int32), vi (1 : Int32)] [(.int (1 : Int32))]) _
        refine XS.ifNo X62.here hx rfl (hb hby at_145) rfl ((if0 _ _).trans (feq (by decide : ¬ ((1 : Int32) = (0 : Int32)))).1) ?_
        show SS p e below T62 (mkF m 148 #[vi p0, vi p1, vi p2, vi p3, vi p4, vi w0, vi w1, vi w2, vi vt, vr b1, vr b5, vi (2 : Int32), vi (1 : Int32), vi (1 : Int32)] []) _
        refine XS.iload X62.here hx rfl (hb hby at_148) rfl ?_
        show SS p e below T62 (mkF m 150 #[vi p0, vi p1, vi p2, vi p3, vi p4, vi w0, vi w1, vi w2, vi vt, vr b1, vr b5, vi (2 : Int32), vi (1 : Int32), vi (1 : Int32)] [(.int (1 : Int32))]) _
        refine XS.ifNo X62.here hx rfl (hb hby at_150) rfl ((if0 _ _).trans (feq (by decide : ¬ ((1 : Int32) = (0 : Int32)))).1) ?_
        show SS p e below T62 (mkF m 153 #[vi p0, vi p1, vi p2, vi p3, vi p4, vi w0, vi w1, vi w2, vi vt, vr b1, vr b5, vi (2 : Int32), vi (1 : Int32), vi (1 : Int32)] []) _
        refine XS.iconst X62.here hx rfl (hb hby at_153) ?_
        show SS p e below T62 (mkF m 154 #[vi p0, vi p1, vi p2, vi p3, vi p4, vi w0, vi w1, vi w2, vi vt, vr b1, vr b5, vi (2 : Int32), vi (1 : Int32), vi (1 : Int32)] [(.int (1 : Int32))]) _
        refine XS.goto X62.here hx rfl (pc0 := 154) (pc' := 158) rfl (hb hby at_154) (by decide) (by decide) ?_
        show SS p e below T62 (mkF m 158 #[vi p0, vi p1, vi p2, vi p3, vi p4, vi w0, vi w1, vi w2, vi vt, vr b1, vr b5, vi (2 : Int32), vi (1 : Int32), vi (1 : Int32)] [(.int (1 : Int32))]) _
        exact retN X62 hx (t := .boolean) Bd.returns (by simp) (hb hby at_158) hr
      · show Q_rm0 Z p0 p1 p2 p3 p4 w0 w1 w2 vt (2 : Int32) h0 n0 _ T62.heap _
        rw [eh62]
        exact ⟨rfl, N62⟩
    · obtain ⟨cq63, kq63, q63a, q63b, q63c⟩ := isOf hZ eh55 f6_0
      obtain ⟨_, _, ⟨T63, L63, k63, n63⟩, -, X63, ⟨Lc63, hQ63, l63, y63, z63⟩, st63⟩ := X55.virtualBack hx (y := (⟨"org/quarrel/model/Distribution", "probability", "(I)D"⟩ : MethodName)) (z := (⟨"org/quarrel/model/Distribution", "probability", "(I)D"⟩ : MethodName)) hown (mvT hZ (wd hw 35 rfl)) (mvT hZ (wd hw 36 rfl)) (notFace_of_selects (args := #[]) (mvT hZ (wd hw 38 rfl))) (mvT hZ (wd hw 38 rfl)) (mvT hZ (wd hw 37 rfl)) (by decide) (backOf (W := 0) (rmPh l Z a0 hw [] b5 (3 : Int32) nb_6 k1 vt (w0 * vt) (w1 * vt) (w2 * vt) T6.heap n0 Z6 f6_1 f6_2 f6_4 unz (by decide) (by decide)) hZ (wd hw 39 rfl) (wd hw 3 rfl) (by decide) (by decide)) q63a q63c (g := (mkF m 118 #[vi p0, vi p1, vi p2, vi p3, vi p4, vi w0, vi w1, vi w2, vi vt, vr b1, vr b5, vi (3 : Int32), vi (1 : Int32), uu] [(.int (3 : Int32)), (.ref b5)])) rfl (by rw [hml]; rfl) (Steps.refl _) (argsL := [(.int (3 : Int32))]) (rest := []) (lenOf pd_4 rfl) rfl (by show 2 * 0 + _ ≤ _; exact Nat.le_of_eq rfl) (hb hby at_118) (fun _ _ => ⟨rfl, eh55, (by decide : 3 + 0 ≤ _), (by decide : 8 + 0 ≤ _)⟩)
      dsimp only [Pt.U, Pt.locs, Pt.cells, Pt.slots] at X63 l63 y63 z63 st63 hQ63
      subst l63 y63 z63
      obtain ⟨rfl, Nq63, eh63⟩ := hQ63
      have N63 := Fr.app N55 Nq63
      obtain ⟨_, _, ⟨T64, L64, k64, n64⟩, -, X64, ⟨Lc64, hQ64, l64, y64, z64⟩, st64⟩ := Jvm.LawKit.callS X63 hx (y := (⟨"org/quarrel/model/DistributionProbabilityPinLaw", "expected", "(IIII)D"⟩ : MethodName)) hown (mvT hZ (wd hw 40 rfl)) (mvT hZ (wd hw 41 rfl)) (mvT hZ (wd hw 42 rfl)) (mvT hZ (wd hw 43 rfl)) (by decide) (backOf (W := 2) (rmEn l Z a0 hw [] (3 : Int32) w0 w1 w2 T6.heap n0 Z6 (by decide) (by decide) (by decide)) hZ (wd hw 43 rfl) (wd hw 42 rfl) (by decide) (by decide)) (g := (mkF m 129 #[vi p0, vi p1, vi p2, vi p3, vi p4, vi w0, vi w1, vi w2, vi vt, vr b1, vr b5, vi (3 : Int32), vi (1 : Int32), uu] [(.int w2), (.int w1), (.int w0), (.int (3 : Int32)), (.double (0 : UInt64))])) rfl (by rw [hml]; rfl) (argsL := [(.int (3 : Int32)), (.int w0), (.int w1), (.int w2)]) (rest := [(.double (0 : UInt64))]) (lenOf pd_5 rfl) rfl (by show 2 * 0 + _ ≤ _; exact Nat.le_of_eq rfl) (hb hby at_129) (fun _ _ => ⟨rfl, eh63, (by decide : 3 + 0 ≤ _), (by decide : 8 + 0 ≤ _)⟩)
      dsimp only [Pt.U, Pt.locs, Pt.cells, Pt.slots] at X64 l64 y64 z64 st64 hQ64
      subst l64 y64 z64
      obtain ⟨rfl, Nq64, eh64⟩ := hQ64
      have N64 := Fr.app N63 Nq64
      obtain ⟨fs, hr, hrun, hended, hW, hsame⟩ := X64.leave (v := some (.int (nar .boolean (1 : Int32)))) (fun h => by rw [Bd.returns] at h; cases h)
      refine ⟨_, _, pre0 _ ?_, hrun, hended, _, _, rfl, ?_, ⟨_, rfl⟩, hW, hsame.mono (by decide) (by decide)⟩
      · refine sg9 _ ?_
        refine sg56 _ ?_
        show SS p e below T55 (mkF m 118 #[vi p0, vi p1, vi p2, vi p3, vi p4, vi w0, vi w1, vi w2, vi vt, vr b1, vr b5, vi (3 : Int32), vi (1 : Int32), uu] [(.int (3 : Int32)), (.ref b5)]) _
        refine st63.trans ?_
        show SS p e below T63 (mkF m 121 #[vi p0, vi p1, vi p2, vi p3, vi p4, vi w0, vi w1, vi w2, vi vt, vr b1, vr b5, vi (3 : Int32), vi (1 : Int32), uu] [(.double (0 : UInt64))]) _
        refine XS.iload X63.here hx rfl (hb hby at_121) rfl ?_
        show SS p e below T63 (mkF m 123 #[vi p0, vi p1, vi p2, vi p3, vi p4, vi w0, vi w1, vi w2, vi vt, vr b1, vr b5, vi (3 : Int32), vi (1 : Int32), uu] [(.int (3 : Int32)), (.double (0 : UInt64))]) _
        refine XS.iload X63.here hx rfl (hb hby at_123) rfl ?_
        show SS p e below T63 (mkF m 125 #[vi p0, vi p1, vi p2, vi p3, vi p4, vi w0, vi w1, vi w2, vi vt, vr b1, vr b5, vi (3 : Int32), vi (1 : Int32), uu] [(.int w0), (.int (3 : Int32)), (.double (0 : UInt64))]) _
        refine XS.iload X63.here hx rfl (hb hby at_125) rfl ?_
        show SS p e below T63 (mkF m 127 #[vi p0, vi p1, vi p2, vi p3, vi p4, vi w0, vi w1, vi w2, vi vt, vr b1, vr b5, vi (3 : Int32), vi (1 : Int32), uu] [(.int w1), (.int w0), (.int (3 : Int32)), (.double (0 : UInt64))]) _
        refine XS.iload X63.here hx rfl (hb hby at_127) rfl ?_
        show SS p e below T63 (mkF m 129 #[vi p0, vi p1, vi p2, vi p3, vi p4, vi w0, vi w1, vi w2, vi vt, vr b1, vr b5, vi (3 : Int32), vi (1 : Int32), uu] [(.int w2), (.int w1), (.int w0), (.int (3 : Int32)), (.double (0 : UInt64))]) _
        refine st64 _ ?_
        show SS p e below T64 (mkF m 132 #[vi p0, vi p1, vi p2, vi p3, vi p4, vi w0, vi w1, vi w2, vi vt, vr b1, vr b5, vi (3 : Int32), vi (1 : Int32), uu] [(.double (0 : UInt64)), (.double (0 : UInt64))]) _
        refine XS.dcmpS X64.here hx rfl (hb hby at_132) rfl (v := (0 : Int32)) own_eq0 ?_
        show SS p e below T64 (mkF m 133 #[vi p0, vi p1, vi p2, vi p3, vi p4, vi w0, vi w1, vi w2, vi vt, vr b1, vr b5, vi (3 : Int32), vi (1 : Int32), uu] [(.int (0 : Int32))]) _
        refine XS.ifNo X64.here hx rfl (hb hby at_133) rfl ((if0 _ _).trans (teq (rfl : (0 : Int32) = (0 : Int32))).2) ?_
        show SS p e below T64 (mkF m 136 #[vi p0, vi p1, vi p2, vi p3, vi p4, vi w0, vi w1, vi w2, vi vt, vr b1, vr b5, vi (3 : Int32), vi (1 : Int32), uu] []) _
        refine XS.iconst X64.here hx rfl (hb hby at_136) ?_
        show SS p e below T64 (mkF m 137 #[vi p0, vi p1, vi p2, vi p3, vi p4, vi w0, vi w1, vi w2, vi vt, vr b1, vr b5, vi (3 : Int32), vi (1 : Int32), uu] [(.int (1 : Int32))]) _
        refine XS.goto X64.here hx rfl (pc0 := 137) (pc' := 141) rfl (hb hby at_137) (by decide) (by decide) ?_
        show SS p e below T64 (mkF m 141 #[vi p0, vi p1, vi p2, vi p3, vi p4, vi w0, vi w1, vi w2, vi vt, vr b1, vr b5, vi (3 : Int32), vi (1 : Int32), uu] [(.int (1 : Int32))]) _
        refine XS.istore X64.here hx rfl (hb hby at_141) rfl (l' := #[vi p0, vi p1, vi p2, vi p3, vi p4, vi w0, vi w1, vi w2, vi vt, vr b1, vr b5, vi (3 : Int32), vi (1 : Int32), vi (1 : Int32)]) rfl ?_
        show SS p e below T64 (mkF m 143 #[vi p0, vi p1, vi p2, vi p3, vi p4, vi w0, vi w1, vi w2, vi vt, vr b1, vr b5, vi (3 : Int32), vi (1 : Int32), vi (1 : Int32)] []) _
        refine XS.iload X64.here hx rfl (hb hby at_143) rfl ?_
        show SS p e below T64 (mkF m 145 #[vi p0, vi p1, vi p2, vi p3, vi p4, vi w0, vi w1, vi w2, vi vt, vr b1, vr b5, vi (3 : Int32), vi (1 : Int32), vi (1 : Int32)] [(.int (1 : Int32))]) _
        refine XS.ifNo X64.here hx rfl (hb hby at_145) rfl ((if0 _ _).trans (feq (by decide : ¬ ((1 : Int32) = (0 : Int32)))).1) ?_
        show SS p e below T64 (mkF m 148 #[vi p0, vi p1, vi p2, vi p3, vi p4, vi w0, vi w1, vi w2, vi vt, vr b1, vr b5, vi (3 : Int32), vi (1 : Int32), vi (1 : Int32)] []) _
        refine XS.iload X64.here hx rfl (hb hby at_148) rfl ?_
        show SS p e below T64 (mkF m 150 #[vi p0, vi p1, vi p2, vi p3, vi p4, vi w0, vi w1, vi w2, vi vt, vr b1, vr b5, vi (3 : Int32), vi (1 : Int32), vi (1 : Int32)] [(.int (1 : Int32))]) _
        refine XS.ifNo X64.here hx rfl (hb hby at_150) rfl ((if0 _ _).trans (feq (by decide : ¬ ((1 : Int32) = (0 : Int32)))).1) ?_
        show SS p e below T64 (mkF m 153 #[vi p0, vi p1, vi p2, vi p3, vi p4, vi w0, vi w1, vi w2, vi vt, vr b1, vr b5, vi (3 : Int32), vi (1 : Int32), vi (1 : Int32)] []) _
        refine XS.iconst X64.here hx rfl (hb hby at_153) ?_
        show SS p e below T64 (mkF m 154 #[vi p0, vi p1, vi p2, vi p3, vi p4, vi w0, vi w1, vi w2, vi vt, vr b1, vr b5, vi (3 : Int32), vi (1 : Int32), vi (1 : Int32)] [(.int (1 : Int32))]) _
        refine XS.goto X64.here hx rfl (pc0 := 154) (pc' := 158) rfl (hb hby at_154) (by decide) (by decide) ?_
        show SS p e below T64 (mkF m 158 #[vi p0, vi p1, vi p2, vi p3, vi p4, vi w0, vi w1, vi w2, vi vt, vr b1, vr b5, vi (3 : Int32), vi (1 : Int32), vi (1 : Int32)] [(.int (1 : Int32))]) _
        exact retN X64 hx (t := .boolean) Bd.returns (by simp) (hb hby at_158) hr
      · show Q_rm0 Z p0 p1 p2 p3 p4 w0 w1 w2 vt (3 : Int32) h0 n0 _ T64.heap _
        rw [eh64]
        exact ⟨rfl, N64⟩
set_option maxRecDepth 65536 in
set_option maxHeartbeats 40000000 in
theorem comes_1 {Post : Tables → Env → Array Value → State → Outcome → State → Prop} (hpost : ∀ tb e args s v u, (limb_1_1.after args s (.returned v) u = true ∧ limb_1_2.after args s (.returned v) u = true ∧ True) → FrameEnd s (.returned v) u (Jvm.fieldLocs frame_1_writes args s ++ Jvm.arrayLocs frame_1_arrays args s ++ Jvm.staticLocs frame_1_statics s) 16 128 → Post tb e args s (.returned v) u) :
    ArmFor flags0 classFile x code maxLocals ret World_1 tables_1 room_1 Calls_1 rest_1 Pre_1 Post := by
  intro l hfl _ _ p e ha hc hk s m args below hf hA hF happ hP
  obtain ⟨hcalls, hrest, hpre⟩ := hP
  obtain ⟨-, -, -, hnamed, -, -, -, hat⟩ := (Spec.applies_iff hf).mp happ
  obtain ⟨hg, hn⟩ := and_e (Cond.before_iff.mp (show (Jvm.Cond.and given_1 narrow_1).before args s = true from hpre))
  obtain ⟨g1, g2⟩ := and_e hg
  obtain ⟨g3, g4⟩ := and_e g2
  obtain ⟨g5, g6⟩ := and_e g4
  obtain ⟨g7, g8⟩ := and_e g6
  obtain ⟨g9, g10⟩ := and_e g8
  obtain ⟨w0, w1, w2, w3, w4, rfl⟩ : ∃ w0 w1 w2 w3 w4 : Value, args = #[w0, w1, w2, w3, w4] := by
    have hs : args.size = 5 := by simpa [Cond.value, given_1] using g1
    obtain ⟨L⟩ := args
    match L, hs with
    | [w0, w1, w2, w3, w4], _ => exact ⟨w0, w1, w2, w3, w4, rfl⟩
  have hw := fun d (hd : d ∈ tables_1) => atoms_spec (ws := Jvm.Cond.code x code maxLocals ret :: tables_1) hat d (List.mem_cons_of_mem _ hd)
  have hfit : Fit s := fun {y c} hc i hi => by
    obtain ⟨ha, rfl⟩ := Array.getElem?_eq_some_iff.mp hc
    have q := List.all_eq_true.mp ((Array.all_eq_true_iff_forall_mem.mp hF) _ (Array.getElem_mem ha)) i (List.mem_range.mpr hi)
    simpa [Array.getElem?_eq_getElem hi] using q
  obtain ⟨i0, ei0⟩ := is_v g3
  obtain rfl : w0 = (.int i0) := Option.some.inj ei0
  obtain ⟨i1, ei1⟩ := is_v g5
  obtain rfl : w1 = (.int i1) := Option.some.inj ei1
  obtain ⟨i2, ei2⟩ := is_v g7
  obtain rfl : w2 = (.int i2) := Option.some.inj ei2
  obtain ⟨i3, ei3⟩ := is_v g9
  obtain rfl : w3 = (.int i3) := Option.some.inj ei3
  obtain ⟨i4, ei4⟩ := is_v g10
  obtain rfl : w4 = (.int i4) := Option.some.inj ei4
  have t1 := own_tot i3
  obtain ⟨n, o, h1, h2, h3, _, L, rfl, ⟨rfl, N⟩, hq⟩ := rm0 l s _ hw tables_1 i0 i1 i2 i3 i4 _ _ _ _ _ s.heap s.heap.size (Nat.le_refl _) rfl rfl rfl rfl t1.1 rfl (own_pos i0 i3) (own_pos i1 i3) (own_pos i2 i3) (own_div i0 i3) (own_div i1 i3) (own_div i2 i3) (own_near i4) (own_five i4) p e ha hc hk s m _ below hf ((Spec.applies_iff_loose hf).mp happ).1 ⟨rfl, State.Warmed39.refl s, rfl⟩ trivial
  refine ⟨n, _, h1, h2, h3, hpost _ _ _ _ _ _ ⟨Cond.after_iff.mpr rfl, Cond.after_iff.mpr (eq_i res_at (Term.int_eval (1)) rfl), trivial⟩ ⟨hq.1, hq.2.1, (hq.2.2.sift fun y hy => Or.inr (N y hy)).mono (by decide) (by decide)⟩⟩
theorem main_1_1 : Claimed_1_1 := comes_1 fun _ _ _ _ _ _ h hF => ⟨h.1, hF⟩
theorem main_1_2 : Claimed_1_2 := comes_1 fun _ _ _ _ _ _ h hF => ⟨h.2.1, hF⟩
end Jvm.Pilot.@@N@@
namespace Jvm.Pilot.@@N@@
open Jvm Jvm.ClassFile Sem Op Lib Jvm.Free Jvm.Stand Jvm.Pilot.@@N@@.Jvm.D
/-! MADE BY PROGRAM (witnessworld.py) out of the Statement's table words and the real class files: 17 classes; the members and pool entries that the words name. The judged class is class 1, her method 1. -/
namespace start1
open Jvm.ClassFile
def u (s : String) : CpInfo := .utf8 (stringToUtf16 s)
/-- a pool by its gaps: so many unusable entries, then the entry; so many at the end -/
def gap : Nat → List CpInfo → List CpInfo
  | 0, r => r
  | n + 1, r => .unusable :: gap n r
def poolList (es : List (Nat × CpInfo)) (last : Nat) : List CpInfo := es.foldr (fun e r => gap e.1 (e.2 :: r)) (gap last [])
def pool (es : List (Nat × CpInfo)) (last : Nat) : Array CpInfo := ⟨poolList es last⟩
def fileOf (pool : Array CpInfo) (this : Nat) (attrs : Array Attribute := #[]) (ms : Array MethodInfo := #[]) (fl : Nat := 33) (sup : Nat := 0) (ifs : Array Nat := #[]) (fds : Array FieldInfo := #[]) : ClassFile where
  minorVersion := 0
  majorVersion := 65
  constantPool := pool
  accessFlags := fl
  thisClass := this
  superClass := sup
  interfaces := ifs
  fields := fds
  methods := ms
  attributes := attrs
def plain (name : String) (sup : Option ClassId) : Class where
  name := name
  kind := .ordinary
  loader := none
  accessFlags := 33
  super := sup
  interfaces := #[]
  cf := none
  fields := #[]
  methods := #[]
  instanceTypes := #[]
  staticTypes := #[]
  resolved := #[]
  callSites := []
  init := .initialized
  statics := none
  mirror := none

def pool0 : Array CpInfo := pool [(5, u "<init>"), (0, u "()V"), (1, .class_ 10), (1, u "java/lang/Object"), (85, u "clone"), (0, u "()Ljava/lang/Object;")] 26

def k0c0 : Code := { maxStack := 0, maxLocals := 1, code := object_method_1_code, exceptionTable := #[], attributes := #[] }
def k0m0 : Method := { name := "<init>", desc := "()V", sig := { parameters := [], returnType := none }, accessFlags := 1, code := some k0c0 }
def k0m1 : Method := { name := "clone", desc := "()Ljava/lang/Object;", sig := { parameters := [], returnType := some (.object "java/lang/Object") }, accessFlags := 260, code := none }
/-- java/lang/Object -/
def k0 : Class := { plain "java/lang/Object" none with
  accessFlags := 33
  interfaces := #[]
  cf := some (fileOf pool0 8 #[] #[{ accessFlags := 1, nameIndex := 5, descriptorIndex := 6, attributes := #[] }, { accessFlags := 260, nameIndex := 96, descriptorIndex := 97, attributes := #[] }] 33 0 #[] #[])
  fields := #[]
  methods := #[k0m0, k0m1]
  instanceTypes := #[]
  staticTypes := #[]
  resolved := Array.replicate 124 none
  statics := none }

def pool1 : Array CpInfo := pool [(2, .class_ 4), (1, u "java/lang/Object"), (0, u "<init>"), (0, u "()V"), (0, .class_ 8), (0, u "org/quarrel/model/Distribution"), (0, .methodref 7 10), (0, .nameAndType 5 11), (0, u "([DD)V"), (0, .methodref 7 13), (0, .nameAndType 14 15), (0, u "probability"), (0, u "(I)D"), (0, .methodref 17 18), (0, .class_ 19), (0, .nameAndType 20 21), (0, u "org/quarrel/model/DistributionProbabilityPinLaw"), (0, u "expected"), (0, u "(IIII)D"), (2, u "law"), (0, u "(IIIII)Z")] 5

def k1m0 : Method := { name := "<init>", desc := "()V", sig := { parameters := [], returnType := none }, accessFlags := 1, code := none }
def k1c1 : Code := { maxStack := 6, maxLocals := 14, code := code, exceptionTable := #[], attributes := #[] }
def k1m1 : Method := { name := "law", desc := "(IIIII)Z", sig := { parameters := [.int, .int, .int, .int, .int], returnType := some .boolean }, accessFlags := 9, code := some k1c1 }
def k1c2 : Code := { maxStack := 2, maxLocals := 4, code := method_3_code, exceptionTable := #[], attributes := #[] }
def k1m2 : Method := { name := "expected", desc := "(IIII)D", sig := { parameters := [.int, .int, .int, .int], returnType := some .double }, accessFlags := 10, code := some k1c2 }
/-- org/quarrel/model/DistributionProbabilityPinLaw -/
def k1 : Class := { plain "org/quarrel/model/DistributionProbabilityPinLaw" (some 0) with
  accessFlags := 49
  interfaces := #[]
  cf := some (fileOf pool1 17 #[] #[{ accessFlags := 1, nameIndex := 5, descriptorIndex := 6, attributes := #[] }, { accessFlags := 9, nameIndex := 24, descriptorIndex := 25, attributes := #[] }, { accessFlags := 10, nameIndex := 20, descriptorIndex := 21, attributes := #[] }] 49 2 #[] #[])
  fields := #[]
  methods := #[k1m0, k1m1, k1m2]
  instanceTypes := #[]
  staticTypes := #[]
  resolved := Array.replicate 31 none
  statics := none }

def pool2 : Array CpInfo := pool [(2, .class_ 4), (1, u "org/quarrel/model/Distribution"), (0, u "<init>"), (0, u "([DD)V"), (0, .methodref 8 9), (0, .class_ 10), (0, .nameAndType 5 11), (0, u "java/lang/Object"), (0, u "()V"), (0, .methodref 2 13), (0, .nameAndType 14 15), (0, u "requireProbability"), (0, u "(D)V"), (0, .methodref 17 18), (0, .class_ 19), (0, .nameAndType 20 21), (0, u "[D"), (0, u "clone"), (0, u "()Ljava/lang/Object;"), (0, .fieldref 2 23), (0, .nameAndType 24 19), (0, u "weights"), (0, .fieldref 2 26), (0, .nameAndType 27 28), (0, u "total"), (0, u "D"), (22, .methodref 52 53), (0, .class_ 54), (0, .nameAndType 55 56), (0, u "java/lang/Double"), (0, u "isFinite"), (0, u "(D)Z"), (58, u "probability"), (0, u "(I)D"), (0, u "MOST_TRIALS"), (0, u "J")] 51

def k2c0 : Code := { maxStack := 3, maxLocals := 9, code := prog_15_method_2_code, exceptionTable := #[], attributes := #[] }
def k2m0 : Method := { name := "<init>", desc := "([DD)V", sig := { parameters := [(.array .double), .double], returnType := none }, accessFlags := 0, code := some k2c0 }
def k2c1 : Code := { maxStack := 4, maxLocals := 2, code := prog_15_method_6_code, exceptionTable := #[], attributes := #[] }
def k2m1 : Method := { name := "requireProbability", desc := "(D)V", sig := { parameters := [.double], returnType := none }, accessFlags := 8, code := some k2c1 }
def k2c2 : Code := { maxStack := 4, maxLocals := 2, code := prog_15_method_8_code, exceptionTable := #[], attributes := #[] }
def k2m2 : Method := { name := "probability", desc := "(I)D", sig := { parameters := [.int], returnType := some .double }, accessFlags := 1, code := some k2c2 }
/-- org/quarrel/model/Distribution -/
def k2 : Class := { plain "org/quarrel/model/Distribution" (some 0) with
  accessFlags := 49
  interfaces := #[]
  cf := some (fileOf pool2 2 #[] #[{ accessFlags := 0, nameIndex := 5, descriptorIndex := 6, attributes := #[] }, { accessFlags := 8, nameIndex := 14, descriptorIndex := 15, attributes := #[] }, { accessFlags := 1, nameIndex := 115, descriptorIndex := 116, attributes := #[] }] 49 8 #[] #[{ accessFlags := 26, nameIndex := 117, descriptorIndex := 118, attributes := #[] }, { accessFlags := 18, nameIndex := 24, descriptorIndex := 19, attributes := #[] }, { accessFlags := 18, nameIndex := 27, descriptorIndex := 28, attributes := #[] }])
  fields := #[{ name := "MOST_TRIALS", type := .long, accessFlags := 26, slot := 0, constantValue := 0 }, { name := "weights", type := (.array .double), accessFlags := 18, slot := 0, constantValue := 0 }, { name := "total", type := .double, accessFlags := 18, slot := 1, constantValue := 0 }]
  methods := #[k2m0, k2m1, k2m2]
  instanceTypes := #[(.array .double), .double]
  staticTypes := #[.long]
  resolved := Array.replicate 170 none
  statics := none }

def pool3 : Array CpInfo := pool [(1, .class_ 2), (0, u "java/io/Serializable"), (0, .class_ 4), (0, u "java/lang/Object")] 2

/-- java/io/Serializable -/
def k3 : Class := { plain "java/io/Serializable" (some 0) with
  accessFlags := 1537
  interfaces := #[]
  cf := some (fileOf pool3 1 #[] #[] 1537 3 #[] #[])
  fields := #[]
  methods := #[]
  instanceTypes := #[]
  staticTypes := #[]
  resolved := Array.replicate 7 none
  statics := none }

def pool4 : Array CpInfo := pool [(2, .class_ 4), (1, u "java/lang/Object"), (0, u "<init>"), (0, u "()V"), (1, .class_ 10), (1, u "java/lang/Number"), (2, .class_ 14), (0, u "java/io/Serializable"), (0, u "serialVersionUID"), (0, u "J")] 20

def k4m0 : Method := { name := "<init>", desc := "()V", sig := { parameters := [], returnType := none }, accessFlags := 1, code := none }
/-- java/lang/Number -/
def k4 : Class := { plain "java/lang/Number" (some 0) with
  accessFlags := 1057
  interfaces := #[3]
  cf := some (fileOf pool4 8 #[] #[{ accessFlags := 1, nameIndex := 5, descriptorIndex := 6, attributes := #[] }] 1057 2 #[13] #[{ accessFlags := 26, nameIndex := 15, descriptorIndex := 16, attributes := #[] }])
  fields := #[{ name := "serialVersionUID", type := .long, accessFlags := 26, slot := 0, constantValue := 0 }]
  methods := #[k4m0]
  instanceTypes := #[]
  staticTypes := #[.long]
  resolved := Array.replicate 37 none
  statics := none }

def pool5 : Array CpInfo := pool [(1, .class_ 2), (0, u "java/lang/Comparable"), (0, .class_ 4), (0, u "java/lang/Object")] 7

/-- java/lang/Comparable -/
def k5 : Class := { plain "java/lang/Comparable" (some 0) with
  accessFlags := 1537
  interfaces := #[]
  cf := some (fileOf pool5 1 #[] #[] 1537 3 #[] #[])
  fields := #[]
  methods := #[]
  instanceTypes := #[]
  staticTypes := #[]
  resolved := Array.replicate 12 none
  statics := none }

def pool6 : Array CpInfo := pool [(1, .class_ 2), (0, u "java/lang/constant/Constable"), (0, .class_ 4), (0, u "java/lang/Object")] 6

/-- java/lang/constant/Constable -/
def k6 : Class := { plain "java/lang/constant/Constable" (some 0) with
  accessFlags := 1537
  interfaces := #[]
  cf := some (fileOf pool6 1 #[] #[] 1537 3 #[] #[])
  fields := #[]
  methods := #[]
  instanceTypes := #[]
  staticTypes := #[]
  resolved := Array.replicate 11 none
  statics := none }

def pool7 : Array CpInfo := pool [(1, .class_ 2), (0, u "java/lang/constant/ConstantDesc"), (0, .class_ 4), (0, u "java/lang/Object")] 32

/-- java/lang/constant/ConstantDesc -/
def k7 : Class := { plain "java/lang/constant/ConstantDesc" (some 0) with
  accessFlags := 1537
  interfaces := #[]
  cf := some (fileOf pool7 1 #[] #[] 1537 3 #[] #[])
  fields := #[]
  methods := #[]
  instanceTypes := #[]
  staticTypes := #[]
  resolved := Array.replicate 37 none
  statics := none }

def pool8 : Array CpInfo := pool [(1, .class_ 2), (0, u "java/lang/Double"), (10, u "isFinite"), (0, u "(D)Z"), (8, .class_ 25), (1, u "java/lang/Math"), (12, .methodref 23 39), (0, .nameAndType 40 41), (0, u "abs"), (0, u "(D)D"), (69, .double 9218868437227405311), (2, .class_ 116), (1, u "java/lang/Number"), (3, u "value"), (0, u "D"), (51, u "TYPE"), (0, u "Ljava/lang/Class;"), (0, .class_ 176), (0, u "java/lang/Comparable"), (0, .class_ 178), (0, u "java/lang/constant/Constable"), (0, .class_ 180), (0, u "java/lang/constant/ConstantDesc"), (0, u "POSITIVE_INFINITY"), (3, u "NEGATIVE_INFINITY"), (2, u "NaN"), (2, u "MAX_VALUE"), (0, u "MIN_NORMAL"), (0, u "MIN_VALUE"), (2, u "SIZE"), (0, u "I"), (1, u "PRECISION"), (1, u "MAX_EXPONENT"), (1, u "MIN_EXPONENT"), (1, u "BYTES"), (3, u "serialVersionUID"), (0, u "J")] 79

def k8c0 : Code := { maxStack := 4, maxLocals := 2, code := jdk_117_method_8_code, exceptionTable := #[], attributes := #[] }
def k8m0 : Method := { name := "isFinite", desc := "(D)Z", sig := { parameters := [.double], returnType := some .boolean }, accessFlags := 9, code := some k8c0 }
/-- java/lang/Double -/
def k8 : Class := { plain "java/lang/Double" (some 4) with
  accessFlags := 49
  interfaces := #[5, 6, 7]
  cf := some (fileOf pool8 1 #[] #[{ accessFlags := 9, nameIndex := 13, descriptorIndex := 14, attributes := #[] }] 49 114 #[175, 177, 179] #[{ accessFlags := 25, nameIndex := 181, descriptorIndex := 121, attributes := #[] }, { accessFlags := 25, nameIndex := 185, descriptorIndex := 121, attributes := #[] }, { accessFlags := 25, nameIndex := 188, descriptorIndex := 121, attributes := #[] }, { accessFlags := 25, nameIndex := 191, descriptorIndex := 121, attributes := #[] }, { accessFlags := 25, nameIndex := 192, descriptorIndex := 121, attributes := #[] }, { accessFlags := 25, nameIndex := 193, descriptorIndex := 121, attributes := #[] }, { accessFlags := 25, nameIndex := 196, descriptorIndex := 197, attributes := #[] }, { accessFlags := 25, nameIndex := 199, descriptorIndex := 197, attributes := #[] }, { accessFlags := 25, nameIndex := 201, descriptorIndex := 197, attributes := #[] }, { accessFlags := 25, nameIndex := 203, descriptorIndex := 197, attributes := #[] }, { accessFlags := 25, nameIndex := 205, descriptorIndex := 197, attributes := #[] }, { accessFlags := 25, nameIndex := 173, descriptorIndex := 174, attributes := #[] }, { accessFlags := 18, nameIndex := 120, descriptorIndex := 121, attributes := #[] }, { accessFlags := 26, nameIndex := 209, descriptorIndex := 210, attributes := #[] }])
  fields := #[{ name := "POSITIVE_INFINITY", type := .double, accessFlags := 25, slot := 0, constantValue := 0 }, { name := "NEGATIVE_INFINITY", type := .double, accessFlags := 25, slot := 1, constantValue := 0 }, { name := "NaN", type := .double, accessFlags := 25, slot := 2, constantValue := 0 }, { name := "MAX_VALUE", type := .double, accessFlags := 25, slot := 3, constantValue := 0 }, { name := "MIN_NORMAL", type := .double, accessFlags := 25, slot := 4, constantValue := 0 }, { name := "MIN_VALUE", type := .double, accessFlags := 25, slot := 5, constantValue := 0 }, { name := "SIZE", type := .int, accessFlags := 25, slot := 6, constantValue := 0 }, { name := "PRECISION", type := .int, accessFlags := 25, slot := 7, constantValue := 0 }, { name := "MAX_EXPONENT", type := .int, accessFlags := 25, slot := 8, constantValue := 0 }, { name := "MIN_EXPONENT", type := .int, accessFlags := 25, slot := 9, constantValue := 0 }, { name := "BYTES", type := .int, accessFlags := 25, slot := 10, constantValue := 0 }, { name := "TYPE", type := (.object "java/lang/Class"), accessFlags := 25, slot := 11, constantValue := 0 }, { name := "value", type := .double, accessFlags := 18, slot := 0, constantValue := 0 }, { name := "serialVersionUID", type := .long, accessFlags := 26, slot := 12, constantValue := 0 }]
  methods := #[k8m0]
  instanceTypes := #[.double]
  staticTypes := #[.double, .double, .double, .double, .double, .double, .int, .int, .int, .int, .int, (.object "java/lang/Class"), .long]
  resolved := Array.replicate 290 none
  statics := none }

def pool9 : Array CpInfo := pool [(1, .class_ 2), (0, u "java/lang/Math"), (1, .class_ 6), (1, u "java/lang/Object"), (0, u "<init>"), (0, u "()V"), (5, u "(D)D"), (83, .class_ 100), (1, u "java/lang/Math$RandomNumberGeneratorHolder"), (23, u "abs"), (47, u "negativeZeroFloatBits"), (0, u "J"), (2, u "negativeZeroDoubleBits"), (68, u "$assertionsDisabled"), (0, u "Z"), (91, u "twoToTheDoubleScaleDown"), (0, u "D"), (4, u "twoToTheDoubleScaleUp"), (9, u "E"), (3, u "PI"), (2, u "TAU"), (2, u "DEGREES_TO_RADIANS"), (0, u "RADIANS_TO_DEGREES")] 94

def k9m0 : Method := { name := "<init>", desc := "()V", sig := { parameters := [], returnType := none }, accessFlags := 2, code := none }
def k9c1 : Code := { maxStack := 4, maxLocals := 2, code := jdk_29_method_64_code, exceptionTable := #[], attributes := #[] }
def k9m1 : Method := { name := "abs", desc := "(D)D", sig := { parameters := [.double], returnType := some .double }, accessFlags := 9, code := some k9c1 }
/-- java/lang/Math -/
def k9 : Class := { plain "java/lang/Math" (some 0) with
  accessFlags := 49
  interfaces := #[]
  cf := some (fileOf pool9 1 #[.nestMembers #[98]] #[{ accessFlags := 2, nameIndex := 7, descriptorIndex := 8, attributes := #[] }, { accessFlags := 9, nameIndex := 124, descriptorIndex := 14, attributes := #[] }] 49 4 #[] #[{ accessFlags := 25, nameIndex := 354, descriptorIndex := 339, attributes := #[] }, { accessFlags := 25, nameIndex := 358, descriptorIndex := 339, attributes := #[] }, { accessFlags := 25, nameIndex := 361, descriptorIndex := 339, attributes := #[] }, { accessFlags := 26, nameIndex := 364, descriptorIndex := 339, attributes := #[] }, { accessFlags := 26, nameIndex := 365, descriptorIndex := 339, attributes := #[] }, { accessFlags := 26, nameIndex := 172, descriptorIndex := 173, attributes := #[] }, { accessFlags := 26, nameIndex := 176, descriptorIndex := 173, attributes := #[] }, { accessFlags := 8, nameIndex := 344, descriptorIndex := 339, attributes := #[] }, { accessFlags := 8, nameIndex := 338, descriptorIndex := 339, attributes := #[] }, { accessFlags := 4120, nameIndex := 245, descriptorIndex := 246, attributes := #[] }])
  fields := #[{ name := "E", type := .double, accessFlags := 25, slot := 0, constantValue := 0 }, { name := "PI", type := .double, accessFlags := 25, slot := 1, constantValue := 0 }, { name := "TAU", type := .double, accessFlags := 25, slot := 2, constantValue := 0 }, { name := "DEGREES_TO_RADIANS", type := .double, accessFlags := 26, slot := 3, constantValue := 0 }, { name := "RADIANS_TO_DEGREES", type := .double, accessFlags := 26, slot := 4, constantValue := 0 }, { name := "negativeZeroFloatBits", type := .long, accessFlags := 26, slot := 5, constantValue := 0 }, { name := "negativeZeroDoubleBits", type := .long, accessFlags := 26, slot := 6, constantValue := 0 }, { name := "twoToTheDoubleScaleUp", type := .double, accessFlags := 8, slot := 7, constantValue := 0 }, { name := "twoToTheDoubleScaleDown", type := .double, accessFlags := 8, slot := 8, constantValue := 0 }, { name := "$assertionsDisabled", type := .boolean, accessFlags := 4120, slot := 9, constantValue := 0 }]
  methods := #[k9m0, k9m1]
  instanceTypes := #[]
  staticTypes := #[.double, .double, .double, .double, .double, .long, .long, .double, .double, .boolean]
  resolved := Array.replicate 460 none
  statics := none }

def pool10 : Array CpInfo := pool [(1, .class_ 2), (0, u "java/lang/Cloneable"), (0, .class_ 4), (0, u "java/lang/Object")] 2

/-- java/lang/Cloneable -/
def k10 : Class := { plain "java/lang/Cloneable" (some 0) with
  accessFlags := 1537
  interfaces := #[]
  cf := some (fileOf pool10 1 #[] #[] 1537 3 #[] #[])
  fields := #[]
  methods := #[]
  instanceTypes := #[]
  staticTypes := #[]
  resolved := Array.replicate 7 none
  statics := none }

/-- the primitive byte -/
def k11 : Class := { plain "byte" none with kind := .primitive 'B', accessFlags := 0x411 }
/-- [B -/
def k12 : Class := { plain "[B" (some 0) with kind := .array 11 .byte, interfaces := #[10, 3], accessFlags := 1041 }

/-- the primitive double -/
def k13 : Class := { plain "double" none with kind := .primitive 'D', accessFlags := 0x411 }
/-- [D -/
def k14 : Class := { plain "[D" (some 0) with kind := .array 13 .double, interfaces := #[10, 3], accessFlags := 1041 }

/-- the primitive int -/
def k15 : Class := { plain "int" none with kind := .primitive 'I', accessFlags := 0x411 }
/-- [I -/
def k16 : Class := { plain "[I" (some 0) with kind := .array 15 .int, interfaces := #[10, 3], accessFlags := 1041 }

def heap : Heap := #[]
def classes : Array Class := #[k0, k1, k2, k3, k4, k5, k6, k7, k8, k9, k10, k11, k12, k13, k14, k15, k16]
def interned : List (Array UInt16 × Addr) := []
def slotsUsed : Nat := 0
def theMethod : MethodId := ⟨1, 1⟩
def args0 : Array Value := #[.int 5, .int 6, .int 6, .int 6, .int 6]
def aboutOver (below : List Frame) : State where
  vm := { classes := classes, interned := interned.toArray }
  heap := heap
  slotsUsed := slotsUsed
  threads := #[{ frames := .invoking theMethod args0 :: below }]
def below0 : List Frame := [.native { method := ⟨0, 0⟩, args := #[] }]
def about1 : State := aboutOver below0
def p0 : Program := .bare "" "" ""
def e0 : Env := launch0.env 0 0 0
theorem w_frames : about1.frames = Frame.invoking theMethod args0 :: below0 := rfl
set_option maxRecDepth 65536 in
theorem w_args : argsFit about1.vm theMethod args0 = true := by decide +kernel
set_option maxRecDepth 65536 in
theorem w_heap : heapFits about1 = true := by decide +kernel
set_option maxRecDepth 65536 in
theorem w_runnable : about1.curStatus? = some .runnable := by decide +kernel
set_option maxRecDepth 65536 in
theorem w_alone : about1.alone = true := by decide +kernel
set_option maxRecDepth 65536 in
theorem w_named : about1.methodNamed? x = some theMethod := by decide +kernel
set_option maxRecDepth 65536 in
theorem w_hears : about1.hears theMethod below0 = true := by decide +kernel
set_option maxRecDepth 65536 in
theorem w_ripe : about1.ripe theMethod args0 below0 = true := by decide +kernel
theorem w_running : about1.status = .running := rfl
set_option maxRecDepth 65536 in
theorem w_room : about1.hasRoom e0.platform room_1 = true :=
  launch0.hasRoom_least _ room_1 (by decide +kernel) (by decide +kernel) (by decide +kernel) (by decide +kernel) (by decide +kernel) (by decide +kernel)
theorem allAtoms_all (ts : List Jvm.Cond) (a : Array Jvm.Value) (st : Jvm.State) : (allAtoms ts).before a st = ts.all (fun c => c.before a st) := by
  induction ts with
  | nil => rfl
  | cons c t ih =>
    show (Jvm.Cond.and c (allAtoms t)).before a st = _
    rw [Jvm.Cond.before_and, ih, List.all_cons]
def words1 : List Jvm.Cond := Jvm.Cond.code x code maxLocals ret :: tables_1
/-- a 'code' word, met by the world's own term for the bytes: nothing is compared byte by byte -/
theorem code_word {y : MethodName} {bytes : ByteArray} {mx : Nat} {rt : Option FieldType} {a : Array Value} {s : State} {m : MethodId} {meth : Method} {c : Code} (h1 : s.methodNamed? y = some m) (h2 : s.vm.method? m = some meth) (h3 : meth.code = some c) (h4 : c.code = bytes)
    (h5 : (c.maxLocals == mx && c.exceptionTable.isEmpty && decide (c.maxStack ≤ mostOperands) && decide (meth.sig.returnType = rt) && !meth.locks && decide (parseMethodDescriptor y.desc = some meth.sig)) = true) : (Jvm.Cond.code y bytes mx rt).before a s = true := by
  simp only [Bool.and_eq_true, beq_iff_eq, Bool.not_eq_true', decide_eq_true_eq] at h5
  obtain ⟨⟨⟨⟨⟨g1, g2⟩, g3⟩, g4⟩, g5⟩, g6⟩ := h5
  simp [Cond.before, Cond.holds, Cond.value, h1, h2, h3, h4, g1, g2, g3, g4, g5, g6]
def isCode : Jvm.Cond → Bool
  | .code _ _ _ _ => true
  | _ => false
theorem all_split {L : List Jvm.Cond} {P : Jvm.Cond → Bool} (h1 : L.all (fun c => isCode c || P c) = true) (h2 : ∀ c ∈ L.filter isCode, P c = true) : L.all P = true := by
  refine List.all_eq_true.mpr fun c hc => ?_
  have h := List.all_eq_true.mp h1 c hc
  rcases Bool.eq_false_or_eq_true (isCode c) with hi | hi
  · exact h2 c (List.mem_filter.mpr ⟨hc, hi⟩)
  · simpa [hi] using h
set_option maxRecDepth 65536 in
theorem w_c0 : (Jvm.Cond.code x code maxLocals ret).before args0 about1 = true := code_word (m := ⟨1, 1⟩) (meth := k1m1) (c := k1c1) (by decide +kernel) rfl rfl rfl (by decide +kernel)
set_option maxRecDepth 65536 in
theorem w_c1 : (Jvm.Cond.code ({ cls := "org/quarrel/model/Distribution", name := "<init>", desc := "([DD)V" } : Jvm.MethodName) prog_15_method_2_code (9 : Nat) (Option.none : Option Jvm.ClassFile.FieldType)).before args0 about1 = true := code_word (m := ⟨2, 0⟩) (meth := k2m0) (c := k2c0) (by decide +kernel) rfl rfl rfl (by decide +kernel)
set_option maxRecDepth 65536 in
theorem w_c2 : (Jvm.Cond.code ({ cls := "java/lang/Object", name := "<init>", desc := "()V" } : Jvm.MethodName) object_method_1_code (1 : Nat) (Option.none : Option Jvm.ClassFile.FieldType)).before args0 about1 = true := code_word (m := ⟨0, 0⟩) (meth := k0m0) (c := k0c0) (by decide +kernel) rfl rfl rfl (by decide +kernel)
set_option maxRecDepth 65536 in
theorem w_c3 : (Jvm.Cond.code ({ cls := "org/quarrel/model/Distribution", name := "requireProbability", desc := "(D)V" } : Jvm.MethodName) prog_15_method_6_code (2 : Nat) (Option.none : Option Jvm.ClassFile.FieldType)).before args0 about1 = true := code_word (m := ⟨2, 1⟩) (meth := k2m1) (c := k2c1) (by decide +kernel) rfl rfl rfl (by decide +kernel)
set_option maxRecDepth 65536 in
theorem w_c4 : (Jvm.Cond.code ({ cls := "java/lang/Double", name := "isFinite", desc := "(D)Z" } : Jvm.MethodName) jdk_117_method_8_code (2 : Nat) (Option.some Jvm.ClassFile.FieldType.boolean)).before args0 about1 = true := code_word (m := ⟨8, 0⟩) (meth := k8m0) (c := k8c0) (by decide +kernel) rfl rfl rfl (by decide +kernel)
set_option maxRecDepth 65536 in
theorem w_c5 : (Jvm.Cond.code ({ cls := "java/lang/Math", name := "abs", desc := "(D)D" } : Jvm.MethodName) jdk_29_method_64_code (2 : Nat) (Option.some Jvm.ClassFile.FieldType.double)).before args0 about1 = true := code_word (m := ⟨9, 1⟩) (meth := k9m1) (c := k9c1) (by decide +kernel) rfl rfl rfl (by decide +kernel)
set_option maxRecDepth 65536 in
theorem w_c6 : (Jvm.Cond.code ({ cls := "org/quarrel/model/Distribution", name := "probability", desc := "(I)D" } : Jvm.MethodName) prog_15_method_8_code (2 : Nat) (Option.some Jvm.ClassFile.FieldType.double)).before args0 about1 = true := code_word (m := ⟨2, 2⟩) (meth := k2m2) (c := k2c2) (by decide +kernel) rfl rfl rfl (by decide +kernel)
set_option maxRecDepth 65536 in
theorem w_c7 : (Jvm.Cond.code ({ cls := "org/quarrel/model/DistributionProbabilityPinLaw", name := "expected", desc := "(IIII)D" } : Jvm.MethodName) method_3_code (4 : Nat) (Option.some Jvm.ClassFile.FieldType.double)).before args0 about1 = true := code_word (m := ⟨1, 2⟩) (meth := k1m2) (c := k1c2) (by decide +kernel) rfl rfl rfl (by decide +kernel)
def codes1 : List Jvm.Cond := [Jvm.Cond.code x code maxLocals ret, Jvm.Cond.code ({ cls := "org/quarrel/model/Distribution", name := "<init>", desc := "([DD)V" } : Jvm.MethodName) prog_15_method_2_code (9 : Nat) (Option.none : Option Jvm.ClassFile.FieldType), Jvm.Cond.code ({ cls := "java/lang/Object", name := "<init>", desc := "()V" } : Jvm.MethodName) object_method_1_code (1 : Nat) (Option.none : Option Jvm.ClassFile.FieldType), Jvm.Cond.code ({ cls := "org/quarrel/model/Distribution", name := "requireProbability", desc := "(D)V" } : Jvm.MethodName) prog_15_method_6_code (2 : Nat) (Option.none : Option Jvm.ClassFile.FieldType), Jvm.Cond.code ({ cls := "java/lang/Double", name := "isFinite", desc := "(D)Z" } : Jvm.MethodName) jdk_117_method_8_code (2 : Nat) (Option.some Jvm.ClassFile.FieldType.boolean), Jvm.Cond.code ({ cls := "java/lang/Math", name := "abs", desc := "(D)D" } : Jvm.MethodName) jdk_29_method_64_code (2 : Nat) (Option.some Jvm.ClassFile.FieldType.double), Jvm.Cond.code ({ cls := "org/quarrel/model/Distribution", name := "probability", desc := "(I)D" } : Jvm.MethodName) prog_15_method_8_code (2 : Nat) (Option.some Jvm.ClassFile.FieldType.double), Jvm.Cond.code ({ cls := "org/quarrel/model/DistributionProbabilityPinLaw", name := "expected", desc := "(IIII)D" } : Jvm.MethodName) method_3_code (4 : Nat) (Option.some Jvm.ClassFile.FieldType.double)]
set_option maxRecDepth 65536 in
theorem codes_eq : words1.filter isCode = codes1 := rfl
theorem w_codes : ∀ c ∈ words1.filter isCode, c.before args0 about1 = true := by
  rw [codes_eq]
  intro c hc
  simp only [codes1, List.mem_cons, List.not_mem_nil, or_false] at hc
  rcases hc with rfl | rfl | rfl | rfl | rfl | rfl | rfl | rfl
  · exact w_c0
  · exact w_c1
  · exact w_c2
  · exact w_c3
  · exact w_c4
  · exact w_c5
  · exact w_c6
  · exact w_c7
set_option maxRecDepth 65536 in
theorem w_t1 : (words1.take 24).all (fun c => isCode c || c.before args0 about1) = true := by decide +kernel
set_option maxRecDepth 65536 in
theorem w_t2 : (words1.drop 24).all (fun c => isCode c || c.before args0 about1) = true := by decide +kernel
theorem w_tables : (allAtoms (Jvm.Cond.code x code maxLocals ret :: tables_1)).before args0 about1 = true := by
  rw [allAtoms_all]
  show words1.all (fun c => c.before args0 about1) = true
  refine all_split ?_ w_codes
  rw [← List.take_append_drop 24 words1, List.all_append, w_t1, w_t2]
  rfl
set_option maxRecDepth 65536 in
theorem w_case : (Jvm.Cond.and given_1 narrow_1).before args0 about1 = true := by decide +kernel
theorem w_applies : (headSpec (Jvm.Cond.code x code maxLocals ret :: tables_1) room_1).applies x e0.platform about1 = true :=
  (Spec.applies_iff w_frames).mpr ⟨w_running, w_runnable, w_alone, w_named, w_hears, w_ripe, w_room, w_tables⟩
theorem atStart : AtStart classFile x code maxLocals ret World_1 tables_1 room_1 Calls_1 rest_1 Pre_1 launch0 p0 e0 about1 theMethod args0 below0 :=
  ⟨lists_1, trivial, launch0.admits_env _ _ _, launch0.least_env, fairChoices_fair.cas, fairChoices_fair.clock, w_frames, w_args, w_heap, w_applies, trivial, trivial, w_case⟩
end start1
theorem witness_1 : WitnessClaimed_1 := ⟨start1.p0, start1.e0, start1.about1, start1.theMethod, start1.args0, start1.below0, start1.atStart⟩
end Jvm.Pilot.@@N@@
