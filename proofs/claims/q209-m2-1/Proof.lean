import JvmDerived
import JvmDerived.Pilot.@@N@@Statement
import JvmDerived.Pilot.@@N@@Code
set_option linter.unusedVariables false
set_option linter.unusedSimpArgs false
namespace Jvm.RoadKit
open Sem ClassFile Op Lib Jvm.Stand Jvm.Free Jvm.LawKit
section New
variable {p : Program} {l : Launch} {e : Env} {R : Room} {s : State} {m : MethodId} {args : Array Value} {below : List Frame} {meth : Method} {c : Code} {T : State} {locs : List Loc} {cells slots : Nat}
theorem retI (X : Stand p l e R s m args below meth c T locs cells slots) (hx : p.tables.exec = Jvm.exec) {pc : Nat} {Ls : Array Slot} {z : Int32} {rest : List Value} (hret : meth.sig.returnType = some .int) (hd : decode c.code pc = .ok (.ireturn, 1)) {fs : List Frame}
    (hl : ∀ (f : JFrame) (acts : List Action), f.method = m → f.locked = none → f.entered = [] → (doReturn e (T.setTop f) acts (some (.int z))).1 = T.setFrames fs) : Steps p.tables e below (T.setTop (mkF m pc Ls (.int z :: rest))) (T.setFrames fs) := by
  have hm' : T.vm.method? m = some meth := X.method'
  have hn : narrow .int (.int z) = .int z := rfl
  show Steps p.tables e below (T.setTop { method := m, pc := pc, locals := Ls, stack := _ :: rest, locked := none }) _
  jvm_step X.here [X.here.top, hx, hd, hm', hret, hn]
  first | (intro acts; rw [hl _ acts rfl rfl rfl]) | rw [hl _ _ rfl rfl rfl]
  exact Steps.refl _
end New
end Jvm.RoadKit
namespace Jvm.Pilot.@@N@@
open Jvm Jvm.ClassFile Sem Op Lib Jvm.Free Jvm.Stand Jvm.LawKit Jvm.RoadKit Bundle Jvm.Pilot.@@N@@.Jvm.D
abbrev SS (p : Program) (e : Env) (below : List Frame) (T : State) (g : JFrame) (t : State) : Prop := Steps p.tables e below (T.setTop g) t
abbrev vi (x : Int32) : Slot := .val (.int x)
abbrev vl (x : Int64) : Slot := .val (.long x)
abbrev vr (x : Addr) : Slot := .val (.ref x)
abbrev vd (x : UInt64) : Slot := .val (.double x)
abbrev uu : Slot := .unset
abbrev us : Slot := .second
theorem wd {a0 : Array Value} {Z : State} (hw : ∀ d ∈ tables_1, d.before a0 Z = true) (i : Nat) {d : Jvm.Cond} (h : tables_1[i]? = some d) : d.before a0 Z = true := hw _ (List.mem_of_getElem? h)
theorem own_hk {T : State} {h : Heap} {k : Nat} (e : T.heap = h) (q : k ≤ h.size) : k ≤ T.heap.size := e ▸ q
theorem own_at {T : State} {h : Heap} {a : Addr} {c : Cell} (e : T.heap = h) (q : h[a]? = some c) : T.heap[a]? = some c := e ▸ q
def own_pe (x : Int32) : Int32 := if x < (3000 : Int32) then 0 else if x < (4000 : Int32) then 1 else 0
def own_three (x : Int32) : Int32 := if x / (1000 : Int32) = (3 : Int32) then 1 else 0
theorem own_eq (x : Int32) : own_pe x = own_three x := by
  have q := c_idiv x (1000 : Int32) 1000 (by decide) (by decide)
  have e3 : ((3 : Int32)).toInt = 3 := by decide
  have e30 : ((3000 : Int32)).toInt = 3000 := by decide
  have e40 : ((4000 : Int32)).toInt = 4000 := by decide
  have e : x / (1000 : Int32) = (3 : Int32) ↔ (x / (1000 : Int32)).toInt = 3 := by rw [← e3]; exact Int32.toInt_inj.symm
  rw [own_pe, own_three]
  by_cases h1 : x < (3000 : Int32)
  · rw [if_pos h1]
    rw [Int32.lt_iff_toInt_lt] at h1
    rw [if_neg (fun h => by have := e.mp h; omega)]
  · rw [if_neg h1]
    rw [Int32.lt_iff_toInt_lt] at h1
    by_cases h2 : x < (4000 : Int32)
    · rw [if_pos h2]
      rw [Int32.lt_iff_toInt_lt] at h2
      rw [if_pos (e.mpr (by omega))]
    · rw [if_neg h2]
      rw [Int32.lt_iff_toInt_lt] at h2
      rw [if_neg (fun h => by have := e.mp h; omega)]
theorem ef_0 (m : MethodId) (x0 : Int32) : entryFrame m #[(.int x0)] 1 = mkF m 0 #[vi x0] [] := by first | (simp [entryFrame, mkF, argsToLocals, Value.category]; done) | rfl
theorem pn_0 : plainName "com/example/fast_rating/fastrating/diameter/ResultCode" = true := by first | (simp [plainName, overriddenIn]; done) | decide +kernel
theorem d1_0 : decode prog_35_method_2_code 0 = .ok (.iload_n 0, 1) := by decide +kernel
theorem d1_1 : decode prog_35_method_2_code 1 = .ok (.sipush 3000, 3) := by decide +kernel
theorem d1_4 : decode prog_35_method_2_code 4 = .ok (.if_icmp .lt 14, 3) := by decide +kernel
theorem d1_18 : decode prog_35_method_2_code 18 = .ok (.iconst 0, 1) := by decide +kernel
theorem d1_19 : decode prog_35_method_2_code 19 = .ok (.ireturn, 1) := by decide +kernel
theorem d1_7 : decode prog_35_method_2_code 7 = .ok (.iload_n 0, 1) := by decide +kernel
theorem d1_8 : decode prog_35_method_2_code 8 = .ok (.sipush 4000, 3) := by decide +kernel
theorem d1_11 : decode prog_35_method_2_code 11 = .ok (.if_icmp .ge 7, 3) := by decide +kernel
theorem d1_14 : decode prog_35_method_2_code 14 = .ok (.iconst 1, 1) := by decide +kernel
theorem d1_15 : decode prog_35_method_2_code 15 = .ok (.goto 4, 3) := by decide +kernel
def Q_rm1 (Z : State) (p0 : Int32) (h0 : Heap) (n0 : Nat) (v : Option Value) (h : Heap) (L : List Loc) : Prop := (v = some (.int (own_pe p0)) ∧ Fr n0 L ∧ h = h0)
set_option maxRecDepth 65536 in
set_option maxHeartbeats 40000000 in
theorem rm1 (l : Launch) (Z : State) (a0 : Array Value) (hw : ∀ d ∈ tables_1, d.before a0 Z = true) (ws : List Jvm.Cond) (p0 : Int32) (h0 : Heap) (n0 : Nat) (Z0 : n0 ≤ h0.size) :
    MetFree l (⟨"com/example/fast_rating/fastrating/diameter/ResultCode", "isProtocolError", "(I)Z"⟩ : MethodName) (head1 (Jvm.Cond.code (⟨"com/example/fast_rating/fastrating/diameter/ResultCode", "isProtocolError", "(I)Z"⟩ : MethodName) prog_35_method_2_code 1 (some .boolean) :: ws) ({ frames := 0, cells := 0, slots := 0, locals := 0 } : Room)) (fun a U => a = #[(.int p0)] ∧ Z.Warmed39 U.vm ∧ U.heap = h0) (fun _ _ _ _ _ => True) (fun _ U o U' => ∃ v L, o = .returned v ∧ Q_rm1 Z p0 h0 n0 v U'.heap L ∧ FrameEnd U o U' L ({ frames := 0, cells := 0, slots := 0, locals := 0 } : Room).cells ({ frames := 0, cells := 0, slots := 0, locals := 0 } : Room).slots) := by
  refine MetFree.of_bodySF (plainFor_of_name pn_0) hisR ?_
  intro p e s m args below meth c s₁ Bd hml0 hP hK
  obtain ⟨rfl, hZ, hh⟩ := hP
  have hx := Bd.exec
  have hby := Bd.bytes
  have hml : c.maxLocals = 1 := hml0
  have hown : s.vm.findClass "com/example/fast_rating/fastrating/diameter/ResultCode" = some m.cls := findClass_of_methodNamed Bd.named
  have hnm := (name_of_methodNamed Bd.named Bd.method).1
  have X0 : Stand p l e ({ frames := 0, cells := 0, slots := 0, locals := 0 } : Room) s m #[(.int p0)] below meth c s₁ [] 0 0 := Stand.of_body Bd
  have e0 : s₁.heap = h0 := by rw [← hh, Bd.state]; rfl
  have N0 := Fr.nil n0
  have pre0 : ∀ t, Steps p.tables e below (s₁.setTop (mkF m 0 #[vi p0] [])) t → Steps p.tables e below (s₁.setTop (entryFrame m #[(.int p0)] 1)) t := fun t k => castTop (ef_0 m p0) k
  by_cases hc4 : p0 < (3000 : Int32)
  · obtain ⟨fs, hr, hrun, hended, hW, hsame⟩ := X0.leave (v := some (.int (nar .boolean (0 : Int32)))) (fun h => by rw [Bd.returns] at h; cases h)
    refine ⟨_, _, pre0 _ ?_, hrun, hended, _, _, rfl, ?_, ⟨_, rfl⟩, hW, hsame.mono (by decide) (by decide)⟩
    · show SS p e below s₁ (mkF m 0 #[vi p0] []) _
      refine XS.iloadN X0.here hx rfl (hb hby d1_0) rfl ?_
      show SS p e below s₁ (mkF m 1 #[vi p0] [(.int p0)]) _
      refine XS.sipush X0.here hx rfl (hb hby d1_1) ?_
      show SS p e below s₁ (mkF m 4 #[vi p0] [(.int (3000 : Int32)), (.int p0)]) _
      refine XS.icmpYes X0.here hx rfl (pc0 := 4) (pc' := 18) rfl (hb hby d1_4) rfl (tlt (hc4 : p0 < (3000 : Int32))).1 (by decide) (by decide) ?_
      show SS p e below s₁ (mkF m 18 #[vi p0] []) _
      refine XS.iconst X0.here hx rfl (hb hby d1_18) ?_
      show SS p e below s₁ (mkF m 19 #[vi p0] [(.int (0 : Int32))]) _
      exact retN X0 hx (t := .boolean) Bd.returns (by simp) (hb hby d1_19) hr
    · show Q_rm1 Z p0 h0 n0 _ s₁.heap _
      rw [e0]
      exact ⟨(by rw [own_pe, if_pos hc4]; rfl), N0, rfl⟩
  · have sg1 : ∀ target, SS p e below s₁ (mkF m 11 #[vi p0] [(.int (4000 : Int32)), (.int p0)]) target → SS p e below s₁ (mkF m 0 #[vi p0] []) target := by
      intro target kt
      show SS p e below s₁ (mkF m 0 #[vi p0] []) _
      refine XS.iloadN X0.here hx rfl (hb hby d1_0) rfl ?_
      show SS p e below s₁ (mkF m 1 #[vi p0] [(.int p0)]) _
      refine XS.sipush X0.here hx rfl (hb hby d1_1) ?_
      show SS p e below s₁ (mkF m 4 #[vi p0] [(.int (3000 : Int32)), (.int p0)]) _
      refine XS.icmpNo X0.here hx rfl (hb hby d1_4) rfl (flt (hc4 : ¬ (p0 < (3000 : Int32)))).1 ?_
      show SS p e below s₁ (mkF m 7 #[vi p0] []) _
      refine XS.iloadN X0.here hx rfl (hb hby d1_7) rfl ?_
      show SS p e below s₁ (mkF m 8 #[vi p0] [(.int p0)]) _
      refine XS.sipush X0.here hx rfl (hb hby d1_8) ?_
      exact kt
    by_cases hc11 : p0 < (4000 : Int32)
    · obtain ⟨fs, hr, hrun, hended, hW, hsame⟩ := X0.leave (v := some (.int (nar .boolean (1 : Int32)))) (fun h => by rw [Bd.returns] at h; cases h)
      refine ⟨_, _, pre0 _ ?_, hrun, hended, _, _, rfl, ?_, ⟨_, rfl⟩, hW, hsame.mono (by decide) (by decide)⟩
      · refine sg1 _ ?_
        show SS p e below s₁ (mkF m 11 #[vi p0] [(.int (4000 : Int32)), (.int p0)]) _
        refine XS.icmpNo X0.here hx rfl (hb hby d1_11) rfl (tlt (hc11 : p0 < (4000 : Int32))).2.1 ?_
        show SS p e below s₁ (mkF m 14 #[vi p0] []) _
        refine XS.iconst X0.here hx rfl (hb hby d1_14) ?_
        show SS p e below s₁ (mkF m 15 #[vi p0] [(.int (1 : Int32))]) _
        refine XS.goto X0.here hx rfl (pc0 := 15) (pc' := 19) rfl (hb hby d1_15) (by decide) (by decide) ?_
        show SS p e below s₁ (mkF m 19 #[vi p0] [(.int (1 : Int32))]) _
        exact retN X0 hx (t := .boolean) Bd.returns (by simp) (hb hby d1_19) hr
      · show Q_rm1 Z p0 h0 n0 _ s₁.heap _
        rw [e0]
        exact ⟨(by rw [own_pe, if_neg hc4, if_pos hc11]; rfl), N0, rfl⟩
    · obtain ⟨fs, hr, hrun, hended, hW, hsame⟩ := X0.leave (v := some (.int (nar .boolean (0 : Int32)))) (fun h => by rw [Bd.returns] at h; cases h)
      refine ⟨_, _, pre0 _ ?_, hrun, hended, _, _, rfl, ?_, ⟨_, rfl⟩, hW, hsame.mono (by decide) (by decide)⟩
      · refine sg1 _ ?_
        show SS p e below s₁ (mkF m 11 #[vi p0] [(.int (4000 : Int32)), (.int p0)]) _
        refine XS.icmpYes X0.here hx rfl (pc0 := 11) (pc' := 18) rfl (hb hby d1_11) rfl (flt (hc11 : ¬ (p0 < (4000 : Int32)))).2.1 (by decide) (by decide) ?_
        show SS p e below s₁ (mkF m 18 #[vi p0] []) _
        refine XS.iconst X0.here hx rfl (hb hby d1_18) ?_
        show SS p e below s₁ (mkF m 19 #[vi p0] [(.int (0 : Int32))]) _
        exact retN X0 hx (t := .boolean) Bd.returns (by simp) (hb hby d1_19) hr
      · show Q_rm1 Z p0 h0 n0 _ s₁.heap _
        rw [e0]
        exact ⟨(by rw [own_pe, if_neg hc4, if_neg hc11]; rfl), N0, rfl⟩
theorem ef_1 (m : MethodId) (x0 : Int32) : entryFrame m #[(.int x0)] 1 = mkF m 0 #[vi x0] [] := by first | (simp [entryFrame, mkF, argsToLocals, Value.category]; done) | rfl
theorem pn_1 : plainName "com/example/fast_rating/fastrating/diameter/ResultCodeIsProtocolErrorPinLaw" = true := by first | (simp [plainName, overriddenIn]; done) | decide +kernel
theorem d2_0 : decode method_2_code 0 = .ok (.iload_n 0, 1) := by decide +kernel
theorem d2_1 : decode method_2_code 1 = .ok (.sipush 1000, 3) := by decide +kernel
theorem d2_4 : decode method_2_code 4 = .ok (.idiv, 1) := by decide +kernel
theorem d2_5 : decode method_2_code 5 = .ok (.iconst 3, 1) := by decide +kernel
theorem d2_6 : decode method_2_code 6 = .ok (.if_icmp .ne 7, 3) := by decide +kernel
theorem d2_9 : decode method_2_code 9 = .ok (.iconst 1, 1) := by decide +kernel
theorem d2_10 : decode method_2_code 10 = .ok (.goto 4, 3) := by decide +kernel
theorem d2_14 : decode method_2_code 14 = .ok (.ireturn, 1) := by decide +kernel
theorem d2_13 : decode method_2_code 13 = .ok (.iconst 0, 1) := by decide +kernel
def Q_rm2 (Z : State) (p0 : Int32) (h0 : Heap) (n0 : Nat) (v : Option Value) (h : Heap) (L : List Loc) : Prop := (v = some (.int (own_three p0)) ∧ Fr n0 L ∧ h = h0)
set_option maxRecDepth 65536 in
set_option maxHeartbeats 40000000 in
theorem rm2 (l : Launch) (Z : State) (a0 : Array Value) (hw : ∀ d ∈ tables_1, d.before a0 Z = true) (ws : List Jvm.Cond) (p0 : Int32) (h0 : Heap) (n0 : Nat) (Z0 : n0 ≤ h0.size) :
    MetFree l (⟨"com/example/fast_rating/fastrating/diameter/ResultCodeIsProtocolErrorPinLaw", "threeClass", "(I)Z"⟩ : MethodName) (head1 (Jvm.Cond.code (⟨"com/example/fast_rating/fastrating/diameter/ResultCodeIsProtocolErrorPinLaw", "threeClass", "(I)Z"⟩ : MethodName) method_2_code 1 (some .boolean) :: ws) ({ frames := 0, cells := 0, slots := 0, locals := 0 } : Room)) (fun a U => a = #[(.int p0)] ∧ Z.Warmed39 U.vm ∧ U.heap = h0) (fun _ _ _ _ _ => True) (fun _ U o U' => ∃ v L, o = .returned v ∧ Q_rm2 Z p0 h0 n0 v U'.heap L ∧ FrameEnd U o U' L ({ frames := 0, cells := 0, slots := 0, locals := 0 } : Room).cells ({ frames := 0, cells := 0, slots := 0, locals := 0 } : Room).slots) := by
  refine MetFree.of_bodySF (plainFor_of_name pn_1) hisR ?_
  intro p e s m args below meth c s₁ Bd hml0 hP hK
  obtain ⟨rfl, hZ, hh⟩ := hP
  have hx := Bd.exec
  have hby := Bd.bytes
  have hml : c.maxLocals = 1 := hml0
  have hown : s.vm.findClass "com/example/fast_rating/fastrating/diameter/ResultCodeIsProtocolErrorPinLaw" = some m.cls := findClass_of_methodNamed Bd.named
  have hnm := (name_of_methodNamed Bd.named Bd.method).1
  have X0 : Stand p l e ({ frames := 0, cells := 0, slots := 0, locals := 0 } : Room) s m #[(.int p0)] below meth c s₁ [] 0 0 := Stand.of_body Bd
  have e0 : s₁.heap = h0 := by rw [← hh, Bd.state]; rfl
  have N0 := Fr.nil n0
  have pre0 : ∀ t, Steps p.tables e below (s₁.setTop (mkF m 0 #[vi p0] [])) t → Steps p.tables e below (s₁.setTop (entryFrame m #[(.int p0)] 1)) t := fun t k => castTop (ef_1 m p0) k
  have sg1 : ∀ target, SS p e below s₁ (mkF m 6 #[vi p0] [(.int (3 : Int32)), (.int (p0 / (1000 : Int32)))]) target → SS p e below s₁ (mkF m 0 #[vi p0] []) target := by
    intro target kt
    show SS p e below s₁ (mkF m 0 #[vi p0] []) _
    refine XS.iloadN X0.here hx rfl (hb hby d2_0) rfl ?_
    show SS p e below s₁ (mkF m 1 #[vi p0] [(.int p0)]) _
    refine XS.sipush X0.here hx rfl (hb hby d2_1) ?_
    show SS p e below s₁ (mkF m 4 #[vi p0] [(.int (1000 : Int32)), (.int p0)]) _
    refine XS.idiv X0.here hx rfl (hb hby d2_4) rfl (by decide) ?_
    show SS p e below s₁ (mkF m 5 #[vi p0] [(.int (p0 / (1000 : Int32)))]) _
    refine XS.iconst X0.here hx rfl (hb hby d2_5) ?_
    exact kt
  by_cases hc6 : (p0 / (1000 : Int32)) = (3 : Int32)
  · obtain ⟨fs, hr, hrun, hended, hW, hsame⟩ := X0.leave (v := some (.int (nar .boolean (1 : Int32)))) (fun h => by rw [Bd.returns] at h; cases h)
    refine ⟨_, _, pre0 _ ?_, hrun, hended, _, _, rfl, ?_, ⟨_, rfl⟩, hW, hsame.mono (by decide) (by decide)⟩
    · refine sg1 _ ?_
      show SS p e below s₁ (mkF m 6 #[vi p0] [(.int (3 : Int32)), (.int (p0 / (1000 : Int32)))]) _
      refine XS.icmpNo X0.here hx rfl (hb hby d2_6) rfl (teq (hc6 : (p0 / (1000 : Int32)) = (3 : Int32))).2 ?_
      show SS p e below s₁ (mkF m 9 #[vi p0] []) _
      refine XS.iconst X0.here hx rfl (hb hby d2_9) ?_
      show SS p e below s₁ (mkF m 10 #[vi p0] [(.int (1 : Int32))]) _
      refine XS.goto X0.here hx rfl (pc0 := 10) (pc' := 14) rfl (hb hby d2_10) (by decide) (by decide) ?_
      show SS p e below s₁ (mkF m 14 #[vi p0] [(.int (1 : Int32))]) _
      exact retN X0 hx (t := .boolean) Bd.returns (by simp) (hb hby d2_14) hr
    · show Q_rm2 Z p0 h0 n0 _ s₁.heap _
      rw [e0]
      exact ⟨(by rw [own_three, if_pos hc6]; rfl), N0, rfl⟩
  · obtain ⟨fs, hr, hrun, hended, hW, hsame⟩ := X0.leave (v := some (.int (nar .boolean (0 : Int32)))) (fun h => by rw [Bd.returns] at h; cases h)
    refine ⟨_, _, pre0 _ ?_, hrun, hended, _, _, rfl, ?_, ⟨_, rfl⟩, hW, hsame.mono (by decide) (by decide)⟩
    · refine sg1 _ ?_
      show SS p e below s₁ (mkF m 6 #[vi p0] [(.int (3 : Int32)), (.int (p0 / (1000 : Int32)))]) _
      refine XS.icmpYes X0.here hx rfl (pc0 := 6) (pc' := 13) rfl (hb hby d2_6) rfl (feq (hc6 : ¬ ((p0 / (1000 : Int32)) = (3 : Int32)))).2 (by decide) (by decide) ?_
      show SS p e below s₁ (mkF m 13 #[vi p0] []) _
      refine XS.iconst X0.here hx rfl (hb hby d2_13) ?_
      show SS p e below s₁ (mkF m 14 #[vi p0] [(.int (0 : Int32))]) _
      exact retN X0 hx (t := .boolean) Bd.returns (by simp) (hb hby d2_14) hr
    · show Q_rm2 Z p0 h0 n0 _ s₁.heap _
      rw [e0]
      exact ⟨(by rw [own_three, if_neg hc6]; rfl), N0, rfl⟩
theorem ef_2 (m : MethodId) (x0 : Int32) (x1 : Int32) : entryFrame m #[(.int x0), (.int x1)] maxLocals = mkF m 0 #[vi x0, vi x1, uu, uu, uu, uu, uu, uu] [] := by first | (simp [entryFrame, mkF, argsToLocals, Value.category, maxLocals]; done) | rfl
theorem pd_0 : parseMethodDescriptor "(I)Z" = some ⟨[.int], some .boolean⟩ := by decide +kernel
def Q_rm0 (Z : State) (p0 : Int32) (p1 : Int32) (h0 : Heap) (n0 : Nat) (v : Option Value) (h : Heap) (L : List Loc) : Prop := (v = some (.int 1) ∧ Fr n0 L)
set_option maxRecDepth 65536 in
set_option maxHeartbeats 40000000 in
theorem rm0 (l : Launch) (Z : State) (a0 : Array Value) (hw : ∀ d ∈ tables_1, d.before a0 Z = true) (ws : List Jvm.Cond) (p0 : Int32) (p1 : Int32) (h0 : Heap) (n0 : Nat) (Z0 : n0 ≤ h0.size) :
    MetFree l x (head1 (Jvm.Cond.code x code maxLocals ret :: ws) room_1) (fun a U => a = #[(.int p0), (.int p1)] ∧ Z.Warmed39 U.vm ∧ U.heap = h0) (fun _ _ _ _ _ => True) (fun _ U o U' => ∃ v L, o = .returned v ∧ Q_rm0 Z p0 p1 h0 n0 v U'.heap L ∧ FrameEnd U o U' L room_1.cells room_1.slots) := by
  refine MetFree.of_bodySF (plainFor_of_name pn_1) hisR ?_
  intro p e s m args below meth c s₁ Bd hml0 hP hK
  obtain ⟨rfl, hZ, hh⟩ := hP
  have hx := Bd.exec
  have hby := Bd.bytes
  have hml : c.maxLocals = 8 := hml0
  have hown : s.vm.findClass "com/example/fast_rating/fastrating/diameter/ResultCodeIsProtocolErrorPinLaw" = some m.cls := findClass_of_methodNamed Bd.named
  have hnm := (name_of_methodNamed Bd.named Bd.method).1
  have X0 : Stand p l e room_1 s m #[(.int p0), (.int p1)] below meth c s₁ [] 0 0 := Stand.of_body Bd
  have e0 : s₁.heap = h0 := by rw [← hh, Bd.state]; rfl
  have N0 := Fr.nil n0
  have pre0 : ∀ t, Steps p.tables e below (s₁.setTop (mkF m 0 #[vi p0, vi p1, uu, uu, uu, uu, uu, uu] [])) t → Steps p.tables e below (s₁.setTop (entryFrame m #[(.int p0), (.int p1)] maxLocals)) t := fun t k => castTop (ef_2 m p0 p1) k
  obtain ⟨_, _, ⟨T1, L1, k1, n1⟩, -, X1, ⟨Lc1, hQ1, l1, y1, z1⟩, st1⟩ := Jvm.LawKit.callS X0 hx (y := (⟨"com/example/fast_rating/fastrating/diameter/ResultCode", "isProtocolError", "(I)Z"⟩ : MethodName)) hown (mvT hZ (wd hw 0 rfl)) (mvT hZ (wd hw 1 rfl)) (mvT hZ (wd hw 2 rfl)) (mvT hZ (wd hw 3 rfl)) (by decide) (backOf (W := 0) (rm1 l Z a0 hw [] p0 h0 n0 Z0) hZ (wd hw 3 rfl) (wd hw 2 rfl) (by decide) (by decide)) (g := (mkF m 17 #[vi p0, vi p1, vi ((2998 : Int32) + (p1 &&& (3 : Int32))), vi ((3998 : Int32) + (p1 &&& (3 : Int32))), uu, uu, uu, uu] [(.int p0)])) rfl (by rw [hml]; rfl) (argsL := [(.int p0)]) (rest := []) (lenOf pd_0 rfl) rfl (by show 2 * 0 + _ ≤ _; exact Nat.le_of_eq rfl) (hb hby at_17) (fun _ _ => ⟨rfl, e0, (by decide : 0 + 0 ≤ _), (by decide : 0 + 0 ≤ _)⟩)
  dsimp only [Pt.U, Pt.locs, Pt.cells, Pt.slots] at X1 l1 y1 z1 st1 hQ1
  subst l1 y1 z1
  obtain ⟨rfl, Nq1, eh1⟩ := hQ1
  have N1 := Fr.app N0 Nq1
  obtain ⟨_, _, ⟨T2, L2, k2, n2⟩, -, X2, ⟨Lc2, hQ2, l2, y2, z2⟩, st2⟩ := Jvm.LawKit.callS X1 hx (y := (⟨"com/example/fast_rating/fastrating/diameter/ResultCodeIsProtocolErrorPinLaw", "threeClass", "(I)Z"⟩ : MethodName)) hown (mvT hZ (wd hw 4 rfl)) (mvT hZ (wd hw 5 rfl)) (mvT hZ (wd hw 6 rfl)) (mvT hZ (wd hw 7 rfl)) (by decide) (backOf (W := 1) (rm2 l Z a0 hw [] p0 h0 n0 Z0) hZ (wd hw 7 rfl) (wd hw 6 rfl) (by decide) (by decide)) (g := (mkF m 21 #[vi p0, vi p1, vi ((2998 : Int32) + (p1 &&& (3 : Int32))), vi ((3998 : Int32) + (p1 &&& (3 : Int32))), uu, uu, uu, uu] [(.int p0), (.int (own_pe p0))])) rfl (by rw [hml]; rfl) (argsL := [(.int p0)]) (rest := [(.int (own_pe p0))]) (lenOf pd_0 rfl) rfl (by show 2 * 0 + _ ≤ _; exact Nat.le_of_eq rfl) (hb hby at_21) (fun _ _ => ⟨rfl, eh1, (by decide : 0 + 0 ≤ _), (by decide : 0 + 0 ≤ _)⟩)
  dsimp only [Pt.U, Pt.locs, Pt.cells, Pt.slots] at X2 l2 y2 z2 st2 hQ2
  subst l2 y2 z2
  obtain ⟨rfl, Nq2, eh2⟩ := hQ2
  have N2 := Fr.app N1 Nq2
  obtain ⟨_, _, ⟨T3, L3, k3, n3⟩, -, X3, ⟨Lc3, hQ3, l3, y3, z3⟩, st3⟩ := Jvm.LawKit.callS X2 hx (y := (⟨"com/example/fast_rating/fastrating/diameter/ResultCode", "isProtocolError", "(I)Z"⟩ : MethodName)) hown (mvT hZ (wd hw 0 rfl)) (mvT hZ (wd hw 1 rfl)) (mvT hZ (wd hw 2 rfl)) (mvT hZ (wd hw 3 rfl)) (by decide) (backOf (W := 0) (rm1 l Z a0 hw [] ((2998 : Int32) + (p1 &&& (3 : Int32))) h0 n0 Z0) hZ (wd hw 3 rfl) (wd hw 2 rfl) (by decide) (by decide)) (g := (mkF m 35 #[vi p0, vi p1, vi ((2998 : Int32) + (p1 &&& (3 : Int32))), vi ((3998 : Int32) + (p1 &&& (3 : Int32))), vi (1 : Int32), uu, uu, uu] [(.int ((2998 : Int32) + (p1 &&& (3 : Int32))))])) rfl (by rw [hml]; rfl) (argsL := [(.int ((2998 : Int32) + (p1 &&& (3 : Int32))))]) (rest := []) (lenOf pd_0 rfl) rfl (by show 2 * 0 + _ ≤ _; exact Nat.le_of_eq rfl) (hb hby at_35) (fun _ _ => ⟨rfl, eh2, (by decide : 0 + 0 ≤ _), (by decide : 0 + 0 ≤ _)⟩)
  dsimp only [Pt.U, Pt.locs, Pt.cells, Pt.slots] at X3 l3 y3 z3 st3 hQ3
  subst l3 y3 z3
  obtain ⟨rfl, Nq3, eh3⟩ := hQ3
  have N3 := Fr.app N2 Nq3
  obtain ⟨_, _, ⟨T4, L4, k4, n4⟩, -, X4, ⟨Lc4, hQ4, l4, y4, z4⟩, st4⟩ := Jvm.LawKit.callS X3 hx (y := (⟨"com/example/fast_rating/fastrating/diameter/ResultCodeIsProtocolErrorPinLaw", "threeClass", "(I)Z"⟩ : MethodName)) hown (mvT hZ (wd hw 4 rfl)) (mvT hZ (wd hw 5 rfl)) (mvT hZ (wd hw 6 rfl)) (mvT hZ (wd hw 7 rfl)) (by decide) (backOf (W := 1) (rm2 l Z a0 hw [] ((2998 : Int32) + (p1 &&& (3 : Int32))) h0 n0 Z0) hZ (wd hw 7 rfl) (wd hw 6 rfl) (by decide) (by decide)) (g := (mkF m 39 #[vi p0, vi p1, vi ((2998 : Int32) + (p1 &&& (3 : Int32))), vi ((3998 : Int32) + (p1 &&& (3 : Int32))), vi (1 : Int32), uu, uu, uu] [(.int ((2998 : Int32) + (p1 &&& (3 : Int32)))), (.int (own_pe ((2998 : Int32) + (p1 &&& (3 : Int32)))))])) rfl (by rw [hml]; rfl) (argsL := [(.int ((2998 : Int32) + (p1 &&& (3 : Int32))))]) (rest := [(.int (own_pe ((2998 : Int32) + (p1 &&& (3 : Int32)))))]) (lenOf pd_0 rfl) rfl (by show 2 * 0 + _ ≤ _; exact Nat.le_of_eq rfl) (hb hby at_39) (fun _ _ => ⟨rfl, eh3, (by decide : 0 + 0 ≤ _), (by decide : 0 + 0 ≤ _)⟩)
  dsimp only [Pt.U, Pt.locs, Pt.cells, Pt.slots] at X4 l4 y4 z4 st4 hQ4
  subst l4 y4 z4
  obtain ⟨rfl, Nq4, eh4⟩ := hQ4
  have N4 := Fr.app N3 Nq4
  obtain ⟨_, _, ⟨T5, L5, k5, n5⟩, -, X5, ⟨Lc5, hQ5, l5, y5, z5⟩, st5⟩ := Jvm.LawKit.callS X4 hx (y := (⟨"com/example/fast_rating/fastrating/diameter/ResultCode", "isProtocolError", "(I)Z"⟩ : MethodName)) hown (mvT hZ (wd hw 0 rfl)) (mvT hZ (wd hw 1 rfl)) (mvT hZ (wd hw 2 rfl)) (mvT hZ (wd hw 3 rfl)) (by decide) (backOf (W := 0) (rm1 l Z a0 hw [] ((3998 : Int32) + (p1 &&& (3 : Int32))) h0 n0 Z0) hZ (wd hw 3 rfl) (wd hw 2 rfl) (by decide) (by decide)) (g := (mkF m 53 #[vi p0, vi p1, vi ((2998 : Int32) + (p1 &&& (3 : Int32))), vi ((3998 : Int32) + (p1 &&& (3 : Int32))), vi (1 : Int32), vi (1 : Int32), uu, uu] [(.int ((3998 : Int32) + (p1 &&& (3 : Int32))))])) rfl (by rw [hml]; rfl) (argsL := [(.int ((3998 : Int32) + (p1 &&& (3 : Int32))))]) (rest := []) (lenOf pd_0 rfl) rfl (by show 2 * 0 + _ ≤ _; exact Nat.le_of_eq rfl) (hb hby at_53) (fun _ _ => ⟨rfl, eh4, (by decide : 0 + 0 ≤ _), (by decide : 0 + 0 ≤ _)⟩)
  dsimp only [Pt.U, Pt.locs, Pt.cells, Pt.slots] at X5 l5 y5 z5 st5 hQ5
  subst l5 y5 z5
  obtain ⟨rfl, Nq5, eh5⟩ := hQ5
  have N5 := Fr.app N4 Nq5
  obtain ⟨_, _, ⟨T6, L6, k6, n6⟩, -, X6, ⟨Lc6, hQ6, l6, y6, z6⟩, st6⟩ := Jvm.LawKit.callS X5 hx (y := (⟨"com/example/fast_rating/fastrating/diameter/ResultCodeIsProtocolErrorPinLaw", "threeClass", "(I)Z"⟩ : MethodName)) hown (mvT hZ (wd hw 4 rfl)) (mvT hZ (wd hw 5 rfl)) (mvT hZ (wd hw 6 rfl)) (mvT hZ (wd hw 7 rfl)) (by decide) (backOf (W := 1) (rm2 l Z a0 hw [] ((3998 : Int32) + (p1 &&& (3 : Int32))) h0 n0 Z0) hZ (wd hw 7 rfl) (wd hw 6 rfl) (by decide) (by decide)) (g := (mkF m 57 #[vi p0, vi p1, vi ((2998 : Int32) + (p1 &&& (3 : Int32))), vi ((3998 : Int32) + (p1 &&& (3 : Int32))), vi (1 : Int32), vi (1 : Int32), uu, uu] [(.int ((3998 : Int32) + (p1 &&& (3 : Int32)))), (.int (own_pe ((3998 : Int32) + (p1 &&& (3 : Int32)))))])) rfl (by rw [hml]; rfl) (argsL := [(.int ((3998 : Int32) + (p1 &&& (3 : Int32))))]) (rest := [(.int (own_pe ((3998 : Int32) + (p1 &&& (3 : Int32)))))]) (lenOf pd_0 rfl) rfl (by show 2 * 0 + _ ≤ _; exact Nat.le_of_eq rfl) (hb hby at_57) (fun _ _ => ⟨rfl, eh5, (by decide : 0 + 0 ≤ _), (by decide : 0 + 0 ≤ _)⟩)
  dsimp only [Pt.U, Pt.locs, Pt.cells, Pt.slots] at X6 l6 y6 z6 st6 hQ6
  subst l6 y6 z6
  obtain ⟨rfl, Nq6, eh6⟩ := hQ6
  have N6 := Fr.app N5 Nq6
  obtain ⟨_, _, ⟨T7, L7, k7, n7⟩, -, X7, ⟨Lc7, hQ7, l7, y7, z7⟩, st7⟩ := Jvm.LawKit.callS X6 hx (y := (⟨"com/example/fast_rating/fastrating/diameter/ResultCode", "isProtocolError", "(I)Z"⟩ : MethodName)) hown (mvT hZ (wd hw 0 rfl)) (mvT hZ (wd hw 1 rfl)) (mvT hZ (wd hw 2 rfl)) (mvT hZ (wd hw 3 rfl)) (by decide) (backOf (W := 0) (rm1 l Z a0 hw [] (3001 : Int32) h0 n0 Z0) hZ (wd hw 3 rfl) (wd hw 2 rfl) (by decide) (by decide)) (g := (mkF m 73 #[vi p0, vi p1, vi ((2998 : Int32) + (p1 &&& (3 : Int32))), vi ((3998 : Int32) + (p1 &&& (3 : Int32))), vi (1 : Int32), vi (1 : Int32), vi (1 : Int32), uu] [(.int (3001 : Int32))])) rfl (by rw [hml]; rfl) (argsL := [(.int (3001 : Int32))]) (rest := []) (lenOf pd_0 rfl) rfl (by show 2 * 0 + _ ≤ _; exact Nat.le_of_eq rfl) (hb hby at_73) (fun _ _ => ⟨rfl, eh6, (by decide : 0 + 0 ≤ _), (by decide : 0 + 0 ≤ _)⟩)
  dsimp only [Pt.U, Pt.locs, Pt.cells, Pt.slots] at X7 l7 y7 z7 st7 hQ7
  subst l7 y7 z7
  obtain ⟨rfl, Nq7, eh7⟩ := hQ7
  have N7 := Fr.app N6 Nq7
  obtain ⟨_, _, ⟨T8, L8, k8, n8⟩, -, X8, ⟨Lc8, hQ8, l8, y8, z8⟩, st8⟩ := Jvm.LawKit.callS X7 hx (y := (⟨"com/example/fast_rating/fastrating/diameter/ResultCode", "isProtocolError", "(I)Z"⟩ : MethodName)) hown (mvT hZ (wd hw 0 rfl)) (mvT hZ (wd hw 1 rfl)) (mvT hZ (wd hw 2 rfl)) (mvT hZ (wd hw 3 rfl)) (by decide) (backOf (W := 0) (rm1 l Z a0 hw [] (2001 : Int32) h0 n0 Z0) hZ (wd hw 3 rfl) (wd hw 2 rfl) (by decide) (by decide)) (g := (mkF m 82 #[vi p0, vi p1, vi ((2998 : Int32) + (p1 &&& (3 : Int32))), vi ((3998 : Int32) + (p1 &&& (3 : Int32))), vi (1 : Int32), vi (1 : Int32), vi (1 : Int32), uu] [(.int (2001 : Int32))])) rfl (by rw [hml]; rfl) (argsL := [(.int (2001 : Int32))]) (rest := []) (lenOf pd_0 rfl) rfl (by show 2 * 0 + _ ≤ _; exact Nat.le_of_eq rfl) (hb hby at_82) (fun _ _ => ⟨rfl, eh7, (by decide : 0 + 0 ≤ _), (by decide : 0 + 0 ≤ _)⟩)
  dsimp only [Pt.U, Pt.locs, Pt.cells, Pt.slots] at X8 l8 y8 z8 st8 hQ8
  subst l8 y8 z8
  obtain ⟨rfl, Nq8, eh8⟩ := hQ8
  have N8 := Fr.app N7 Nq8
  obtain ⟨_, _, ⟨T9, L9, k9, n9⟩, -, X9, ⟨Lc9, hQ9, l9, y9, z9⟩, st9⟩ := Jvm.LawKit.callS X8 hx (y := (⟨"com/example/fast_rating/fastrating/diameter/ResultCode", "isProtocolError", "(I)Z"⟩ : MethodName)) hown (mvT hZ (wd hw 0 rfl)) (mvT hZ (wd hw 1 rfl)) (mvT hZ (wd hw 2 rfl)) (mvT hZ (wd hw 3 rfl)) (by decide) (backOf (W := 0) (rm1 l Z a0 hw [] (5001 : Int32) h0 n0 Z0) hZ (wd hw 3 rfl) (wd hw 2 rfl) (by decide) (by decide)) (g := (mkF m 91 #[vi p0, vi p1, vi ((2998 : Int32) + (p1 &&& (3 : Int32))), vi ((3998 : Int32) + (p1 &&& (3 : Int32))), vi (1 : Int32), vi (1 : Int32), vi (1 : Int32), uu] [(.int (5001 : Int32))])) rfl (by rw [hml]; rfl) (argsL := [(.int (5001 : Int32))]) (rest := []) (lenOf pd_0 rfl) rfl (by show 2 * 0 + _ ≤ _; exact Nat.le_of_eq rfl) (hb hby at_91) (fun _ _ => ⟨rfl, eh8, (by decide : 0 + 0 ≤ _), (by decide : 0 + 0 ≤ _)⟩)
  dsimp only [Pt.U, Pt.locs, Pt.cells, Pt.slots] at X9 l9 y9 z9 st9 hQ9
  subst l9 y9 z9
  obtain ⟨rfl, Nq9, eh9⟩ := hQ9
  have N9 := Fr.app N8 Nq9
  obtain ⟨fs, hr, hrun, hended, hW, hsame⟩ := X9.leave (v := some (.int (nar .boolean (1 : Int32)))) (fun h => by rw [Bd.returns] at h; cases h)
  refine ⟨_, _, pre0 _ ?_, hrun, hended, _, _, rfl, ?_, ⟨_, rfl⟩, hW, hsame.mono (by decide) (by decide)⟩
  · show SS p e below s₁ (mkF m 0 #[vi p0, vi p1, uu, uu, uu, uu, uu, uu] []) _
    refine XS.sipush X0.here hx rfl (hb hby at_0) ?_
    show SS p e below s₁ (mkF m 3 #[vi p0, vi p1, uu, uu, uu, uu, uu, uu] [(.int (2998 : Int32))]) _
    refine XS.iloadN X0.here hx rfl (hb hby at_3) rfl ?_
    show SS p e below s₁ (mkF m 4 #[vi p0, vi p1, uu, uu, uu, uu, uu, uu] [(.int p1), (.int (2998 : Int32))]) _
    refine XS.iconst X0.here hx rfl (hb hby at_4) ?_
    show SS p e below s₁ (mkF m 5 #[vi p0, vi p1, uu, uu, uu, uu, uu, uu] [(.int (3 : Int32)), (.int p1), (.int (2998 : Int32))]) _
    refine XS.iand X0.here hx rfl (hb hby at_5) rfl ?_
    show SS p e below s₁ (mkF m 6 #[vi p0, vi p1, uu, uu, uu, uu, uu, uu] [(.int (p1 &&& (3 : Int32))), (.int (2998 : Int32))]) _
    refine XS.iadd X0.here hx rfl (hb hby at_6) rfl ?_
    show SS p e below s₁ (mkF m 7 #[vi p0, vi p1, uu, uu, uu, uu, uu, uu] [(.int ((2998 : Int32) + (p1 &&& (3 : Int32))))]) _
    refine XS.istoreN X0.here hx rfl (hb hby at_7) rfl (l' := #[vi p0, vi p1, vi ((2998 : Int32) + (p1 &&& (3 : Int32))), uu, uu, uu, uu, uu]) rfl ?_
    show SS p e below s₁ (mkF m 8 #[vi p0, vi p1, vi ((2998 : Int32) + (p1 &&& (3 : Int32))), uu, uu, uu, uu, uu] []) _
    refine XS.sipush X0.here hx rfl (hb hby at_8) ?_
    show SS p e below s₁ (mkF m 11 #[vi p0, vi p1, vi ((2998 : Int32) + (p1 &&& (3 : Int32))), uu, uu, uu, uu, uu] [(.int (3998 : Int32))]) _
    refine XS.iloadN X0.here hx rfl (hb hby at_11) rfl ?_
    show SS p e below s₁ (mkF m 12 #[vi p0, vi p1, vi ((2998 : Int32) + (p1 &&& (3 : Int32))), uu, uu, uu, uu, uu] [(.int p1), (.int (3998 : Int32))]) _
    refine XS.iconst X0.here hx rfl (hb hby at_12) ?_
    show SS p e below s₁ (mkF m 13 #[vi p0, vi p1, vi ((2998 : Int32) + (p1 &&& (3 : Int32))), uu, uu, uu, uu, uu] [(.int (3 : Int32)), (.int p1), (.int (3998 : Int32))]) _
    refine XS.iand X0.here hx rfl (hb hby at_13) rfl ?_
    show SS p e below s₁ (mkF m 14 #[vi p0, vi p1, vi ((2998 : Int32) + (p1 &&& (3 : Int32))), uu, uu, uu, uu, uu] [(.int (p1 &&& (3 : Int32))), (.int (3998 : Int32))]) _
    refine XS.iadd X0.here hx rfl (hb hby at_14) rfl ?_
    show SS p e below s₁ (mkF m 15 #[vi p0, vi p1, vi ((2998 : Int32) + (p1 &&& (3 : Int32))), uu, uu, uu, uu, uu] [(.int ((3998 : Int32) + (p1 &&& (3 : Int32))))]) _
    refine XS.istoreN X0.here hx rfl (hb hby at_15) rfl (l' := #[vi p0, vi p1, vi ((2998 : Int32) + (p1 &&& (3 : Int32))), vi ((3998 : Int32) + (p1 &&& (3 : Int32))), uu, uu, uu, uu]) rfl ?_
    show SS p e below s₁ (mkF m 16 #[vi p0, vi p1, vi ((2998 : Int32) + (p1 &&& (3 : Int32))), vi ((3998 : Int32) + (p1 &&& (3 : Int32))), uu, uu, uu, uu] []) _
    refine XS.iloadN X0.here hx rfl (hb hby at_16) rfl ?_
    show SS p e below s₁ (mkF m 17 #[vi p0, vi p1, vi ((2998 : Int32) + (p1 &&& (3 : Int32))), vi ((3998 : Int32) + (p1 &&& (3 : Int32))), uu, uu, uu, uu] [(.int p0)]) _
    refine st1 _ ?_
    show SS p e below T1 (mkF m 20 #[vi p0, vi p1, vi ((2998 : Int32) + (p1 &&& (3 : Int32))), vi ((3998 : Int32) + (p1 &&& (3 : Int32))), uu, uu, uu, uu] [(.int (own_pe p0))]) _
    refine XS.iloadN X1.here hx rfl (hb hby at_20) rfl ?_
    show SS p e below T1 (mkF m 21 #[vi p0, vi p1, vi ((2998 : Int32) + (p1 &&& (3 : Int32))), vi ((3998 : Int32) + (p1 &&& (3 : Int32))), uu, uu, uu, uu] [(.int p0), (.int (own_pe p0))]) _
    refine st2 _ ?_
    show SS p e below T2 (mkF m 24 #[vi p0, vi p1, vi ((2998 : Int32) + (p1 &&& (3 : Int32))), vi ((3998 : Int32) + (p1 &&& (3 : Int32))), uu, uu, uu, uu] [(.int (own_three p0)), (.int (own_pe p0))]) _
    refine XS.icmpNo X2.here hx rfl (hb hby at_24) rfl (teq (own_eq _ : (own_pe p0) = (own_three p0))).2 ?_
    show SS p e below T2 (mkF m 27 #[vi p0, vi p1, vi ((2998 : Int32) + (p1 &&& (3 : Int32))), vi ((3998 : Int32) + (p1 &&& (3 : Int32))), uu, uu, uu, uu] []) _
    refine XS.iconst X2.here hx rfl (hb hby at_27) ?_
    show SS p e below T2 (mkF m 28 #[vi p0, vi p1, vi ((2998 : Int32) + (p1 &&& (3 : Int32))), vi ((3998 : Int32) + (p1 &&& (3 : Int32))), uu, uu, uu, uu] [(.int (1 : Int32))]) _
    refine XS.goto X2.here hx rfl (pc0 := 28) (pc' := 32) rfl (hb hby at_28) (by decide) (by decide) ?_
    show SS p e below T2 (mkF m 32 #[vi p0, vi p1, vi ((2998 : Int32) + (p1 &&& (3 : Int32))), vi ((3998 : Int32) + (p1 &&& (3 : Int32))), uu, uu, uu, uu] [(.int (1 : Int32))]) _
    refine XS.istore X2.here hx rfl (hb hby at_32) rfl (l' := #[vi p0, vi p1, vi ((2998 : Int32) + (p1 &&& (3 : Int32))), vi ((3998 : Int32) + (p1 &&& (3 : Int32))), vi (1 : Int32), uu, uu, uu]) rfl ?_
    show SS p e below T2 (mkF m 34 #[vi p0, vi p1, vi ((2998 : Int32) + (p1 &&& (3 : Int32))), vi ((3998 : Int32) + (p1 &&& (3 : Int32))), vi (1 : Int32), uu, uu, uu] []) _
    refine XS.iloadN X2.here hx rfl (hb hby at_34) rfl ?_
    show SS p e below T2 (mkF m 35 #[vi p0, vi p1, vi ((2998 : Int32) + (p1 &&& (3 : Int32))), vi ((3998 : Int32) + (p1 &&& (3 : Int32))), vi (1 : Int32), uu, uu, uu] [(.int ((2998 : Int32) + (p1 &&& (3 : Int32))))]) _
    refine st3 _ ?_
    show SS p e below T3 (mkF m 38 #[vi p0, vi p1, vi ((2998 : Int32) + (p1 &&& (3 : Int32))), vi ((3998 : Int32) + (p1 &&& (3 : Int32))), vi (1 : Int32), uu, uu, uu] [(.int (own_pe ((2998 : Int32) + (p1 &&& (3 : Int32)))))]) _
    refine XS.iloadN X3.here hx rfl (hb hby at_38) rfl ?_
    show SS p e below T3 (mkF m 39 #[vi p0, vi p1, vi ((2998 : Int32) + (p1 &&& (3 : Int32))), vi ((3998 : Int32) + (p1 &&& (3 : Int32))), vi (1 : Int32), uu, uu, uu] [(.int ((2998 : Int32) + (p1 &&& (3 : Int32)))), (.int (own_pe ((2998 : Int32) + (p1 &&& (3 : Int32)))))]) _
    refine st4 _ ?_
    show SS p e below T4 (mkF m 42 #[vi p0, vi p1, vi ((2998 : Int32) + (p1 &&& (3 : Int32))), vi ((3998 : Int32) + (p1 &&& (3 : Int32))), vi (1 : Int32), uu, uu, uu] [(.int (own_three ((2998 : Int32) + (p1 &&& (3 : Int32))))), (.int (own_pe ((2998 : Int32) + (p1 &&& (3 : Int32)))))]) _
    refine XS.icmpNo X4.here hx rfl (hb hby at_42) rfl (teq (own_eq _ : (own_pe ((2998 : Int32) + (p1 &&& (3 : Int32)))) = (own_three ((2998 : Int32) + (p1 &&& (3 : Int32)))))).2 ?_
    show SS p e below T4 (mkF m 45 #[vi p0, vi p1, vi ((2998 : Int32) + (p1 &&& (3 : Int32))), vi ((3998 : Int32) + (p1 &&& (3 : Int32))), vi (1 : Int32), uu, uu, uu] []) _
    refine XS.iconst X4.here hx rfl (hb hby at_45) ?_
    show SS p e below T4 (mkF m 46 #[vi p0, vi p1, vi ((2998 : Int32) + (p1 &&& (3 : Int32))), vi ((3998 : Int32) + (p1 &&& (3 : Int32))), vi (1 : Int32), uu, uu, uu] [(.int (1 : Int32))]) _
    refine XS.goto X4.here hx rfl (pc0 := 46) (pc' := 50) rfl (hb hby at_46) (by decide) (by decide) ?_
    show SS p e below T4 (mkF m 50 #[vi p0, vi p1, vi ((2998 : Int32) + (p1 &&& (3 : Int32))), vi ((3998 : Int32) + (p1 &&& (3 : Int32))), vi (1 : Int32), uu, uu, uu] [(.int (1 : Int32))]) _
    refine XS.istore X4.here hx rfl (hb hby at_50) rfl (l' := #[vi p0, vi p1, vi ((2998 : Int32) + (p1 &&& (3 : Int32))), vi ((3998 : Int32) + (p1 &&& (3 : Int32))), vi (1 : Int32), vi (1 : Int32), uu, uu]) rfl ?_
    show SS p e below T4 (mkF m 52 #[vi p0, vi p1, vi ((2998 : Int32) + (p1 &&& (3 : Int32))), vi ((3998 : Int32) + (p1 &&& (3 : Int32))), vi (1 : Int32), vi (1 : Int32), uu, uu] []) _
    refine XS.iloadN X4.here hx rfl (hb hby at_52) rfl ?_
    show SS p e below T4 (mkF m 53 #[vi p0, vi p1, vi ((2998 : Int32) + (p1 &&& (3 : Int32))), vi ((3998 : Int32) + (p1 &&& (3 : Int32))), vi (1 : Int32), vi (1 : Int32), uu, uu] [(.int ((3998 : Int32) + (p1 &&& (3 : Int32))))]) _
    refine st5 _ ?_
    show SS p e below T5 (mkF m 56 #[vi p0, vi p1, vi ((2998 : Int32) + (p1 &&& (3 : Int32))), vi ((3998 : Int32) + (p1 &&& (3 : Int32))), vi (1 : Int32), vi (1 : Int32), uu, uu] [(.int (own_pe ((3998 : Int32) + (p1 &&& (3 : Int32)))))]) _
    refine XS.iloadN X5.here hx rfl (hb hby at_56) rfl ?_
    show SS p e below T5 (mkF m 57 #[vi p0, vi p1, vi ((2998 : Int32) + (p1 &&& (3 : Int32))), vi ((3998 : Int32) + (p1 &&& (3 : Int32))), vi (1 : Int32), vi (1 : Int32), uu, uu] [(.int ((3998 : Int32) + (p1 &&& (3 : Int32)))), (.int (own_pe ((3998 : Int32) + (p1 &&& (3 : Int32)))))]) _
    refine st6 _ ?_
    show SS p e below T6 (mkF m 60 #[vi p0, vi p1, vi ((2998 : Int32) + (p1 &&& (3 : Int32))), vi ((3998 : Int32) + (p1 &&& (3 : Int32))), vi (1 : Int32), vi (1 : Int32), uu, uu] [(.int (own_three ((3998 : Int32) + (p1 &&& (3 : Int32))))), (.int (own_pe ((3998 : Int32) + (p1 &&& (3 : Int32)))))]) _
    refine XS.icmpNo X6.here hx rfl (hb hby at_60) rfl (teq (own_eq _ : (own_pe ((3998 : Int32) + (p1 &&& (3 : Int32)))) = (own_three ((3998 : Int32) + (p1 &&& (3 : Int32)))))).2 ?_
    show SS p e below T6 (mkF m 63 #[vi p0, vi p1, vi ((2998 : Int32) + (p1 &&& (3 : Int32))), vi ((3998 : Int32) + (p1 &&& (3 : Int32))), vi (1 : Int32), vi (1 : Int32), uu, uu] []) _
    refine XS.iconst X6.here hx rfl (hb hby at_63) ?_
    show SS p e below T6 (mkF m 64 #[vi p0, vi p1, vi ((2998 : Int32) + (p1 &&& (3 : Int32))), vi ((3998 : Int32) + (p1 &&& (3 : Int32))), vi (1 : Int32), vi (1 : Int32), uu, uu] [(.int (1 : Int32))]) _
    refine XS.goto X6.here hx rfl (pc0 := 64) (pc' := 68) rfl (hb hby at_64) (by decide) (by decide) ?_
    show SS p e below T6 (mkF m 68 #[vi p0, vi p1, vi ((2998 : Int32) + (p1 &&& (3 : Int32))), vi ((3998 : Int32) + (p1 &&& (3 : Int32))), vi (1 : Int32), vi (1 : Int32), uu, uu] [(.int (1 : Int32))]) _
    refine XS.istore X6.here hx rfl (hb hby at_68) rfl (l' := #[vi p0, vi p1, vi ((2998 : Int32) + (p1 &&& (3 : Int32))), vi ((3998 : Int32) + (p1 &&& (3 : Int32))), vi (1 : Int32), vi (1 : Int32), vi (1 : Int32), uu]) rfl ?_
    show SS p e below T6 (mkF m 70 #[vi p0, vi p1, vi ((2998 : Int32) + (p1 &&& (3 : Int32))), vi ((3998 : Int32) + (p1 &&& (3 : Int32))), vi (1 : Int32), vi (1 : Int32), vi (1 : Int32), uu] []) _
    refine XS.sipush X6.here hx rfl (hb hby at_70) ?_
    show SS p e below T6 (mkF m 73 #[vi p0, vi p1, vi ((2998 : Int32) + (p1 &&& (3 : Int32))), vi ((3998 : Int32) + (p1 &&& (3 : Int32))), vi (1 : Int32), vi (1 : Int32), vi (1 : Int32), uu] [(.int (3001 : Int32))]) _
    refine st7 _ ?_
    show SS p e below T7 (mkF m 76 #[vi p0, vi p1, vi ((2998 : Int32) + (p1 &&& (3 : Int32))), vi ((3998 : Int32) + (p1 &&& (3 : Int32))), vi (1 : Int32), vi (1 : Int32), vi (1 : Int32), uu] [(.int (own_pe (3001 : Int32)))]) _
    refine XS.ifNo X7.here hx rfl (hb hby at_76) rfl ((if0 _ _).trans (feq (by decide : ¬ ((own_pe (3001 : Int32)) = (0 : Int32)))).1) ?_
    show SS p e below T7 (mkF m 79 #[vi p0, vi p1, vi ((2998 : Int32) + (p1 &&& (3 : Int32))), vi ((3998 : Int32) + (p1 &&& (3 : Int32))), vi (1 : Int32), vi (1 : Int32), vi (1 : Int32), uu] []) _
    refine XS.sipush X7.here hx rfl (hb hby at_79) ?_
    show SS p e below T7 (mkF m 82 #[vi p0, vi p1, vi ((2998 : Int32) + (p1 &&& (3 : Int32))), vi ((3998 : Int32) + (p1 &&& (3 : Int32))), vi (1 : Int32), vi (1 : Int32), vi (1 : Int32), uu] [(.int (2001 : Int32))]) _
    refine st8 _ ?_
    show SS p e below T8 (mkF m 85 #[vi p0, vi p1, vi ((2998 : Int32) + (p1 &&& (3 : Int32))), vi ((3998 : Int32) + (p1 &&& (3 : Int32))), vi (1 : Int32), vi (1 : Int32), vi (1 : Int32), uu] [(.int (own_pe (2001 : Int32)))]) _
    refine XS.ifNo X8.here hx rfl (hb hby at_85) rfl ((if0 _ _).trans (teq (by decide : (own_pe (2001 : Int32)) = (0 : Int32))).2) ?_
    show SS p e below T8 (mkF m 88 #[vi p0, vi p1, vi ((2998 : Int32) + (p1 &&& (3 : Int32))), vi ((3998 : Int32) + (p1 &&& (3 : Int32))), vi (1 : Int32), vi (1 : Int32), vi (1 : Int32), uu] []) _
    refine XS.sipush X8.here hx rfl (hb hby at_88) ?_
    show SS p e below T8 (mkF m 91 #[vi p0, vi p1, vi ((2998 : Int32) + (p1 &&& (3 : Int32))), vi ((3998 : Int32) + (p1 &&& (3 : Int32))), vi (1 : Int32), vi (1 : Int32), vi (1 : Int32), uu] [(.int (5001 : Int32))]) _
    refine st9 _ ?_
    show SS p e below T9 (mkF m 94 #[vi p0, vi p1, vi ((2998 : Int32) + (p1 &&& (3 : Int32))), vi ((3998 : Int32) + (p1 &&& (3 : Int32))), vi (1 : Int32), vi (1 : Int32), vi (1 : Int32), uu] [(.int (own_pe (5001 : Int32)))]) _
    refine XS.ifNo X9.here hx rfl (hb hby at_94) rfl ((if0 _ _).trans (teq (by decide : (own_pe (5001 : Int32)) = (0 : Int32))).2) ?_
    show SS p e below T9 (mkF m 97 #[vi p0, vi p1, vi ((2998 : Int32) + (p1 &&& (3 : Int32))), vi ((3998 : Int32) + (p1 &&& (3 : Int32))), vi (1 : Int32), vi (1 : Int32), vi (1 : Int32), uu] []) _
    refine XS.iconst X9.here hx rfl (hb hby at_97) ?_
    show SS p e below T9 (mkF m 98 #[vi p0, vi p1, vi ((2998 : Int32) + (p1 &&& (3 : Int32))), vi ((3998 : Int32) + (p1 &&& (3 : Int32))), vi (1 : Int32), vi (1 : Int32), vi (1 : Int32), uu] [(.int (1 : Int32))]) _
    refine XS.goto X9.here hx rfl (pc0 := 98) (pc' := 102) rfl (hb hby at_98) (by decide) (by decide) ?_
    show SS p e below T9 (mkF m 102 #[vi p0, vi p1, vi ((2998 : Int32) + (p1 &&& (3 : Int32))), vi ((3998 : Int32) + (p1 &&& (3 : Int32))), vi (1 : Int32), vi (1 : Int32), vi (1 : Int32), uu] [(.int (1 : Int32))]) _
    refine XS.istore X9.here hx rfl (hb hby at_102) rfl (l' := #[vi p0, vi p1, vi ((2998 : Int32) + (p1 &&& (3 : Int32))), vi ((3998 : Int32) + (p1 &&& (3 : Int32))), vi (1 : Int32), vi (1 : Int32), vi (1 : Int32), vi (1 : Int32)]) rfl ?_
    show SS p e below T9 (mkF m 104 #[vi p0, vi p1, vi ((2998 : Int32) + (p1 &&& (3 : Int32))), vi ((3998 : Int32) + (p1 &&& (3 : Int32))), vi (1 : Int32), vi (1 : Int32), vi (1 : Int32), vi (1 : Int32)] []) _
    refine XS.iload X9.here hx rfl (hb hby at_104) rfl ?_
    show SS p e below T9 (mkF m 106 #[vi p0, vi p1, vi ((2998 : Int32) + (p1 &&& (3 : Int32))), vi ((3998 : Int32) + (p1 &&& (3 : Int32))), vi (1 : Int32), vi (1 : Int32), vi (1 : Int32), vi (1 : Int32)] [(.int (1 : Int32))]) _
    refine XS.ifNo X9.here hx rfl (hb hby at_106) rfl ((if0 _ _).trans (feq (by decide : ¬ ((1 : Int32) = (0 : Int32)))).1) ?_
    show SS p e below T9 (mkF m 109 #[vi p0, vi p1, vi ((2998 : Int32) + (p1 &&& (3 : Int32))), vi ((3998 : Int32) + (p1 &&& (3 : Int32))), vi (1 : Int32), vi (1 : Int32), vi (1 : Int32), vi (1 : Int32)] []) _
    refine XS.iload X9.here hx rfl (hb hby at_109) rfl ?_
    show SS p e below T9 (mkF m 111 #[vi p0, vi p1, vi ((2998 : Int32) + (p1 &&& (3 : Int32))), vi ((3998 : Int32) + (p1 &&& (3 : Int32))), vi (1 : Int32), vi (1 : Int32), vi (1 : Int32), vi (1 : Int32)] [(.int (1 : Int32))]) _
    refine XS.ifNo X9.here hx rfl (hb hby at_111) rfl ((if0 _ _).trans (feq (by decide : ¬ ((1 : Int32) = (0 : Int32)))).1) ?_
    show SS p e below T9 (mkF m 114 #[vi p0, vi p1, vi ((2998 : Int32) + (p1 &&& (3 : Int32))), vi ((3998 : Int32) + (p1 &&& (3 : Int32))), vi (1 : Int32), vi (1 : Int32), vi (1 : Int32), vi (1 : Int32)] []) _
    refine XS.iload X9.here hx rfl (hb hby at_114) rfl ?_
    show SS p e below T9 (mkF m 116 #[vi p0, vi p1, vi ((2998 : Int32) + (p1 &&& (3 : Int32))), vi ((3998 : Int32) + (p1 &&& (3 : Int32))), vi (1 : Int32), vi (1 : Int32), vi (1 : Int32), vi (1 : Int32)] [(.int (1 : Int32))]) _
    refine XS.ifNo X9.here hx rfl (hb hby at_116) rfl ((if0 _ _).trans (feq (by decide : ¬ ((1 : Int32) = (0 : Int32)))).1) ?_
    show SS p e below T9 (mkF m 119 #[vi p0, vi p1, vi ((2998 : Int32) + (p1 &&& (3 : Int32))), vi ((3998 : Int32) + (p1 &&& (3 : Int32))), vi (1 : Int32), vi (1 : Int32), vi (1 : Int32), vi (1 : Int32)] []) _
    refine XS.iload X9.here hx rfl (hb hby at_119) rfl ?_
    show SS p e below T9 (mkF m 121 #[vi p0, vi p1, vi ((2998 : Int32) + (p1 &&& (3 : Int32))), vi ((3998 : Int32) + (p1 &&& (3 : Int32))), vi (1 : Int32), vi (1 : Int32), vi (1 : Int32), vi (1 : Int32)] [(.int (1 : Int32))]) _
    refine XS.ifNo X9.here hx rfl (hb hby at_121) rfl ((if0 _ _).trans (feq (by decide : ¬ ((1 : Int32) = (0 : Int32)))).1) ?_
    show SS p e below T9 (mkF m 124 #[vi p0, vi p1, vi ((2998 : Int32) + (p1 &&& (3 : Int32))), vi ((3998 : Int32) + (p1 &&& (3 : Int32))), vi (1 : Int32), vi (1 : Int32), vi (1 : Int32), vi (1 : Int32)] []) _
    refine XS.iconst X9.here hx rfl (hb hby at_124) ?_
    show SS p e below T9 (mkF m 125 #[vi p0, vi p1, vi ((2998 : Int32) + (p1 &&& (3 : Int32))), vi ((3998 : Int32) + (p1 &&& (3 : Int32))), vi (1 : Int32), vi (1 : Int32), vi (1 : Int32), vi (1 : Int32)] [(.int (1 : Int32))]) _
    refine XS.goto X9.here hx rfl (pc0 := 125) (pc' := 129) rfl (hb hby at_125) (by decide) (by decide) ?_
    show SS p e below T9 (mkF m 129 #[vi p0, vi p1, vi ((2998 : Int32) + (p1 &&& (3 : Int32))), vi ((3998 : Int32) + (p1 &&& (3 : Int32))), vi (1 : Int32), vi (1 : Int32), vi (1 : Int32), vi (1 : Int32)] [(.int (1 : Int32))]) _
    exact retN X9 hx (t := .boolean) Bd.returns (by simp) (hb hby at_129) hr
  · show Q_rm0 Z p0 p1 h0 n0 _ T9.heap _
    rw [eh9]
    exact ⟨rfl, N9⟩
set_option maxRecDepth 65536 in
set_option maxHeartbeats 40000000 in
theorem comes_1 {Post : Tables → Env → Array Value → State → Outcome → State → Prop} (hpost : ∀ tb e args s v u, (limb_1_1.after args s (.returned v) u = true ∧ limb_1_2.after args s (.returned v) u = true ∧ True) → FrameEnd s (.returned v) u (Jvm.fieldLocs frame_1_writes args s ++ Jvm.arrayLocs frame_1_arrays args s ++ Jvm.staticLocs frame_1_statics s) 0 0 → Post tb e args s (.returned v) u) :
    ArmFor flags0 classFile x code maxLocals ret World_1 tables_1 room_1 Calls_1 rest_1 Pre_1 Post := by
  intro l hfl _ _ p e ha hc hk s m args below hf hA hF happ hP
  obtain ⟨hcalls, hrest, hpre⟩ := hP
  obtain ⟨-, -, -, hnamed, -, -, -, hat⟩ := (Spec.applies_iff hf).mp happ
  obtain ⟨hg, hn⟩ := and_e (Cond.before_iff.mp (show (Jvm.Cond.and given_1 narrow_1).before args s = true from hpre))
  obtain ⟨g1, g2⟩ := and_e hg
  obtain ⟨g3, g4⟩ := and_e g2
  obtain ⟨w0, w1, rfl⟩ : ∃ w0 w1 : Value, args = #[w0, w1] := by
    have hs : args.size = 2 := by simpa [Cond.value, given_1] using g1
    obtain ⟨L⟩ := args
    match L, hs with
    | [w0, w1], _ => exact ⟨w0, w1, rfl⟩
  have hw := fun d (hd : d ∈ tables_1) => atoms_spec (ws := Jvm.Cond.code x code maxLocals ret :: tables_1) hat d (List.mem_cons_of_mem _ hd)
  have hfit : Fit s := fun {y c} hc i hi => by
    obtain ⟨ha, rfl⟩ := Array.getElem?_eq_some_iff.mp hc
    have q := List.all_eq_true.mp ((Array.all_eq_true_iff_forall_mem.mp hF) _ (Array.getElem_mem ha)) i (List.mem_range.mpr hi)
    simpa [Array.getElem?_eq_getElem hi] using q
  obtain ⟨i0, ei0⟩ := is_v g3
  obtain rfl : w0 = (.int i0) := Option.some.inj ei0
  obtain ⟨i1, ei1⟩ := is_v g4
  obtain rfl : w1 = (.int i1) := Option.some.inj ei1
  obtain ⟨n, o, h1, h2, h3, _, L, rfl, ⟨rfl, N⟩, hq⟩ := rm0 l s _ hw tables_1 i0 i1 s.heap s.heap.size (Nat.le_refl _) p e ha hc hk s m _ below hf ((Spec.applies_iff_loose hf).mp happ).1 ⟨rfl, State.Warmed39.refl s, rfl⟩ trivial
  refine ⟨n, _, h1, h2, h3, hpost _ _ _ _ _ _ ⟨Cond.after_iff.mpr rfl, Cond.after_iff.mpr (eq_i res_at (Term.int_eval (1)) rfl), trivial⟩ ⟨hq.1, hq.2.1, (hq.2.2.sift fun y hy => Or.inr (N y hy)).mono (by decide) (by decide)⟩⟩
theorem main_1_1 : Claimed_1_1 := comes_1 fun _ _ _ _ _ _ h hF => ⟨h.1, hF⟩
theorem main_1_2 : Claimed_1_2 := comes_1 fun _ _ _ _ _ _ h hF => ⟨h.2.1, hF⟩
end Jvm.Pilot.@@N@@
namespace Jvm.Pilot.@@N@@
open Jvm Jvm.ClassFile Sem Op Lib Jvm.Free Jvm.Stand Jvm.Pilot.@@N@@.Jvm.D
/-! MADE BY PROGRAM (witnessworld.py) out of the Statement's table words and the real class files: 7 classes; the members and pool entries that the words name. The judged class is class 1, her method 2. -/
namespace start1
open Jvm.ClassFile
def u (s : String) : CpInfo := .utf8 (stringToUtf16 s)
/-- a pool by its gaps: so many unusable entries, then the entry; so many at the end -/
def gap : Nat → List CpInfo → List CpInfo
  | 0, r => r
  | n + 1, r => .unusable :: gap n r
def poolList (es : List (Nat × CpInfo)) (last : Nat) : List CpInfo := es.foldr (fun e r => gap e.1 (e.2 :: r)) (gap last [])
def pool (es : List (Nat × CpInfo)) (last : Nat) : Array CpInfo := ⟨poolList es last⟩
def fileOf (pool : Array CpInfo) (this : Nat) (attrs : Array Attribute := #[]) (ms : Array MethodInfo := #[]) (fl : Nat := 33) (sup : Nat := 0) (ifs : Array Nat := #[]) (fds : Array FieldInfo := #[]) : ClassFile where
  minorVersion := 0
  majorVersion := 65
  constantPool := pool
  accessFlags := fl
  thisClass := this
  superClass := sup
  interfaces := ifs
  fields := fds
  methods := ms
  attributes := attrs
def plain (name : String) (sup : Option ClassId) : Class where
  name := name
  kind := .ordinary
  loader := none
  accessFlags := 33
  super := sup
  interfaces := #[]
  cf := none
  fields := #[]
  methods := #[]
  instanceTypes := #[]
  staticTypes := #[]
  resolved := #[]
  callSites := []
  init := .initialized
  statics := none
  mirror := none

def pool0 : Array CpInfo := pool [(5, u "<init>"), (0, u "()V"), (1, .class_ 10), (1, u "java/lang/Object")] 113

def k0m0 : Method := { name := "<init>", desc := "()V", sig := { parameters := [], returnType := none }, accessFlags := 1, code := none }
/-- java/lang/Object -/
def k0 : Class := { plain "java/lang/Object" none with
  accessFlags := 33
  interfaces := #[]
  cf := some (fileOf pool0 8 #[] #[{ accessFlags := 1, nameIndex := 5, descriptorIndex := 6, attributes := #[] }] 33 0 #[] #[])
  fields := #[]
  methods := #[k0m0]
  instanceTypes := #[]
  staticTypes := #[]
  resolved := Array.replicate 124 none
  statics := none }

def pool1 : Array CpInfo := pool [(2, .class_ 4), (1, u "java/lang/Object"), (0, u "<init>"), (0, u "()V"), (0, .methodref 8 9), (0, .class_ 10), (0, .nameAndType 11 12), (0, u "com/example/fast_rating/fastrating/diameter/ResultCode"), (0, u "isProtocolError"), (0, u "(I)Z"), (0, .methodref 14 15), (0, .class_ 16), (0, .nameAndType 17 12), (0, u "com/example/fast_rating/fastrating/diameter/ResultCodeIsProtocolErrorPinLaw"), (0, u "threeClass"), (3, u "law"), (0, u "(II)Z")] 2

def k1m0 : Method := { name := "<init>", desc := "()V", sig := { parameters := [], returnType := none }, accessFlags := 2, code := none }
def k1c1 : Code := { maxStack := 2, maxLocals := 1, code := method_2_code, exceptionTable := #[], attributes := #[] }
def k1m1 : Method := { name := "threeClass", desc := "(I)Z", sig := { parameters := [.int], returnType := some .boolean }, accessFlags := 10, code := some k1c1 }
def k1c2 : Code := { maxStack := 3, maxLocals := 8, code := code, exceptionTable := #[], attributes := #[] }
def k1m2 : Method := { name := "law", desc := "(II)Z", sig := { parameters := [.int, .int], returnType := some .boolean }, accessFlags := 9, code := some k1c2 }
/-- com/example/fast_rating/fastrating/diameter/ResultCodeIsProtocolErrorPinLaw -/
def k1 : Class := { plain "com/example/fast_rating/fastrating/diameter/ResultCodeIsProtocolErrorPinLaw" (some 0) with
  accessFlags := 49
  interfaces := #[]
  cf := some (fileOf pool1 14 #[] #[{ accessFlags := 2, nameIndex := 5, descriptorIndex := 6, attributes := #[] }, { accessFlags := 10, nameIndex := 17, descriptorIndex := 12, attributes := #[] }, { accessFlags := 9, nameIndex := 21, descriptorIndex := 22, attributes := #[] }] 49 2 #[] #[])
  fields := #[]
  methods := #[k1m0, k1m1, k1m2]
  instanceTypes := #[]
  staticTypes := #[]
  resolved := Array.replicate 25 none
  statics := none }

def pool2 : Array CpInfo := pool [(2, .class_ 4), (1, u "java/lang/Object"), (0, u "<init>"), (0, u "()V"), (0, .class_ 8), (0, u "com/example/fast_rating/fastrating/diameter/ResultCode"), (0, u "SUCCESS"), (0, u "I"), (2, u "COMMAND_UNSUPPORTED"), (1, u "END_USER_SERVICE_DENIED"), (1, u "CREDIT_LIMIT_REACHED"), (1, u "AVP_UNSUPPORTED"), (1, u "UNKNOWN_SESSION_ID"), (1, u "INVALID_AVP_VALUE"), (1, u "MISSING_AVP"), (1, u "AVP_OCCURS_TOO_MANY_TIMES"), (1, u "NO_COMMON_APPLICATION"), (1, u "UNABLE_TO_COMPLY"), (1, u "INVALID_AVP_LENGTH"), (1, u "USER_UNKNOWN"), (1, u "RATING_FAILED"), (3, u "isProtocolError"), (0, u "(I)Z")] 3

def k2m0 : Method := { name := "<init>", desc := "()V", sig := { parameters := [], returnType := none }, accessFlags := 2, code := none }
def k2c1 : Code := { maxStack := 2, maxLocals := 1, code := prog_35_method_2_code, exceptionTable := #[], attributes := #[] }
def k2m1 : Method := { name := "isProtocolError", desc := "(I)Z", sig := { parameters := [.int], returnType := some .boolean }, accessFlags := 9, code := some k2c1 }
/-- com/example/fast_rating/fastrating/diameter/ResultCode -/
def k2 : Class := { plain "com/example/fast_rating/fastrating/diameter/ResultCode" (some 0) with
  accessFlags := 33
  interfaces := #[]
  cf := some (fileOf pool2 7 #[] #[{ accessFlags := 2, nameIndex := 5, descriptorIndex := 6, attributes := #[] }, { accessFlags := 9, nameIndex := 41, descriptorIndex := 42, attributes := #[] }] 33 2 #[] #[{ accessFlags := 25, nameIndex := 9, descriptorIndex := 10, attributes := #[] }, { accessFlags := 25, nameIndex := 13, descriptorIndex := 10, attributes := #[] }, { accessFlags := 25, nameIndex := 15, descriptorIndex := 10, attributes := #[] }, { accessFlags := 25, nameIndex := 17, descriptorIndex := 10, attributes := #[] }, { accessFlags := 25, nameIndex := 19, descriptorIndex := 10, attributes := #[] }, { accessFlags := 25, nameIndex := 21, descriptorIndex := 10, attributes := #[] }, { accessFlags := 25, nameIndex := 23, descriptorIndex := 10, attributes := #[] }, { accessFlags := 25, nameIndex := 25, descriptorIndex := 10, attributes := #[] }, { accessFlags := 25, nameIndex := 27, descriptorIndex := 10, attributes := #[] }, { accessFlags := 25, nameIndex := 29, descriptorIndex := 10, attributes := #[] }, { accessFlags := 25, nameIndex := 31, descriptorIndex := 10, attributes := #[] }, { accessFlags := 25, nameIndex := 33, descriptorIndex := 10, attributes := #[] }, { accessFlags := 25, nameIndex := 35, descriptorIndex := 10, attributes := #[] }, { accessFlags := 25, nameIndex := 37, descriptorIndex := 10, attributes := #[] }])
  fields := #[{ name := "SUCCESS", type := .int, accessFlags := 25, slot := 0, constantValue := 0 }, { name := "COMMAND_UNSUPPORTED", type := .int, accessFlags := 25, slot := 1, constantValue := 0 }, { name := "END_USER_SERVICE_DENIED", type := .int, accessFlags := 25, slot := 2, constantValue := 0 }, { name := "CREDIT_LIMIT_REACHED", type := .int, accessFlags := 25, slot := 3, constantValue := 0 }, { name := "AVP_UNSUPPORTED", type := .int, accessFlags := 25, slot := 4, constantValue := 0 }, { name := "UNKNOWN_SESSION_ID", type := .int, accessFlags := 25, slot := 5, constantValue := 0 }, { name := "INVALID_AVP_VALUE", type := .int, accessFlags := 25, slot := 6, constantValue := 0 }, { name := "MISSING_AVP", type := .int, accessFlags := 25, slot := 7, constantValue := 0 }, { name := "AVP_OCCURS_TOO_MANY_TIMES", type := .int, accessFlags := 25, slot := 8, constantValue := 0 }, { name := "NO_COMMON_APPLICATION", type := .int, accessFlags := 25, slot := 9, constantValue := 0 }, { name := "UNABLE_TO_COMPLY", type := .int, accessFlags := 25, slot := 10, constantValue := 0 }, { name := "INVALID_AVP_LENGTH", type := .int, accessFlags := 25, slot := 11, constantValue := 0 }, { name := "USER_UNKNOWN", type := .int, accessFlags := 25, slot := 12, constantValue := 0 }, { name := "RATING_FAILED", type := .int, accessFlags := 25, slot := 13, constantValue := 0 }]
  methods := #[k2m0, k2m1]
  instanceTypes := #[]
  staticTypes := #[.int, .int, .int, .int, .int, .int, .int, .int, .int, .int, .int, .int, .int, .int]
  resolved := Array.replicate 46 none
  statics := none }

def pool3 : Array CpInfo := pool [(1, u "java/lang/Cloneable"), (0, .class_ 1), (0, u "java/lang/Object"), (0, .class_ 3)] 3

/-- java/lang/Cloneable -/
def k3 : Class := { plain "java/lang/Cloneable" (some 0) with
  accessFlags := 1537
  interfaces := #[]
  cf := some (fileOf pool3 2 #[] #[] 1537 4 #[] #[])
  fields := #[]
  methods := #[]
  instanceTypes := #[]
  staticTypes := #[]
  resolved := Array.replicate 8 none
  statics := none }

def pool4 : Array CpInfo := pool [(1, u "java/io/Serializable"), (0, .class_ 1), (0, u "java/lang/Object"), (0, .class_ 3)] 3

/-- java/io/Serializable -/
def k4 : Class := { plain "java/io/Serializable" (some 0) with
  accessFlags := 1537
  interfaces := #[]
  cf := some (fileOf pool4 2 #[] #[] 1537 4 #[] #[])
  fields := #[]
  methods := #[]
  instanceTypes := #[]
  staticTypes := #[]
  resolved := Array.replicate 8 none
  statics := none }

/-- the primitive byte -/
def k5 : Class := { plain "byte" none with kind := .primitive 'B', accessFlags := 0x411 }
/-- [B -/
def k6 : Class := { plain "[B" (some 0) with kind := .array 5 .byte, interfaces := #[3, 4], accessFlags := 1041 }

def heap : Heap := #[]
def classes : Array Class := #[k0, k1, k2, k3, k4, k5, k6]
def interned : List (Array UInt16 × Addr) := []
def slotsUsed : Nat := 0
def theMethod : MethodId := ⟨1, 2⟩
def args0 : Array Value := #[.int 5, .int 6]
def aboutOver (below : List Frame) : State where
  vm := { classes := classes, interned := interned.toArray }
  heap := heap
  slotsUsed := slotsUsed
  threads := #[{ frames := .invoking theMethod args0 :: below }]
def below0 : List Frame := [.native { method := ⟨0, 0⟩, args := #[] }]
def about1 : State := aboutOver below0
def p0 : Program := .bare "" "" ""
def e0 : Env := launch0.env 0 0 0
theorem w_frames : about1.frames = Frame.invoking theMethod args0 :: below0 := rfl
set_option maxRecDepth 65536 in
theorem w_args : argsFit about1.vm theMethod args0 = true := by decide +kernel
set_option maxRecDepth 65536 in
theorem w_heap : heapFits about1 = true := by decide +kernel
set_option maxRecDepth 65536 in
theorem w_runnable : about1.curStatus? = some .runnable := by decide +kernel
set_option maxRecDepth 65536 in
theorem w_alone : about1.alone = true := by decide +kernel
set_option maxRecDepth 65536 in
theorem w_named : about1.methodNamed? x = some theMethod := by decide +kernel
set_option maxRecDepth 65536 in
theorem w_hears : about1.hears theMethod below0 = true := by decide +kernel
set_option maxRecDepth 65536 in
theorem w_ripe : about1.ripe theMethod args0 below0 = true := by decide +kernel
theorem w_running : about1.status = .running := rfl
set_option maxRecDepth 65536 in
theorem w_room : about1.hasRoom e0.platform room_1 = true :=
  launch0.hasRoom_least _ room_1 (by decide +kernel) (by decide +kernel) (by decide +kernel) (by decide +kernel) (by decide +kernel) (by decide +kernel)
theorem allAtoms_all (ts : List Jvm.Cond) (a : Array Jvm.Value) (st : Jvm.State) : (allAtoms ts).before a st = ts.all (fun c => c.before a st) := by
  induction ts with
  | nil => rfl
  | cons c t ih =>
    show (Jvm.Cond.and c (allAtoms t)).before a st = _
    rw [Jvm.Cond.before_and, ih, List.all_cons]
def words1 : List Jvm.Cond := Jvm.Cond.code x code maxLocals ret :: tables_1
/-- a 'code' word, met by the world's own term for the bytes: nothing is compared byte by byte -/
theorem code_word {y : MethodName} {bytes : ByteArray} {mx : Nat} {rt : Option FieldType} {a : Array Value} {s : State} {m : MethodId} {meth : Method} {c : Code} (h1 : s.methodNamed? y = some m) (h2 : s.vm.method? m = some meth) (h3 : meth.code = some c) (h4 : c.code = bytes)
    (h5 : (c.maxLocals == mx && c.exceptionTable.isEmpty && decide (c.maxStack ≤ mostOperands) && decide (meth.sig.returnType = rt) && !meth.locks && decide (parseMethodDescriptor y.desc = some meth.sig)) = true) : (Jvm.Cond.code y bytes mx rt).before a s = true := by
  simp only [Bool.and_eq_true, beq_iff_eq, Bool.not_eq_true', decide_eq_true_eq] at h5
  obtain ⟨⟨⟨⟨⟨g1, g2⟩, g3⟩, g4⟩, g5⟩, g6⟩ := h5
  simp [Cond.before, Cond.holds, Cond.value, h1, h2, h3, h4, g1, g2, g3, g4, g5, g6]
def isCode : Jvm.Cond → Bool
  | .code _ _ _ _ => true
  | _ => false
theorem all_split {L : List Jvm.Cond} {P : Jvm.Cond → Bool} (h1 : L.all (fun c => isCode c || P c) = true) (h2 : ∀ c ∈ L.filter isCode, P c = true) : L.all P = true := by
  refine List.all_eq_true.mpr fun c hc => ?_
  have h := List.all_eq_true.mp h1 c hc
  rcases Bool.eq_false_or_eq_true (isCode c) with hi | hi
  · exact h2 c (List.mem_filter.mpr ⟨hc, hi⟩)
  · simpa [hi] using h
set_option maxRecDepth 65536 in
theorem w_c0 : (Jvm.Cond.code x code maxLocals ret).before args0 about1 = true := code_word (m := ⟨1, 2⟩) (meth := k1m2) (c := k1c2) (by decide +kernel) rfl rfl rfl (by decide +kernel)
set_option maxRecDepth 65536 in
theorem w_c1 : (Jvm.Cond.code ({ cls := "com/example/fast_rating/fastrating/diameter/ResultCode", name := "isProtocolError", desc := "(I)Z" } : Jvm.MethodName) prog_35_method_2_code (1 : Nat) (Option.some Jvm.ClassFile.FieldType.boolean)).before args0 about1 = true := code_word (m := ⟨2, 1⟩) (meth := k2m1) (c := k2c1) (by decide +kernel) rfl rfl rfl (by decide +kernel)
set_option maxRecDepth 65536 in
theorem w_c2 : (Jvm.Cond.code ({ cls := "com/example/fast_rating/fastrating/diameter/ResultCodeIsProtocolErrorPinLaw", name := "threeClass", desc := "(I)Z" } : Jvm.MethodName) method_2_code (1 : Nat) (Option.some Jvm.ClassFile.FieldType.boolean)).before args0 about1 = true := code_word (m := ⟨1, 1⟩) (meth := k1m1) (c := k1c1) (by decide +kernel) rfl rfl rfl (by decide +kernel)
def codes1 : List Jvm.Cond := [Jvm.Cond.code x code maxLocals ret, Jvm.Cond.code ({ cls := "com/example/fast_rating/fastrating/diameter/ResultCode", name := "isProtocolError", desc := "(I)Z" } : Jvm.MethodName) prog_35_method_2_code (1 : Nat) (Option.some Jvm.ClassFile.FieldType.boolean), Jvm.Cond.code ({ cls := "com/example/fast_rating/fastrating/diameter/ResultCodeIsProtocolErrorPinLaw", name := "threeClass", desc := "(I)Z" } : Jvm.MethodName) method_2_code (1 : Nat) (Option.some Jvm.ClassFile.FieldType.boolean)]
set_option maxRecDepth 65536 in
theorem codes_eq : words1.filter isCode = codes1 := rfl
theorem w_codes : ∀ c ∈ words1.filter isCode, c.before args0 about1 = true := by
  rw [codes_eq]
  intro c hc
  simp only [codes1, List.mem_cons, List.not_mem_nil, or_false] at hc
  rcases hc with rfl | rfl | rfl
  · exact w_c0
  · exact w_c1
  · exact w_c2
set_option maxRecDepth 65536 in
theorem w_t1 : words1.all (fun c => isCode c || c.before args0 about1) = true := by decide +kernel
theorem w_tables : (allAtoms (Jvm.Cond.code x code maxLocals ret :: tables_1)).before args0 about1 = true := by
  rw [allAtoms_all]
  show words1.all (fun c => c.before args0 about1) = true
  refine all_split ?_ w_codes
  rw [w_t1]
set_option maxRecDepth 65536 in
theorem w_case : (Jvm.Cond.and given_1 narrow_1).before args0 about1 = true := by decide +kernel
theorem w_applies : (headSpec (Jvm.Cond.code x code maxLocals ret :: tables_1) room_1).applies x e0.platform about1 = true :=
  (Spec.applies_iff w_frames).mpr ⟨w_running, w_runnable, w_alone, w_named, w_hears, w_ripe, w_room, w_tables⟩
theorem atStart : AtStart classFile x code maxLocals ret World_1 tables_1 room_1 Calls_1 rest_1 Pre_1 launch0 p0 e0 about1 theMethod args0 below0 :=
  ⟨lists_1, trivial, launch0.admits_env _ _ _, launch0.least_env, fairChoices_fair.cas, fairChoices_fair.clock, w_frames, w_args, w_heap, w_applies, trivial, trivial, w_case⟩
end start1
theorem witness_1 : WitnessClaimed_1 := ⟨start1.p0, start1.e0, start1.about1, start1.theMethod, start1.args0, start1.below0, start1.atStart⟩
end Jvm.Pilot.@@N@@
