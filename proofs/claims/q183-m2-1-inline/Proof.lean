import JvmDerived
import JvmDerived.Pilot.@@N@@Statement
import JvmDerived.Pilot.@@N@@Code
set_option linter.unusedVariables false
set_option linter.unusedSimpArgs false
namespace Jvm.RoadKit
open Sem ClassFile Op Lib Jvm.Stand Jvm.Free Jvm.LawKit
section New
variable {p : Program} {l : Launch} {e : Env} {R : Room} {s : State} {m : MethodId} {args : Array Value} {below : List Frame} {meth : Method} {c : Code} {T : State} {locs : List Loc} {cells slots : Nat}
theorem retI (X : Stand p l e R s m args below meth c T locs cells slots) (hx : p.tables.exec = Jvm.exec) {pc : Nat} {Ls : Array Slot} {z : Int32} {rest : List Value} (hret : meth.sig.returnType = some .int) (hd : decode c.code pc = .ok (.ireturn, 1)) {fs : List Frame}
    (hl : ∀ (f : JFrame) (acts : List Action), f.method = m → f.locked = none → f.entered = [] → (doReturn e (T.setTop f) acts (some (.int z))).1 = T.setFrames fs) : Steps p.tables e below (T.setTop (mkF m pc Ls (.int z :: rest))) (T.setFrames fs) := by
  have hm' : T.vm.method? m = some meth := X.method'
  have hn : narrow .int (.int z) = .int z := rfl
  show Steps p.tables e below (T.setTop { method := m, pc := pc, locals := Ls, stack := _ :: rest, locked := none }) _
  jvm_step X.here [X.here.top, hx, hd, hm', hret, hn]
  first | (intro acts; rw [hl _ acts rfl rfl rfl]) | rw [hl _ _ rfl rfl rfl]
  exact Steps.refl _
end New
end Jvm.RoadKit
@@BLOCK:TracedD.lean.txt@@
namespace Jvm.Pilot.@@N@@
open Jvm Jvm.ClassFile Sem Op Lib Jvm.Free Jvm.Stand Jvm.LawKit Jvm.RoadKit Bundle Jvm.Pilot.@@N@@.Jvm.D
abbrev SS (p : Program) (e : Env) (below : List Frame) (T : State) (g : JFrame) (t : State) : Prop := Steps p.tables e below (T.setTop g) t
abbrev vi (x : Int32) : Slot := .val (.int x)
abbrev vl (x : Int64) : Slot := .val (.long x)
abbrev vr (x : Addr) : Slot := .val (.ref x)
abbrev vd (x : UInt64) : Slot := .val (.double x)
abbrev uu : Slot := .unset
abbrev us : Slot := .second
theorem wd {a0 : Array Value} {Z : State} (hw : ∀ d ∈ tables_1, d.before a0 Z = true) (i : Nat) {d : Jvm.Cond} (h : tables_1[i]? = some d) : d.before a0 Z = true := hw _ (List.mem_of_getElem? h)
theorem own_hk {T : State} {h : Heap} {k : Nat} (e : T.heap = h) (q : k ≤ h.size) : k ≤ T.heap.size := e ▸ q
theorem own_reb {p : Program} {l : Launch} {e : Env} {R : Room} {s : State} {m : MethodId} {args : Array Value} {below : List Frame} {meth : Method} {c : Code} {T : State} {L L' : List Loc} {k k' n n' : Nat} (X : Stand p l e R s m args below meth c T L k n) (hl : L = L') (hk : k = k') (hn : n = n') : Stand p l e R s m args below meth c T L' k' n' := by
  subst hl hk hn; exact X
theorem own_szW {h h' : Heap} {a : Addr} {sl : Nat} {v : Value} {k : Nat} (W : Wr h h' a sl v) (q : k ≤ h.size) : k ≤ h'.size := by rw [W.size]; exact q
theorem own_at {T : State} {h : Heap} {a : Addr} {c : Cell} (e : T.heap = h) (q : h[a]? = some c) : T.heap[a]? = some c := e ▸ q
abbrev own_EL : List (String × Nat) := consts_1
theorem own_EW {Z : State} {a0 : Array Value} (hw : ∀ d ∈ tables_1, d.before a0 Z = true) : EW Z a0 own_EL := (EW.cons (wd hw 150 rfl) (by decide) (EW.cons (wd hw 195 rfl) (by decide) (EW.cons (wd hw 13 rfl) (by decide) (EW.cons (wd hw 43 rfl) (by decide) EW.nil))))
theorem own_chr {Z : State} {EL : List (String × Nat)} {s T : State} {h0 h : Heap} (hh : s.heap = h0) (e : T.heap = h) (R : CHr Z EL s.vm h0 T.vm h) : CHr Z EL s.vm s.heap T.vm T.heap := by
  subst hh e; exact R
theorem own_safeNull {Z : State} {EL : List (String × Nat)} {vm : Vm} {h : Heap} {x : Addr} (hal : Z.vm.Alike vm) (E : Exa Z h x "java/lang/String") (F : Fld Z h x "java/lang/String" "value" "[B" .null) : Safe Z EL vm h x := fun B => by
  obtain ⟨cell, cf, k, i, f, f1, f2, f3, f4, f5, f6, f7⟩ := F
  obtain ⟨cell', k', e1, e2, e3, -, -⟩ := E
  obtain ⟨p, -, u, a, -, q, -, G, rfl | rfl⟩ := B
  · cases (show h[q.sa]? = some q.sC from G.ha).symm.trans f1
    obtain ⟨cS, ⟨S, -, -⟩, -⟩ := G
    obtain ⟨c', k1, i', g1, -⟩ := S.2.2.2.1
    obtain ⟨k2, g2⟩ := ff_back (U := Wst Z vm h) hal g1
    cases f2.symm.trans g2
    have w := S.2.2.2.2.2.2.2.1
    rw [f7] at w
    cases w
  · cases (show h[q.sd]? = some q.SA from G.hd).symm.trans e1
    obtain ⟨cS, -, -, g, -⟩ := G
    have g' : vm.findClass "[B" = some q.SA.cls := g
    rw [hal.findClass] at g'
    obtain ⟨k1, q1, q2⟩ := Vm.findClass_spec g'
    obtain ⟨k2, q3, q4⟩ := Vm.findClass_spec e2
    cases q1.symm.trans q3
    exact absurd (q2.symm.trans q4) (by decide)
theorem own_conj5 {args : Array Value} {s : State} {a b c d e : Jvm.Cond} (h1 : a.before args s = true) (h2 : b.before args s = true) (h3 : c.before args s = true) (h4 : d.before args s = true) (h5 : e.before args s = true) : (Jvm.Free.Exc.conj [a, b, c, d, e]).before args s = true := conj_of (fun x hx => by
  simp only [List.mem_cons, List.not_mem_nil, or_false] at hx
  rcases hx with rfl | rfl | rfl | rfl | rfl <;> assumption)
theorem own_decl {Z : State} {a0 : Array Value} {y : MethodName} {bytes : ByteArray} {maxL : Nat} {ret : Option FieldType} (w3 : (Jvm.Cond.instanceMethod y).before a0 Z = true) (wc : (Jvm.Cond.code y bytes maxL ret).before a0 Z = true) : (Jvm.Cond.declares y).before a0 Z = true := by
  obtain ⟨mk, methM, hnamed, hmethM, hstM, habM⟩ := Cond.instanceMethod_spec w3
  obtain ⟨m2, cM, q1, -, -, -, -, -, -, hsig⟩ := Cond.code_spec hnamed wc
  cases hmethM.symm.trans q1
  simp only [Cond.before, Cond.holds, Cond.value, hnamed, hmethM, Option.bind_some, Option.map_some]
  simp [hstM, hsig]
theorem own_face {args : Array Value} {s : State} {C : String} {y z : MethodName} (w : (Jvm.Cond.selects C z z).before args s = true) (e : y.cls = z.cls) : NotFace s y := fun r0 h0 => by
  obtain ⟨c2, r2, m2, q1, q2, q3, q4, kP, hkP, hkPi⟩ := Cond.selects_spec w
  have a1 := findClass_of_methodNamed h0
  have a2 := findClass_of_methodNamed q3
  rw [e] at a1
  have a3 := Option.some.inj (a1.symm.trans a2)
  exact ⟨kP, by rw [a3]; exact hkP, hkPi⟩
theorem own_same {Z : State} {a0 : Array Value} {y : MethodName} (w3 : (Jvm.Cond.instanceMethod y).before a0 Z = true) (nf : NotFace Z y) (hy : y.cls ≠ "java/lang/invoke/MethodHandle" ∧ y.cls ≠ "java/lang/invoke/VarHandle") : (Jvm.Cond.sameMethod y.cls y.cls y.name y.desc).before a0 Z = true := by
  obtain ⟨mk, methM, hnamed, hmethM, hstM, habM⟩ := Cond.instanceMethod_spec w3
  have hf := State.methodFound?_of_named hnamed hy
  have hc := findClass_of_methodNamed hnamed
  obtain ⟨kr, hkr, hni⟩ := nf _ hnamed
  have hn2 : Z.methodNamed? ⟨y.cls, y.name, y.desc⟩ = some mk := hnamed
  simp [Cond.before, Cond.holds, Cond.value, hc, hf, hn2, hkr, hni]
/- the words on Throwable that these sheets bear: all that the library's 'throwableAtoms' asks but the row on Throwable's own 'suppressedExceptions' (here: rc's) -/
def own_xw (rc : String) : List Jvm.Cond := [.initialized tN, .superclass tN "java/lang/Object", .instanceMethod tFill, .codeSync tFill LibCode.Throwable.Fill.code 1 (some (.object tN)), .instanceMethod tFill0, .native tFill0, .instanceMethod oInit, .code oInit ⟨#[0xb1]⟩ 1 none, .methodLink tN 1 oInit, .methodLink tN 27 tFill, .methodLink tN 202 tFill0,
  .fieldLink tN 7 tN "cause" "Ljava/lang/Throwable;", .lays rc tN "cause" "Ljava/lang/Throwable;", .fieldLink tN 17 tN "stackTrace" steD, .lays rc tN "stackTrace" steD, .fieldLink tN 24 tN "suppressedExceptions" listD, .lays rc tN "suppressedExceptions" listD,
  .fieldLink tN 13 tN "UNASSIGNED_STACK" steD, .laysStatic tN "UNASSIGNED_STACK" steD, .fieldLink tN 20 tN "SUPPRESSED_SENTINEL" listD, .laysStatic tN "SUPPRESSED_SENTINEL" listD, .lays rc tN "detailMessage" "Ljava/lang/String;",
  .declares tFill, .selects rc tFill0 tFill0, .selects rc tFill tFill, .fieldLink tN 198 tN "backtrace" "Ljava/lang/Object;", .lays rc tN "backtrace" "Ljava/lang/Object;", .arrayOver (.object "java/lang/Object"), .soleField tN "backtrace", .soleField tN "depth", .lays rc tN "depth" "I"]
theorem own_xok (rc : String) : (own_xw rc).all xOk = true := rfl
theorem own_throw {args : Array Value} {s : State} {pl : Platform} {rc : String} (howns : pl.frameOwnsMonitors = true) (hfin : pl.finalization = false) (hpl : pl.magicAccessors = ({} : Platform).magicAccessors) (w : ∀ d ∈ own_xw rc, d.before args s = true) :
    ∃ T : ThrowableC, T.Links pl s ∧ s.vm.findClass tN = some T.cT ∧ s.methodNamed? tFill = some T.fill ∧ s.methodNamed? tFill0 = some T.fill0 ∧ s.fieldFound? tN "stackTrace" steD = some (T.cT, T.kT, T.i17, T.fStack) ∧ s.fieldFound? tN "UNASSIGNED_STACK" steD = some (T.cT, T.kT, T.i13, T.fUnassigned) ∧ T.fStack.type = .array (.object "java/lang/StackTraceElement") := by
  have g : ∀ (i : Nat) (d : Jvm.Cond), (own_xw rc)[i]? = some d → d.holds args s none s [] = true := fun i d h => w d (List.mem_of_getElem? h)
  obtain ⟨⟨c, j0⟩, M0, n0, m0, nat0, code0, locks0, sig0⟩ := Cond.native_spec (g 5 _ rfl)
  have hc : s.vm.findClass tN = some c := findClass_of_methodNamed n0
  obtain ⟨k, hk, hname⟩ := Vm.findClass_spec hc
  obtain ⟨_, k1, _, _, hk1, _, _, _, _, hni⟩ := Cond.superclass_spec hc (g 1 _ rfl)
  cases Option.some.inj (hk.symm.trans hk1)
  obtain ⟨jF, MF, nF, mF, atF, stF, abF, -, -⟩ := Cond.ownMethod (x := tFill) hc hk (g 2 _ rfl)
  obtain ⟨MF', cF, mF', cdF, byF, lcF, rtF, lkF, -, sgF⟩ := Cond.codeSync_spec nF (g 3 _ rfl)
  cases Option.some.inj (mF.symm.trans mF')
  obtain ⟨j0', M0', n0', m0', at0, st0, ab0, nm0, ds0⟩ := Cond.ownMethod (x := tFill0) hc hk (g 4 _ rfl)
  obtain rfl : j0 = j0' := by have := Option.some.inj (n0.symm.trans n0'); simpa using this
  cases Option.some.inj (m0.symm.trans m0')
  obtain ⟨mO, MO, nO, mmO, stO, abO⟩ := Cond.instanceMethod_spec (g 6 _ rfl)
  obtain ⟨MO', cO, mmO', cdO, byO, lcO, -, lkO, -, sgO⟩ := Cond.code_spec nO (g 7 _ rfl)
  cases Option.some.inj (mmO.symm.trans mmO')
  obtain ⟨kO, hkO, hnameO⟩ := Vm.findClass_spec (findClass_of_methodNamed nO)
  obtain ⟨nmO, dsO⟩ := name_of_methodNamed nO mmO
  obtain ⟨ci1, x1, cf, l1, r1, hcf, p1⟩ := Cond.linkedMethod hc hk nO (g 8 _ rfl) pl hpl
  obtain ⟨ci27, x27, cf', l27, r27, hcf', p27⟩ := Cond.linkedMethod hc hk nF (g 9 _ rfl) pl hpl
  cases Option.some.inj (hcf.symm.trans hcf')
  obtain ⟨ci202, x202, cf', l202, r202, hcf', p202⟩ := Cond.linkedMethod hc hk n0 (g 10 _ rfl) pl hpl
  cases Option.some.inj (hcf.symm.trans hcf')
  obtain ⟨ci7, i7, f7, k7, g7, a7, s7, z7, nm7, ty7, ff7⟩ := Cond.ownField (t := .object tN) hc hk (by decide +kernel) (g 11 _ rfl) (g 12 _ rfl) pl hpl
  obtain ⟨ci17, i17, f17, k17, g17, a17, s17, z17, nm17, ty17, ff17⟩ := Cond.ownField (t := .array (.object "java/lang/StackTraceElement")) hc hk (by decide +kernel) (g 13 _ rfl) (g 14 _ rfl) pl hpl
  obtain ⟨ci24, i24, f24, k24, g24, a24, s24, z24, nm24, ty24, ff24⟩ := Cond.ownField (t := .object "java/util/List") hc hk (by decide +kernel) (g 15 _ rfl) (g 16 _ rfl) pl hpl
  obtain ⟨ci13, i13, f13, aS, cS, k13, g13, a13, s13, -, -, sta, hcS, hiS, -, -, ff13⟩ := Cond.ownStatic (t := .array (.object "java/lang/StackTraceElement")) hc hk (by decide +kernel) (g 17 _ rfl) (g 18 _ rfl) pl hpl
  obtain ⟨ci20, i20, f20, _, _, k20, g20, a20, s20, -, -, -, -, -, -, -, ff20⟩ := Cond.ownStatic (t := .object "java/util/List") hc hk (by decide +kernel) (g 19 _ rfl) (g 20 _ rfl) pl hpl
  obtain ⟨_, _, cM, kM, iM, fM, _, _, ffM, sM, zM, _⟩ := Cond.lays_spec (g 21 _ rfl)
  have apart : f17.slot ≠ f24.slot := Cond.lays_apart (g 14 _ rfl) (g 16 _ rfl) ff17 ff24 (by rw [nm17, nm24]; decide)
  have pF : MF.sig.parameters = [] := by
    have : (parseMethodDescriptor tFill.desc).map (·.parameters) = some [] := by decide +kernel
    rw [sgF] at this; simpa using this
  have p0 : M0.sig.parameters = [.int] := by
    have : (parseMethodDescriptor tFill0.desc).map (·.parameters) = some [.int] := by decide +kernel
    rw [sig0] at this; simpa using this
  have pO : MO.sig.parameters = [] := by
    have : (parseMethodDescriptor oInit.desc).map (·.parameters) = some [] := by decide +kernel
    rw [sgO] at this; simpa using this
  exact ⟨{ cT := c, kT := k, cO := c, aS := aS, fillIdx := jF, fill0Idx := j0, initSIdx := jF, obj := mO, kObj := kO, methFill := MF, methFill0 := M0, methInitS := MF, methObj := MO, codeFill := cF, codeInitS := cF, codeObj := cO, fBack := f7, fDepth := f7, fStack := f17, fCause := f7, fSupp := f24, fMsg := fM, fUnassigned := f13, fSentinel := f20, cfT := cf, ci1 := ci1, n1 := x1, ci27 := ci27, n27 := x27, ci202 := ci202, n202 := x202, ci7 := ci7, i7 := i7, ci13 := ci13, i13 := i13, ci17 := ci17, i17 := i17, ci20 := ci20, i20 := i20, ci24 := ci24, i24 := i24 }, { owns := howns, noFinalization := hfin, cls := hk, name := hname, boot := Vm.findClass_boot hc hk, notInterface := hni, initialized := Cond.initialized_spec hc hk (g 0 _ rfl), statics := sta, fillAt := atF, fillCode := cdF, fillBytes := byF, fillLocals := lcF, fillLocks := lkF, fillStatic := stF, fillAbstract := abF, fillReturns := rtF, fillParams := pF, fill0At := at0, fill0Name := nm0, fill0Desc := ds0, fill0Params := p0, fill0Static := st0, fill0Native := nat0, fill0Code := code0, fill0Locks := locks0, fill0Abstract := ab0, stackInstance := s17, stackNotFinal := z17, unassignedStatic := s13, objClass := hkO, objClassName := hnameO, objMethod := mmO, objName := nmO, objStatic := stO, objAbstract := abO, objFound := by rw [dsO]; exact lookupSpecial_of_named nO mmO stO, objParams := by rw [pO]; rfl, objCode := cdO, objBytes := byO, objLocks := lkO, causeInstance := s7, causeNotFinal := z7, sentinelStatic := s20, suppInstance := s24, suppNotFinal := z24, msgInstance := sM, msgNotFinal := zM, stackApartSupp := apart, file := hcf, mlink1 := l1, mright1 := r1, pool1 := p1, mlink27 := l27, mright27 := r27, pool27 := p27, mlink202 := l202, mright202 := r202, pool202 := p202, link7 := k7, right7 := g7, at7 := a7, link13 := k13, right13 := g13, at13 := a13, link17 := k17, right17 := g17, at17 := a17, link20 := k20, right20 := g20, at20 := a20, link24 := k24, right24 := g24, at24 := a24 }, hc, nF, n0, ff17, ff13, ty17⟩
theorem own_nO {n : String} {v : Value} (h : v.isRef = true) : narrow (.object n) v = v := by cases v <;> first | rfl | cases h
theorem own_nA {t : FieldType} {v : Value} (h : v.isRef = true) : narrow (.array t) v = v := by cases v <;> first | rfl | cases h
theorem own_fO {n : String} {v : Value} (h : v.isRef = true) : fits (.object n) v = true := by cases v <;> first | rfl | cases h
theorem own_fA {t : FieldType} {v : Value} (h : v.isRef = true) : fits (.array t) v = true := by cases v <;> first | rfl | cases h
theorem own_frsix {Z : State} {a : Addr} {n0 : Nat} {L : List Loc} (h : ∀ x ∈ L, x ∈ sixLocs Z a) (q : n0 ≤ a) : Fr n0 L := fun y hy => by
  obtain ⟨nd, -, rfl⟩ := List.mem_map.mp (h y hy); exact q
theorem own_kp {p : Program} {l : Launch} {e : Env} {R : Room} {s : State} {m : MethodId} {args : Array Value} {below : List Frame} {meth : Method} {c : Code} {T : State} {locs : List Loc} {cells slots : Nat} {Z : State} {a : Addr} (X : Stand p l e R s m args below meth c T locs cells slots) (h : ∀ x ∈ locs, x ∈ sixLocs Z a) : Kp Z s.heap T.heap a := by
  have K : ∀ y cy, s.heap[y]? = some cy → ∃ c', T.heap[y]? = some c' ∧ c' = { cy with slots := c'.slots } ∧ c'.slots.size = cy.slots.size ∧ ∀ i, (⟨y, i⟩ : Loc) ∉ locs → c'.slots[i]? = cy.slots[i]? := fun y cy hy => X.same.2.2.2.2.2 y cy hy
  refine ⟨X.same.2.1, fun y cy hy => ?_⟩
  obtain ⟨c', q1, q2, q3, q4⟩ := K y cy hy
  refine ⟨c', q1, q2, q3, fun ne => ?_, fun i hi => q4 i fun hm => ?_⟩
  · have : c'.slots = cy.slots := Array.ext_getElem? fun i => q4 i fun hm => by
      obtain ⟨nd, -, e⟩ := List.mem_map.mp (h _ hm)
      exact ne (congrArg Loc.base e).symm
    rw [q2, this]
  · obtain ⟨nd, h1, e⟩ := List.mem_map.mp (h _ hm)
    exact hi nd h1 (congrArg Loc.slot e)
theorem own_fill {p : Program} {l : Launch} {e : Env} {R : Room} {s : State} {m : MethodId} {args : Array Value} {below : List Frame} {meth : Method} {c : Code} {T : State} {locs : List Loc} {cells slots : Nat} {Z : State} {a0 : Array Value} {h : Heap} {rc : String} {kk : Nat} {a : Addr} {u : Value} (X : Stand p l e R s m args below meth c T locs cells slots) (hx : p.tables.exec = Jvm.exec) (hl : l.stackTraces = true) (hZ : Z.Warmed39 s.vm)
    (hown : s.vm.findClass tN = some m.cls) (w : ∀ d ∈ own_xw rc, d.before a0 Z = true) (wi : (Jvm.Cond.instantiable rc kk).before a0 Z = true) (hT0 : ThS Z s.heap) (hTK : s.vm.MethodsKnown) (hBelow : s.vm.FramesKnown below) (eT : T.heap = h) (E : Exa Z h a rc) (N : Unt h a) (hu : u.isRef = true) (FS : Fld Z h a tN "stackTrace" steD u) (SU : Sta Z h tN "UNASSIGNED_STACK" steD u)
    (FB : Fld Z h a tN "backtrace" "Ljava/lang/Object;" .null) (FM : Fld Z h a tN "detailMessage" "Ljava/lang/String;" .null) (hlocs : ∀ x ∈ locs, x ∈ sixLocs Z a) {g : JFrame} (hg : g.method = m) (hsize : g.locals.size = c.maxLocals) {rest : List Value} (hs : g.stack = .ref a :: rest) (hd : decode c.code g.pc = .ok (.invokevirtual 27, 3))
    (hf : 2 < R.frames) (hlo : 2 * g.monitorRoom + (rest.map fun v => v.category).sum + 42 ≤ R.locals) (hc : cells + 1 ≤ R.cells) (hsl : slots + 2752 ≤ R.slots) :
    ∃ (T' : State) (h' : Heap) (locs' : List Loc), Stand p l e R s m args below meth c T' locs' (cells + 1) (slots + 2752) ∧ T'.heap = h' ∧ (∀ x ∈ locs', x ∈ sixLocs Z a) ∧ Kp Z s.heap h' a ∧ Fld Z h' a tN "detailMessage" "Ljava/lang/String;" .null ∧
      ∀ target, Steps p.tables e below (T'.setTop { g with pc := g.pc + 3, stack := .ref a :: rest }) target → Steps p.tables e below (T.setTop g) target := by
  have htr : e.platform.stackTraces = true := by rw [X.admits.platform]; exact hl
  have howns : e.platform.frameOwnsMonitors = true := by rw [X.admits.platform]
  have hfin : e.platform.finalization = false := by rw [X.admits.platform]
  have hpl : e.platform.magicAccessors = ({} : Platform).magicAccessors := by rw [X.admits.platform]
  have ws : ∀ d ∈ own_xw rc, d.before args s = true := fun d hd => mvX hT0 hZ (List.all_eq_true.mp (own_xok rc) d hd) (w d hd)
  obtain ⟨Tc, L, Yc, YF, YF0, YS, YU, tyS⟩ := own_throw howns hfin hpl ws
  have gs : ∀ (i : Nat) (d : Jvm.Cond), (own_xw rc)[i]? = some d → d.before args s = true := fun i d h => ws d (List.mem_of_getElem? h)
  have hal : Z.vm.Alike s.vm := hZ.alike
  obtain ⟨cell, kc, h1, h2, h3, h4, h5⟩ := E
  obtain ⟨c2, n1, n2, n3⟩ := N
  cases h1.symm.trans n1
  obtain ⟨c4, k2, i1, i2, i3, -⟩ := Cond.instantiable_spec wi
  cases h2.symm.trans i1
  cases h3.symm.trans i2
  have hfound : s.vm.findClass rc = some cell.cls := by rw [hal.findClass]; exact h2
  obtain ⟨kX, hk, ekX⟩ := hal.2.2 _ _ h3
  have hord : kX.kind = .ordinary := by rw [ekX]; exact i3
  have hsz : cell.slots.size = kX.instanceTypes.size := by rw [ekX]; exact h5 i3
  have hsel0 : selectMethod e.platform s.vm cell.cls Tc.fill0 = .method Tc.fill0 := by
    obtain ⟨c2, r2, m2, q1, q2, q3, q4, -⟩ := Cond.selects_spec (gs 23 _ rfl)
    cases Option.some.inj (q1.symm.trans hfound)
    cases Option.some.inj (q2.symm.trans (State.methodFound?_of_named YF0 (by decide)))
    cases Option.some.inj (q3.symm.trans YF0)
    rw [Launch.admits_selectMethod X.admits]; exact q4
  obtain ⟨cf, i, k, f, st, cellS, s1, s2, s3, s4, s5, s6, s7⟩ := SU
  obtain ⟨k4, y1, y2⟩ := State.fieldFound?_setVm (s := Z) hal s1
  cases (show s.fieldFound? tN "UNASSIGNED_STACK" steD = _ from y1).symm.trans YU
  have est : st = Tc.aS := by
    have := L.statics
    rw [y2] at this
    exact Option.some.inj (s4.symm.trans this)
  subst est
  have hneS : Tc.aS ≠ a := fun q => by
    rw [q, h1] at s5
    rw [← Option.some.inj s5, h4] at s6
    cases s6
  obtain ⟨cs1, cfS, kS, iS, fS, b1, b2, b3, b4, b5, b6, b7⟩ := FS
  cases h1.symm.trans b1
  obtain ⟨k5, y3, y4⟩ := State.fieldFound?_setVm (s := Z) hal b2
  cases (show s.fieldFound? tN "stackTrace" steD = _ from y3).symm.trans YS
  obtain ⟨ci198, i198, fB, hk198, hg198, ha198, hsB, -, hnB, htB, hffB⟩ := Cond.ownField (t := .object "java/lang/Object") Yc L.cls (by decide +kernel) (gs 25 _ rfl) (gs 26 _ rfl) e.platform hpl
  obtain ⟨cs2, cfB, kB, iB, fB', d1, d2, d3, d4, d5, d6, d7⟩ := FB
  cases h1.symm.trans d1
  obtain ⟨k6, y5, y6⟩ := State.fieldFound?_setVm (s := Z) hal d2
  cases (show s.fieldFound? tN "backtrace" "Ljava/lang/Object;" = _ from y5).symm.trans hffB
  obtain ⟨cD1, kD1, cD, kD, iD, fD, -, -, hffD, hstD, -, -, -, -⟩ := Cond.lays_spec (gs 30 _ rfl)
  cases Option.some.inj ((Cond.lays_declared (gs 30 _ rfl) hffD).symm.trans Yc)
  obtain ⟨hkD, hatD⟩ := State.fieldFound?_spec hffD
  cases Option.some.inj (hkD.symm.trans L.cls)
  obtain ⟨hnD, htD⟩ := State.fieldFound?_type hffD (t := .int) (by decide +kernel)
  have hfb := Cond.soleField_find Yc L.cls (gs 28 _ rfl) ha198 hnB hsB
  have hfd := Cond.soleField_find Yc L.cls (gs 29 _ rfl) hatD hnD hstD
  obtain ⟨comp, cO, kO, -, -, hkO, hkindO, hO⟩ := Cond.arrayOver_spec (gs 27 _ rfl)
  obtain ⟨tyT, -⟩ := Cond.laysAt hfound hk YS (gs 14 _ rfl)
  obtain ⟨tyB, -⟩ := Cond.laysAt hfound hk hffB (gs 26 _ rfl)
  obtain ⟨tyD, -⟩ := Cond.laysAt hfound hk hffD (gs 30 _ rfl)
  have tk : ∀ {f : Field} {v : Value}, kX.instanceTypes[f.slot]? = some f.type → fits f.type v = true → Jvm.Takes s cell f v := fun {f v} q1 q2 => by
    obtain ⟨r1, r2⟩ := Takes.of_laid (v := v) hk hord q1 q2
    exact ⟨by rw [hsz]; simpa using r1, by rw [n2]; exact r2⟩
  obtain ⟨cs3, cfM, kM, iM, fM, e1, e2, e3, e4, e5, e6, e7⟩ := FM
  cases h1.symm.trans e1
  obtain ⟨k7, y7, y8⟩ := State.fieldFound?_setVm (s := Z) hal e2
  have y7' : s.fieldFound? tN "detailMessage" "Ljava/lang/String;" = some (cfM, k7, iM, fM) := y7
  have nmM := (State.fieldFound?_type y7' (t := .object "java/lang/String") (by decide +kernel)).1
  have nmS := (State.fieldFound?_type YS (t := .array (.object "java/lang/StackTraceElement")) (by decide +kernel)).1
  have mS : fM.slot ≠ Tc.fStack.slot := Cond.lays_apart (gs 21 _ rfl) (gs 14 _ rfl) y7' YS (by rw [nmM, nmS]; decide)
  have mB : fM.slot ≠ fB.slot := Cond.lays_apart (gs 21 _ rfl) (gs 26 _ rfl) y7' hffB (by rw [nmM, hnB]; decide)
  have mD : fM.slot ≠ fD.slot := Cond.lays_apart (gs 21 _ rfl) (gs 30 _ rfl) y7' hffD (by rw [nmM, hnD]; decide)
  have hSE := gs 24 _ rfl
  obtain ⟨v6, vm6, ⟨T6, L6, c6, n6⟩, hW6, X6, ⟨hv6, C6, n, hn, hD6, q1, q2, q3, q4, hL6, hc6, hn6⟩, come⟩ := X.virtualBack hx (own := tN) (C := rc) (index := 27) (y := tFill) (z := tFill) hown (gs 9 _ rfl) (gs 22 _ rfl) (notFace_of_selects hSE) hSE (gs 2 _ rfl) (by decide)
    (Jvm.Free.Exc.fillPaysAny (l := l) (W := 2 * g.monitorRoom + (rest.map fun v => v.category).sum) hx htr Tc L YF (u0 := ⟨u, hu⟩) (self := a) (cell := cell) (cellS := cellS) (fun _ => by rw [n2]; simp) (by rw [n2]; simp) (by rw [n3]) (by rw [n3]) b7 hsel0 hneS (fun q => by rw [q] at s6; cases s6) s7 (tk tyT (by rw [tyS]; exact own_fA hu))
      ⟨{ ci198 := ci198, i198 := i198, fBack := fB }, ⟨hk198, hg198, ha198, hsB⟩, d7⟩ hTK hBelow Yc hO hkO hkindO hfb hfd (fun x => tk tyB (by rw [htB]; rfl)) (fun x => tk tyD (by rw [htD]; rfl)) hf hlo)
    (b := a) (cB := cell.cls) hfound ⟨cell, by rw [eT]; exact h1, rfl, h4⟩ (g := g) hg hsize (Steps.refl _) (argsL := []) (rest := rest)
    (fun sig h => by rw [show parseMethodDescriptor tFill.desc = some ⟨[], some (.object tN)⟩ from by decide +kernel] at h; rw [← Option.some.inj h]; rfl) hs (Nat.le_refl _) hd
    (fun vmx hWx => ⟨rfl, hc, hsl, by show T.heap[a]? = _; rw [eT]; exact h1, by show T.heap[Tc.aS]? = _; rw [eT]; exact s5⟩)
  dsimp only [Pt.U, Pt.locs, Pt.cells, Pt.slots] at X6 hD6 hL6 hc6 hn6 come
  subst hv6 hL6 hc6 hn6
  have hlocs' : ∀ x ∈ locs ++ [(⟨a, fB.slot⟩ : Loc), ⟨a, fD.slot⟩, ⟨a, Tc.fStack.slot⟩], x ∈ sixLocs Z a := fun x hx => by
    rcases List.mem_append.mp hx with hx | hx
    · exact hlocs x hx
    · have zB : Jvm.RoadKit.slotOf Z tN "backtrace" "Ljava/lang/Object;" = fB.slot := by simp [Jvm.RoadKit.slotOf, d2]
      have zS : Jvm.RoadKit.slotOf Z tN "stackTrace" steD = Tc.fStack.slot := by simp [Jvm.RoadKit.slotOf, b2]
      obtain ⟨c9, k9, i9, z9⟩ := Jvm.Free.BdW.found_ride (U := s) (U' := Z) hal.symm ⟨_, _, _, hffD⟩
      have zD : Jvm.RoadKit.slotOf Z tN "depth" "I" = fD.slot := by simp [Jvm.RoadKit.slotOf, z9]
      simp only [List.mem_cons, List.not_mem_nil, or_false] at hx
      rcases hx with rfl | rfl | rfl
      · rw [← zB]; exact List.mem_map.mpr ⟨("backtrace", "Ljava/lang/Object;"), by simp [Jvm.Free.Exc.sixNames], rfl⟩
      · rw [← zD]; exact List.mem_map.mpr ⟨("depth", "I"), by simp [Jvm.Free.Exc.sixNames], rfl⟩
      · rw [← zS]; exact List.mem_map.mpr ⟨("stackTrace", steD), by simp [Jvm.Free.Exc.sixNames], rfl⟩
  exact ⟨T6, T6.heap, _, X6.more (Nat.le_refl _) (Nat.add_le_add_left hn _), rfl, hlocs', own_kp X6 hlocs', ⟨C6, cfM, kM, iM, fM, hD6, e2, e3, by rw [q2]; exact e4, by rw [q2]; exact e5, by rw [q1]; exact e6, by rw [q4 _ mB mD mS]; exact e7⟩, fun target k => come.trans k⟩
theorem own_six {Z : State} {a0 : Array Value} {rc O n d : String} {ty : FieldType} (w : ∀ x ∈ own_xw rc, x.before a0 Z = true) (Lf : Laid Z a0 rc O n d) (ht : parseFieldDescriptor d = some ty) (hn : ∀ nd ∈ Jvm.Free.Exc.sixNames, nd.1 ≠ n) : ∀ nd ∈ Jvm.Free.Exc.sixNames, Jvm.RoadKit.slotOf Z tN nd.1 nd.2 ≠ Jvm.RoadKit.slotOf Z O n d := fun nd hm => by
  have q := hn nd hm
  have g : ∀ (i : Nat) (d : Jvm.Cond), (own_xw rc)[i]? = some d → d.before a0 Z = true := fun i d h => w d (List.mem_of_getElem? h)
  simp only [Jvm.Free.Exc.sixNames, List.mem_cons, List.not_mem_nil, or_false] at hm
  rcases hm with rfl | rfl | rfl | rfl | rfl | rfl
  · exact slot_ne (Or.inl (g 12 _ rfl)) Lf q (t := .object tN) (by decide) ht
  · exact slot_ne (Or.inl (g 14 _ rfl)) Lf q (t := .array (.object "java/lang/StackTraceElement")) (by decide) ht
  · exact slot_ne (Or.inl (g 16 _ rfl)) Lf q (t := .object "java/util/List") (by decide) ht
  · exact slot_ne (Or.inl (g 26 _ rfl)) Lf q (t := .object "java/lang/Object") (by decide) ht
  · exact slot_ne (Or.inl (g 30 _ rfl)) Lf q (t := .int) (by decide) ht
  · exact slot_ne (Or.inl (g 21 _ rfl)) Lf q (t := .object "java/lang/String") (by decide) ht
theorem own_l3 {Z : State} {a : Addr} : ∀ x ∈ ([] ++ [(⟨a, Jvm.RoadKit.slotOf Z tN "cause" "Ljava/lang/Throwable;"⟩ : Loc)] ++ [⟨a, Jvm.RoadKit.slotOf Z tN "stackTrace" steD⟩] ++ [⟨a, Jvm.RoadKit.slotOf Z tN "suppressedExceptions" listD⟩]), x ∈ sixLocs Z a := fun x hx => by
  simp only [List.nil_append, List.cons_append, List.mem_cons, List.not_mem_nil, or_false] at hx
  rcases hx with rfl | rfl | rfl
  · exact List.mem_map.mpr ⟨("cause", "Ljava/lang/Throwable;"), by simp [Jvm.Free.Exc.sixNames], rfl⟩
  · exact List.mem_map.mpr ⟨("stackTrace", steD), by simp [Jvm.Free.Exc.sixNames], rfl⟩
  · exact List.mem_map.mpr ⟨("suppressedExceptions", listD), by simp [Jvm.Free.Exc.sixNames], rfl⟩
theorem own_nb0 : nar .byte (0 : Int32) = 0 := by decide
theorem own_nz1 : nar .boolean (1 : Int32) = 1 := by decide
theorem own_shr0 (z : Int32) : (z >>> ((0 : Int32) &&& 31)) = z := by
  have e : ((0 : Int32) &&& 31) = 0 := by decide
  rw [e]; exact Int32.shiftRight_zero
theorem own_len3 {vd us : List Value} {a b n : Nat} (h : vd.length = n) (hu : us.length = b) (hab : a + b ≤ n) : (List.take a vd ++ us ++ List.drop (a + b) vd).length = n := by
  simp only [List.length_append, List.length_take, List.length_drop]; omega
def own_dig (p : Int32) : Int32 := Int32.ofNat (48 + p.toNatClampNeg % 10)
def own_ones : List Value := (List.range 100).map fun i => Value.int (Int32.ofNat (48 + i % 10))
theorem own_nn (p : Int32) : (-(-p)) = p := Int32.neg_neg
theorem own_onesAt {p : Int32} (h0 : ¬ p < 0) (h1 : p < (100 : Int32)) : own_ones.getD p.toNatClampNeg (.int (0 : Int32)) = .int (own_dig p) := by
  have t := nat_of h0
  have e1 : ((100 : Int32)).toInt = 100 := by decide
  rw [Int32.lt_iff_toInt_lt] at h1
  have hl : p.toNatClampNeg < 100 := by omega
  rw [own_ones, own_dig, List.getD_eq_getElem?_getD, List.getElem?_map, List.getElem?_range hl]
  rfl
theorem own_onesD {j : Nat} (hj : j < 100) : own_ones.getD j (.int (0 : Int32)) = .int (Int32.ofNat (48 + j % 10)) := by
  rw [own_ones, List.getD_eq_getElem?_getD, List.getElem?_map, List.getElem?_range hj]
  rfl
theorem own_dsum : ∀ j : Fin 100, (48 : Int32) + Int32.ofNat j.1 % 10 = Int32.ofNat (48 + j.1 % 10) := by decide
theorem own_dfit : ∀ j : Fin 100, fits .byte (.int (Int32.ofNat (48 + j.1 % 10))) = true := by decide
theorem own_digits {Z : State} {a0 : Array Value} {t : Term} (ht : ∀ idx, t.eval a0 Z none idx Z = t.eval a0 Z none [] Z) (wa : (Jvm.Cond.arrayClass .byte).before a0 Z = true) (h1 : (Jvm.Cond.exactly t "[B").before a0 Z = true) (h2 : (Jvm.Cond.eq (.length t) (.int (100 : Int32))).before a0 Z = true)
    (h3 : (Jvm.Cond.all t (.eq (.elem t (.index 0)) (.add (.int (48 : Int32)) (.rem (.index 0) (.int (10 : Int32)))))).before a0 Z = true) : ∃ dg k, t.eval a0 Z none [] Z = some (.ref dg) ∧ Arv Z Z.heap dg k .byte (100 : Int32) own_ones (.int (0 : Int32)) := by
  have hlen := Cond.eq_int h2 rfl
  obtain ⟨sd, SA, hev, harrAt, -⟩ := Term.length_spec hlen
  have h31 := Jvm.Free.SBG.length_lt hev harrAt hlen
  have hsz : SA.slots.size = 100 := by
    have e : (Term.length t).eval a0 Z none [] Z = some (.int (Int32.ofNat SA.slots.size)) := by simp [Term.eval, hev, harrAt, h31]
    have h4 : Int32.ofNat SA.slots.size = Int32.ofNat 100 := by simpa using Option.some.inj (e.symm.trans hlen)
    have := congrArg Int32.toInt h4
    rw [Int32.toInt_ofNat_small h31, Int32.toInt_ofNat_small (by omega)] at this; omega
  have hat : ∀ j, j < 100 → SA.slots[j]? = some (.int (Int32.ofNat (48 + j % 10))) := fun j hj => by
    have e0 := Cond.all_elim hev harrAt (Cond.before_iff.mp h3) j (by omega)
    have ev : t.eval a0 Z none [j] Z = some (.ref sd) := (ht _).trans hev
    have ei : (Term.index 0).eval a0 Z none [j] Z = some (.int (Int32.ofNat j)) := rfl
    have ee := Jvm.Free.SBG.elem_at (ix := .index 0) ev harrAt (by omega) h31 ei
    have er : (Term.add (.int (48 : Int32)) (.rem (.index 0) (.int (10 : Int32)))).eval a0 Z none [j] Z = some (.int (Int32.ofNat (48 + j % 10))) := by
      rw [← own_dsum ⟨j, hj⟩]; rfl
    obtain ⟨v, hv⟩ : ∃ v, SA.slots[j]? = some v := ⟨_, Array.getElem?_eq_getElem (by omega)⟩
    rw [hv] at ee
    simp only [Cond.value, ee, er] at e0
    rw [hv]
    cases v with
    | int x => rw [of_decide_eq_true (Option.some.inj e0)]
    | _ => simp at e0
  obtain ⟨a3, c3, cell3, k3, e1, e2, e3, e4, e5, e6, -⟩ := Cond.exactly_spec h1
  cases hev.symm.trans e1
  obtain ⟨c4, k4, comp, f1, f2, f3⟩ := Cond.arrayClass_spec wa
  obtain ⟨hc1, hc2, -⟩ := State.arrayAt?_spec harrAt
  cases hc1.symm.trans e3
  cases (show Z.vm.findClass "[B" = some c4 from f1).symm.trans e2
  have hA : Z.isArrayOf SA .byte := ⟨(fun q r => by rw [r] at e5; cases e5), k4, by rw [e6]; exact f2, comp, f3⟩
  refine ⟨sd, SA.cls, hev, SA, ⟨hc1, hA, hc2⟩, rfl, by rw [hsz]; rfl, by decide, fun j hj => ?_, fun j hj => ?_⟩
  · rw [own_onesD (by omega)]; exact hat j (by omega)
  · rw [own_onesD (by omega)]; exact own_dfit ⟨j, by omega⟩
theorem own_len {a b z : Int32} (u0 : 0 ≤ a.toInt) (u1 : a.toInt ≤ b.toInt) (u2 : b.toInt ≤ z.toInt) (u3 : z.toInt ≤ 8) : ¬ a < 0 ∧ ¬ (b - a) < 0 ∧ (b - a).toNatClampNeg ≤ 8 ∧ a.toNatClampNeg + (b - a).toNatClampNeg ≤ z.toNatClampNeg ∧ (if (b - a) < (z - a) then (b - a) else (z - a)) = b - a ∧ ¬ b < a := by
  have e0 : ((0 : Int32)).toInt = 0 := by decide
  have h1 := c_isub b a
  have h1r := rng32 (b - a)
  have h2 := c_isub z a
  have h2r := rng32 (z - a)
  have ra := rng32 a
  have rz := rng32 z
  have d1 : (b - a).toInt = b.toInt - a.toInt := by omega
  have d2 : (z - a).toInt = z.toInt - a.toInt := by omega
  have na : ¬ a < 0 := by rw [Int32.lt_iff_toInt_lt]; omega
  have nz : ¬ z < 0 := by rw [Int32.lt_iff_toInt_lt]; omega
  have nd : ¬ (b - a) < 0 := by rw [Int32.lt_iff_toInt_lt]; omega
  have ta := nat_of na
  have tz := nat_of nz
  have td := nat_of nd
  refine ⟨na, nd, by omega, by omega, ?_, by rw [Int32.lt_iff_toInt_lt]; omega⟩
  by_cases h : (b - a) < (z - a)
  · rw [if_pos h]
  · rw [if_neg h]
    rw [Int32.lt_iff_toInt_lt] at h
    apply Int32.toInt_inj.mp
    omega
theorem own_cap {a b z : Int32} (u0 : 0 ≤ a.toInt) (u1 : a.toInt ≤ b.toInt) (u2 : b.toInt ≤ z.toInt) (u3 : z.toInt ≤ 8) : z.toNatClampNeg ≤ 8 := by
  have e0 : ((0 : Int32)).toInt = 0 := by decide
  have nz : ¬ z < 0 := by rw [Int32.lt_iff_toInt_lt]; omega
  have tz := nat_of nz
  omega
theorem own_rb {ps p1 zb : Int32} (u0 : 0 ≤ ps.toInt) (u1 : 0 ≤ p1.toInt) (u2 : ps.toInt + p1.toInt ≤ zb.toInt) (u3 : zb.toInt ≤ 8) : ¬ ((0 : Int32) < (lcmpW p1.toInt64 ((zb - ps).toInt64))) ∧ ps.toInt ≤ (ps + p1).toInt ∧ (ps + p1).toInt ≤ zb.toInt := by
  have h1 := c_isub zb ps
  have h1r := rng32 (zb - ps)
  have h2 := c_iadd ps p1
  have h2r := rng32 (ps + p1)
  have d1 : (zb - ps).toInt = zb.toInt - ps.toInt := by omega
  refine ⟨?_, by omega, by omega⟩
  rw [lw_gt, Int64.lt_iff_toInt_lt, c_i2l, c_i2l]
  omega
theorem own_n {n : Int32} (h0 : 0 ≤ n.toInt) (h7 : n.toInt ≤ 7) : ¬ n < 0 ∧ n.toNatClampNeg ≤ 8 := by
  have e0 : ((0 : Int32)).toInt = 0 := by decide
  have nz : ¬ n < 0 := by rw [Int32.lt_iff_toInt_lt]; omega
  have tz := nat_of nz
  exact ⟨nz, by omega⟩
theorem own_cmp0 (n : Int32) : (if (0 : Int32) = n then (1 : Int32) else (0 : Int32)) = (if n = (0 : Int32) then (1 : Int32) else (0 : Int32)) := by
  by_cases h : n = (0 : Int32)
  · rw [if_pos h, if_pos h.symm]
  · rw [if_neg h, if_neg (fun q => h q.symm)]
theorem own_k {k n : Int32} (h : k.toInt ≤ n.toInt) : ((0 : Int32)).toInt + k.toInt ≤ n.toInt := by
  have e0 : ((0 : Int32)).toInt = 0 := by decide
  omega
theorem own_8 {n : Int32} (h : n.toInt ≤ 7) : n.toInt ≤ 8 := by omega
theorem own_if (k n : Int32) (h : k < n) : (if (0 : Int32) + k = n then (1 : Int32) else (0 : Int32)) = (0 : Int32) := by
  rw [Int32.zero_add, if_neg]
  intro q
  rw [q] at h
  exact Int32.lt_irrefl h
theorem own_in (k n : Int32) (h0 : 0 ≤ k.toInt) (h : k < n) : ¬ ((0 : Int32) + k) < 0 ∧ ((0 : Int32) + k) < n := by
  rw [Int32.zero_add]
  have e0 : ((0 : Int32)).toInt = 0 := by decide
  exact ⟨by rw [Int32.lt_iff_toInt_lt]; omega, h⟩
theorem own_nil (i : Nat) (d : Value) : ([] : List Value).getD i d = d := rfl
theorem own_and7 (x : Int32) : 0 ≤ (x &&& (7 : Int32)).toInt ∧ (x &&& (7 : Int32)).toInt ≤ 7 := by
  have h := c_mask x (7 : Int32) 3 (by decide) (by decide)
  omega
theorem own_start {n : Int32} (x : Int32) (h0 : 0 ≤ n.toInt) (h7 : n.toInt ≤ 7) : (n + (1 : Int32)) ≠ 0 ∧ 0 ≤ ((x &&& (2147483647 : Int32)) % (n + (1 : Int32))).toInt ∧ ((x &&& (2147483647 : Int32)) % (n + (1 : Int32))).toInt ≤ n.toInt := by
  have e1 : ((1 : Int32)).toInt = 1 := by decide
  have h1 := c_iadd n (1 : Int32)
  have h1r := rng32 (n + (1 : Int32))
  have h2 := (c_andS x (2147483647 : Int32)).2.2 (by decide)
  have q := (c_iremV (x &&& (2147483647 : Int32)) (n + (1 : Int32))).1 h2 (by omega)
  refine ⟨fun e => ?_, by omega, by omega⟩
  have e0 : ((0 : Int32)).toInt = 0 := by decide
  rw [e] at h1
  omega
theorem own_max (x : Int32) : ¬ ((if (1 : Int32) < x then x else (1 : Int32)) < (1 : Int32)) := by
  have e1 : ((1 : Int32)).toInt = 1 := by decide
  by_cases h : (1 : Int32) < x
  · rw [if_pos h]; rw [Int32.lt_iff_toInt_lt] at h ⊢; omega
  · rw [if_neg h]; exact Int32.lt_irrefl

theorem own_2 {a b z : Int32} (h : a.toInt + b.toInt ≤ z.toInt) (hb : 0 ≤ b.toInt) : ((0 : Int32)).toInt + a.toInt ≤ z.toInt := by
  have e0 : ((0 : Int32)).toInt = 0 := by decide
  omega
theorem own_3 {a : Int32} (h : 0 ≤ a.toInt) : 0 ≤ ((0 : Int32) + a).toInt := by rw [Int32.zero_add]; exact h
theorem own_4 {a b z : Int32} (h : a.toInt + b.toInt ≤ z.toInt) : ((0 : Int32) + a).toInt + b.toInt ≤ z.toInt := by rw [Int32.zero_add]; exact h
theorem own_5 {n a b : Int32} (n7 : n.toInt ≤ 7) (ha : 0 ≤ a.toInt) (hb : 0 ≤ b.toInt) (h : a.toInt + b.toInt ≤ n.toInt) : ¬ (((0 : Int32) + a) + b) < 0 ∧ (-10 : Int32) < (-(((0 : Int32) + a) + b)) ∧ (-100 : Int32) < (-(((0 : Int32) + a) + b)) ∧ ¬ (-(((0 : Int32) + a) + b)) < (-9 : Int32) ∧ (((0 : Int32) + a) + b) < (100 : Int32) := by
  rw [Int32.zero_add]
  have h1 := c_iadd a b
  have h1r := rng32 (a + b)
  have h2 := c_ineg (a + b)
  have h2r := rng32 (-(a + b))
  have e0 : ((0 : Int32)).toInt = 0 := by decide
  have e1 : ((-10 : Int32)).toInt = -10 := by decide
  have e2 : ((-100 : Int32)).toInt = -100 := by decide
  have e3 : ((-9 : Int32)).toInt = -9 := by decide
  have e4 : ((100 : Int32)).toInt = 100 := by decide
  simp only [Int32.lt_iff_toInt_lt]
  omega
theorem ef_0 (m : MethodId) (x0 : Int32) (x1 : Int32) : entryFrame m #[(.int x0), (.int x1)] 2 = mkF m 0 #[vi x0, vi x1] [] := by first | (simp [entryFrame, mkF, argsToLocals, Value.category]; done) | rfl
theorem d25_0 : decode jdk_29_method_65_code 0 = .ok (.iload_n 0, 1) := by decide +kernel
theorem d25_1 : decode jdk_29_method_65_code 1 = .ok (.iload_n 1, 1) := by decide +kernel
theorem d25_2 : decode jdk_29_method_65_code 2 = .ok (.if_icmp .lt 7, 3) := by decide +kernel
theorem d25_9 : decode jdk_29_method_65_code 9 = .ok (.iload_n 1, 1) := by decide +kernel
theorem d25_10 : decode jdk_29_method_65_code 10 = .ok (.ireturn, 1) := by decide +kernel
theorem d25_5 : decode jdk_29_method_65_code 5 = .ok (.iload_n 0, 1) := by decide +kernel
theorem d25_6 : decode jdk_29_method_65_code 6 = .ok (.goto 4, 3) := by decide +kernel
def Q_rmMax (Z : State) (p0 : Int32) (p1 : Int32) (h0 : Heap) (n0 : Nat) (v : Option Value) (h : Heap) (L : List Loc) : Prop := (v = some (.int (if p0 < p1 then p1 else p0)) ∧ Fr n0 L ∧ h = h0)
set_option maxRecDepth 65536 in
set_option maxHeartbeats 40000000 in
theorem rmMax (l : Launch) (Z : State) (a0 : Array Value) (hw : ∀ d ∈ tables_1, d.before a0 Z = true) (ws : List Jvm.Cond) (p0 : Int32) (p1 : Int32) (h0 : Heap) (n0 : Nat) (Z0 : n0 ≤ h0.size) :
    MetFree l (⟨"java/lang/Math", "max", "(II)I"⟩ : MethodName) (head1 (Jvm.Cond.code (⟨"java/lang/Math", "max", "(II)I"⟩ : MethodName) jdk_29_method_65_code 2 (some .int) :: ws) ({ frames := 0, cells := 0, slots := 0, locals := 0 } : Room)) (fun a U => a = #[(.int p0), (.int p1)] ∧ Z.Warmed39 U.vm ∧ U.heap = h0) (fun _ _ _ _ _ => True) (fun _ U o U' => ∃ v L, o = .returned v ∧ Q_rmMax Z p0 p1 h0 n0 v U'.heap L ∧ FrameEnd U o U' L ({ frames := 0, cells := 0, slots := 0, locals := 0 } : Room).cells ({ frames := 0, cells := 0, slots := 0, locals := 0 } : Room).slots) := by
  refine MetFree.of_bodySF (Jvm.Free.JP.mathPlain rfl (by decide +kernel)) hisR ?_
  intro p e s m args below meth c s₁ Bd hml0 hP hK
  obtain ⟨rfl, hZ, hh⟩ := hP
  have hx := Bd.exec
  have hby := Bd.bytes
  have hml : c.maxLocals = 2 := hml0
  have hown : s.vm.findClass "java/lang/Math" = some m.cls := findClass_of_methodNamed Bd.named
  have hnm := (name_of_methodNamed Bd.named Bd.method).1
  have X0 : Stand p l e ({ frames := 0, cells := 0, slots := 0, locals := 0 } : Room) s m #[(.int p0), (.int p1)] below meth c s₁ [] 0 0 := Stand.of_body Bd
  have e0 : s₁.heap = h0 := by rw [← hh, Bd.state]; rfl
  have N0 := Fr.nil n0
  have pre0 : ∀ t, Steps p.tables e below (s₁.setTop (mkF m 0 #[vi p0, vi p1] [])) t → Steps p.tables e below (s₁.setTop (entryFrame m #[(.int p0), (.int p1)] 2)) t := fun t k => castTop (ef_0 m p0 p1) k
  by_cases hc2 : p0 < p1
  · obtain ⟨fs, hr, hrun, hended, hW, hsame⟩ := X0.leave (v := some (.int p1)) (fun h => by rw [Bd.returns] at h; cases h)
    refine ⟨_, _, pre0 _ ?_, hrun, hended, _, _, rfl, ?_, ⟨_, rfl⟩, hW, hsame.mono (by decide) (by decide)⟩
    · show SS p e below s₁ (mkF m 0 #[vi p0, vi p1] []) _
      refine XS.iloadN X0.here hx rfl (hb hby d25_0) rfl ?_
      show SS p e below s₁ (mkF m 1 #[vi p0, vi p1] [(.int p0)]) _
      refine XS.iloadN X0.here hx rfl (hb hby d25_1) rfl ?_
      show SS p e below s₁ (mkF m 2 #[vi p0, vi p1] [(.int p1), (.int p0)]) _
      refine XS.icmpYes X0.here hx rfl (pc0 := 2) (pc' := 9) rfl (hb hby d25_2) rfl (tlt (hc2 : p0 < p1)).1 (by decide) (by decide) ?_
      show SS p e below s₁ (mkF m 9 #[vi p0, vi p1] []) _
      refine XS.iloadN X0.here hx rfl (hb hby d25_9) rfl ?_
      show SS p e below s₁ (mkF m 10 #[vi p0, vi p1] [(.int p1)]) _
      exact retI X0 hx Bd.returns (hb hby d25_10) hr
    · show Q_rmMax Z p0 p1 h0 n0 _ s₁.heap _
      rw [e0]
      exact ⟨(by rw [if_pos hc2]), N0, rfl⟩
  · obtain ⟨fs, hr, hrun, hended, hW, hsame⟩ := X0.leave (v := some (.int p0)) (fun h => by rw [Bd.returns] at h; cases h)
    refine ⟨_, _, pre0 _ ?_, hrun, hended, _, _, rfl, ?_, ⟨_, rfl⟩, hW, hsame.mono (by decide) (by decide)⟩
    · show SS p e below s₁ (mkF m 0 #[vi p0, vi p1] []) _
      refine XS.iloadN X0.here hx rfl (hb hby d25_0) rfl ?_
      show SS p e below s₁ (mkF m 1 #[vi p0, vi p1] [(.int p0)]) _
      refine XS.iloadN X0.here hx rfl (hb hby d25_1) rfl ?_
      show SS p e below s₁ (mkF m 2 #[vi p0, vi p1] [(.int p1), (.int p0)]) _
      refine XS.icmpNo X0.here hx rfl (hb hby d25_2) rfl (flt (hc2 : ¬ (p0 < p1))).1 ?_
      show SS p e below s₁ (mkF m 5 #[vi p0, vi p1] []) _
      refine XS.iloadN X0.here hx rfl (hb hby d25_5) rfl ?_
      show SS p e below s₁ (mkF m 6 #[vi p0, vi p1] [(.int p0)]) _
      refine XS.goto X0.here hx rfl (pc0 := 6) (pc' := 10) rfl (hb hby d25_6) (by decide) (by decide) ?_
      show SS p e below s₁ (mkF m 10 #[vi p0, vi p1] [(.int p0)]) _
      exact retI X0 hx Bd.returns (hb hby d25_10) hr
    · show Q_rmMax Z p0 p1 h0 n0 _ s₁.heap _
      rw [e0]
      exact ⟨(by rw [if_neg hc2]), N0, rfl⟩
theorem ef_1 (m : MethodId) (x0 : Int32) (x1 : Int32) : entryFrame m #[(.int x0), (.int x1)] 2 = mkF m 0 #[vi x0, vi x1] [] := by first | (simp [entryFrame, mkF, argsToLocals, Value.category]; done) | rfl
theorem d27_0 : decode jdk_29_method_69_code 0 = .ok (.iload_n 0, 1) := by decide +kernel
theorem d27_1 : decode jdk_29_method_69_code 1 = .ok (.iload_n 1, 1) := by decide +kernel
theorem d27_2 : decode jdk_29_method_69_code 2 = .ok (.if_icmp .gt 7, 3) := by decide +kernel
theorem d27_9 : decode jdk_29_method_69_code 9 = .ok (.iload_n 1, 1) := by decide +kernel
theorem d27_10 : decode jdk_29_method_69_code 10 = .ok (.ireturn, 1) := by decide +kernel
theorem d27_5 : decode jdk_29_method_69_code 5 = .ok (.iload_n 0, 1) := by decide +kernel
theorem d27_6 : decode jdk_29_method_69_code 6 = .ok (.goto 4, 3) := by decide +kernel
def Q_rmMin (Z : State) (p0 : Int32) (p1 : Int32) (h0 : Heap) (n0 : Nat) (v : Option Value) (h : Heap) (L : List Loc) : Prop := (v = some (.int (if p1 < p0 then p1 else p0)) ∧ Fr n0 L ∧ h = h0)
set_option maxRecDepth 65536 in
set_option maxHeartbeats 40000000 in
theorem rmMin (l : Launch) (Z : State) (a0 : Array Value) (hw : ∀ d ∈ tables_1, d.before a0 Z = true) (ws : List Jvm.Cond) (p0 : Int32) (p1 : Int32) (h0 : Heap) (n0 : Nat) (Z0 : n0 ≤ h0.size) :
    MetFree l (⟨"java/lang/Math", "min", "(II)I"⟩ : MethodName) (head1 (Jvm.Cond.code (⟨"java/lang/Math", "min", "(II)I"⟩ : MethodName) jdk_29_method_69_code 2 (some .int) :: ws) ({ frames := 0, cells := 0, slots := 0, locals := 0 } : Room)) (fun a U => a = #[(.int p0), (.int p1)] ∧ Z.Warmed39 U.vm ∧ U.heap = h0) (fun _ _ _ _ _ => True) (fun _ U o U' => ∃ v L, o = .returned v ∧ Q_rmMin Z p0 p1 h0 n0 v U'.heap L ∧ FrameEnd U o U' L ({ frames := 0, cells := 0, slots := 0, locals := 0 } : Room).cells ({ frames := 0, cells := 0, slots := 0, locals := 0 } : Room).slots) := by
  refine MetFree.of_bodySF (Jvm.Free.JP.mathPlain rfl (by decide +kernel)) hisR ?_
  intro p e s m args below meth c s₁ Bd hml0 hP hK
  obtain ⟨rfl, hZ, hh⟩ := hP
  have hx := Bd.exec
  have hby := Bd.bytes
  have hml : c.maxLocals = 2 := hml0
  have hown : s.vm.findClass "java/lang/Math" = some m.cls := findClass_of_methodNamed Bd.named
  have hnm := (name_of_methodNamed Bd.named Bd.method).1
  have X0 : Stand p l e ({ frames := 0, cells := 0, slots := 0, locals := 0 } : Room) s m #[(.int p0), (.int p1)] below meth c s₁ [] 0 0 := Stand.of_body Bd
  have e0 : s₁.heap = h0 := by rw [← hh, Bd.state]; rfl
  have N0 := Fr.nil n0
  have pre0 : ∀ t, Steps p.tables e below (s₁.setTop (mkF m 0 #[vi p0, vi p1] [])) t → Steps p.tables e below (s₁.setTop (entryFrame m #[(.int p0), (.int p1)] 2)) t := fun t k => castTop (ef_1 m p0 p1) k
  by_cases hc2 : p1 < p0
  · obtain ⟨fs, hr, hrun, hended, hW, hsame⟩ := X0.leave (v := some (.int p1)) (fun h => by rw [Bd.returns] at h; cases h)
    refine ⟨_, _, pre0 _ ?_, hrun, hended, _, _, rfl, ?_, ⟨_, rfl⟩, hW, hsame.mono (by decide) (by decide)⟩
    · show SS p e below s₁ (mkF m 0 #[vi p0, vi p1] []) _
      refine XS.iloadN X0.here hx rfl (hb hby d27_0) rfl ?_
      show SS p e below s₁ (mkF m 1 #[vi p0, vi p1] [(.int p0)]) _
      refine XS.iloadN X0.here hx rfl (hb hby d27_1) rfl ?_
      show SS p e below s₁ (mkF m 2 #[vi p0, vi p1] [(.int p1), (.int p0)]) _
      refine XS.icmpYes X0.here hx rfl (pc0 := 2) (pc' := 9) rfl (hb hby d27_2) rfl (tlt (hc2 : p1 < p0)).2.2.1 (by decide) (by decide) ?_
      show SS p e below s₁ (mkF m 9 #[vi p0, vi p1] []) _
      refine XS.iloadN X0.here hx rfl (hb hby d27_9) rfl ?_
      show SS p e below s₁ (mkF m 10 #[vi p0, vi p1] [(.int p1)]) _
      exact retI X0 hx Bd.returns (hb hby d27_10) hr
    · show Q_rmMin Z p0 p1 h0 n0 _ s₁.heap _
      rw [e0]
      exact ⟨(by rw [if_pos hc2]), N0, rfl⟩
  · obtain ⟨fs, hr, hrun, hended, hW, hsame⟩ := X0.leave (v := some (.int p0)) (fun h => by rw [Bd.returns] at h; cases h)
    refine ⟨_, _, pre0 _ ?_, hrun, hended, _, _, rfl, ?_, ⟨_, rfl⟩, hW, hsame.mono (by decide) (by decide)⟩
    · show SS p e below s₁ (mkF m 0 #[vi p0, vi p1] []) _
      refine XS.iloadN X0.here hx rfl (hb hby d27_0) rfl ?_
      show SS p e below s₁ (mkF m 1 #[vi p0, vi p1] [(.int p0)]) _
      refine XS.iloadN X0.here hx rfl (hb hby d27_1) rfl ?_
      show SS p e below s₁ (mkF m 2 #[vi p0, vi p1] [(.int p1), (.int p0)]) _
      refine XS.icmpNo X0.here hx rfl (hb hby d27_2) rfl (flt (hc2 : ¬ (p1 < p0))).2.2.1 ?_
      show SS p e below s₁ (mkF m 5 #[vi p0, vi p1] []) _
      refine XS.iloadN X0.here hx rfl (hb hby d27_5) rfl ?_
      show SS p e below s₁ (mkF m 6 #[vi p0, vi p1] [(.int p0)]) _
      refine XS.goto X0.here hx rfl (pc0 := 6) (pc' := 10) rfl (hb hby d27_6) (by decide) (by decide) ?_
      show SS p e below s₁ (mkF m 10 #[vi p0, vi p1] [(.int p0)]) _
      exact retI X0 hx Bd.returns (hb hby d27_10) hr
    · show Q_rmMin Z p0 p1 h0 n0 _ s₁.heap _
      rw [e0]
      exact ⟨(by rw [if_neg hc2]), N0, rfl⟩
theorem ef_2 (m : MethodId) (x0 : Addr) : entryFrame m #[(.ref x0)] 1 = mkF m 0 #[vr x0] [] := by first | (simp [entryFrame, mkF, argsToLocals, Value.category]; done) | rfl
theorem pn_0 : plainName "java/lang/String" = true := by first | (simp [plainName, overriddenIn]; done) | decide +kernel
theorem d18_0 : decode jdk_42_method_152_code 0 = .ok (.getstatic 38, 3) := by decide +kernel
theorem d18_3 : decode jdk_42_method_152_code 3 = .ok (.ifCond .eq 10, 3) := by decide +kernel
theorem d18_6 : decode jdk_42_method_152_code 6 = .ok (.aload_n 0, 1) := by decide +kernel
theorem d18_7 : decode jdk_42_method_152_code 7 = .ok (.getfield 15, 3) := by decide +kernel
theorem d18_10 : decode jdk_42_method_152_code 10 = .ok (.goto 4, 3) := by decide +kernel
theorem d18_14 : decode jdk_42_method_152_code 14 = .ok (.ireturn, 1) := by decide +kernel
def Q_rmCoder (Z : State) (r0 : Addr) (zc : Int32) (h0 : Heap) (n0 : Nat) (v : Option Value) (h : Heap) (L : List Loc) : Prop := (v = some (.int (0 : Int32)) ∧ Fr n0 L ∧ h = h0)
set_option maxRecDepth 65536 in
set_option maxHeartbeats 40000000 in
theorem rmCoder (l : Launch) (Z : State) (a0 : Array Value) (hw : ∀ d ∈ tables_1, d.before a0 Z = true) (ws : List Jvm.Cond) (r0 : Addr) (zc : Int32) (h0 : Heap) (n0 : Nat) (Z0 : n0 ≤ h0.size) (uO : Old Z n0 h0) (uS : Sta Z Z.heap "java/lang/String" "COMPACT_STRINGS" "Z" (.int zc)) (uP : ¬ zc = 0) (uc : Fld Z h0 r0 "java/lang/String" "coder" "B" (.int (0 : Int32))) :
    MetFree l (⟨"java/lang/String", "coder", "()B"⟩ : MethodName) (head1 (Jvm.Cond.code (⟨"java/lang/String", "coder", "()B"⟩ : MethodName) jdk_42_method_152_code 1 (some .byte) :: ws) ({ frames := 0, cells := 0, slots := 0, locals := 0 } : Room)) (fun a U => a = #[(.ref r0)] ∧ Z.Warmed39 U.vm ∧ U.heap = h0) (fun _ _ _ _ _ => True) (fun _ U o U' => ∃ v L, o = .returned v ∧ Q_rmCoder Z r0 zc h0 n0 v U'.heap L ∧ FrameEnd U o U' L ({ frames := 0, cells := 0, slots := 0, locals := 0 } : Room).cells ({ frames := 0, cells := 0, slots := 0, locals := 0 } : Room).slots) := by
  refine MetFree.of_bodySF (plainFor_of_name pn_0) hisR ?_
  intro p e s m args below meth c s₁ Bd hml0 hP hK
  obtain ⟨rfl, hZ, hh⟩ := hP
  have hx := Bd.exec
  have hby := Bd.bytes
  have hml : c.maxLocals = 1 := hml0
  have hown : s.vm.findClass "java/lang/String" = some m.cls := findClass_of_methodNamed Bd.named
  have hnm := (name_of_methodNamed Bd.named Bd.method).1
  have X0 : Stand p l e ({ frames := 0, cells := 0, slots := 0, locals := 0 } : Room) s m #[(.ref r0)] below meth c s₁ [] 0 0 := Stand.of_body Bd
  have e0 : s₁.heap = h0 := by rw [← hh, Bd.state]; rfl
  have N0 := Fr.nil n0
  have pre0 : ∀ t, Steps p.tables e below (s₁.setTop (mkF m 0 #[vr r0] [])) t → Steps p.tables e below (s₁.setTop (entryFrame m #[(.ref r0)] 1)) t := fun t k => castTop (ef_2 m r0) k
  obtain ⟨T1, X1, e1, st1⟩ := getS2 X0 hx hZ hown (host := "") (Or.inl (wd hw 121 rfl)) Via.refl e0 (uS.ext uO.2) (g := (mkF m 0 #[vr r0] [])) rfl (hb hby d18_0)
  obtain ⟨T2, X2, e2, st2⟩ := getF X1 hx hZ hown (host := "") (Or.inl (wd hw 122 rfl)) Via.refl e1 uc (g := (mkF m 7 #[vr r0] [(.ref r0)])) rfl rfl (hb hby d18_7)
  obtain ⟨fs, hr, hrun, hended, hW, hsame⟩ := X2.leave (v := some (.int (nar .byte (0 : Int32)))) (fun h => by rw [Bd.returns] at h; cases h)
  refine ⟨_, _, pre0 _ ?_, hrun, hended, _, _, rfl, ?_, ⟨_, rfl⟩, hW, hsame.mono (by decide) (by decide)⟩
  · show SS p e below s₁ (mkF m 0 #[vr r0] []) _
    refine st1 _ ?_
    show SS p e below T1 (mkF m 3 #[vr r0] [(.int zc)]) _
    refine XS.ifNo X1.here hx rfl (hb hby d18_3) rfl ((if0 _ _).trans (feq (uP : ¬ (zc = (0 : Int32)))).1) ?_
    show SS p e below T1 (mkF m 6 #[vr r0] []) _
    refine XS.aloadN X1.here hx rfl (hb hby d18_6) rfl rfl ?_
    show SS p e below T1 (mkF m 7 #[vr r0] [(.ref r0)]) _
    refine st2 _ ?_
    show SS p e below T2 (mkF m 10 #[vr r0] [(.int (0 : Int32))]) _
    refine XS.goto X2.here hx rfl (pc0 := 10) (pc' := 14) rfl (hb hby d18_10) (by decide) (by decide) ?_
    show SS p e below T2 (mkF m 14 #[vr r0] [(.int (0 : Int32))]) _
    exact retN X2 hx (t := .byte) Bd.returns (by simp) (hb hby d18_14) hr
  · show Q_rmCoder Z r0 zc h0 n0 _ T2.heap _
    rw [e2]
    exact ⟨(congrArg (fun z => some (Value.int z)) own_nb0), N0, rfl⟩
theorem ef_3 (m : MethodId) (x0 : Addr) : entryFrame m #[(.ref x0)] 1 = mkF m 0 #[vr x0] [] := by first | (simp [entryFrame, mkF, argsToLocals, Value.category]; done) | rfl
theorem d17_0 : decode jdk_42_method_54_code 0 = .ok (.aload_n 0, 1) := by decide +kernel
theorem d17_1 : decode jdk_42_method_54_code 1 = .ok (.getfield 9, 3) := by decide +kernel
theorem d17_4 : decode jdk_42_method_54_code 4 = .ok (.arraylength, 1) := by decide +kernel
theorem d17_5 : decode jdk_42_method_54_code 5 = .ok (.aload_n 0, 1) := by decide +kernel
theorem d17_6 : decode jdk_42_method_54_code 6 = .ok (.invokevirtual 335, 3) := by decide +kernel
theorem pd_0 : parseMethodDescriptor "()B" = some ⟨[], some .byte⟩ := by decide +kernel
theorem d17_9 : decode jdk_42_method_54_code 9 = .ok (.ishr, 1) := by decide +kernel
theorem d17_10 : decode jdk_42_method_54_code 10 = .ok (.ireturn, 1) := by decide +kernel
def Q_rmLen (Z : State) (r0 : Addr) (zc : Int32) (rt : Addr) (kt : ClassId) (zt : Int32) (vt : List Value) (h0 : Heap) (n0 : Nat) (v : Option Value) (h : Heap) (L : List Loc) : Prop := (v = some (.int zt) ∧ Fr n0 L ∧ h = h0)
set_option maxRecDepth 65536 in
set_option maxHeartbeats 40000000 in
theorem rmLen (l : Launch) (Z : State) (a0 : Array Value) (hw : ∀ d ∈ tables_1, d.before a0 Z = true) (ws : List Jvm.Cond) (r0 : Addr) (zc : Int32) (rt : Addr) (kt : ClassId) (zt : Int32) (vt : List Value) (h0 : Heap) (n0 : Nat) (Z0 : n0 ≤ h0.size) (uO : Old Z n0 h0) (uS : Sta Z Z.heap "java/lang/String" "COMPACT_STRINGS" "Z" (.int zc)) (uP : ¬ zc = 0) (uE : Exa Z h0 r0 "java/lang/String") (uv : Fld Z h0 r0 "java/lang/String" "value" "[B" (.ref rt)) (uc : Fld Z h0 r0 "java/lang/String" "coder" "B" (.int (0 : Int32))) (uV : Arv Z h0 rt kt .byte zt vt (.int (0 : Int32))) :
    MetFree l (⟨"java/lang/String", "length", "()I"⟩ : MethodName) (head1 (Jvm.Cond.code (⟨"java/lang/String", "length", "()I"⟩ : MethodName) jdk_42_method_54_code 1 (some .int) :: ws) ({ frames := 1, cells := 0, slots := 0, locals := 13 } : Room)) (fun a U => a = #[(.ref r0)] ∧ Z.Warmed39 U.vm ∧ U.heap = h0) (fun _ _ _ _ _ => True) (fun _ U o U' => ∃ v L, o = .returned v ∧ Q_rmLen Z r0 zc rt kt zt vt h0 n0 v U'.heap L ∧ FrameEnd U o U' L ({ frames := 1, cells := 0, slots := 0, locals := 13 } : Room).cells ({ frames := 1, cells := 0, slots := 0, locals := 13 } : Room).slots) := by
  refine MetFree.of_bodySF (plainFor_of_name pn_0) hisR ?_
  intro p e s m args below meth c s₁ Bd hml0 hP hK
  obtain ⟨rfl, hZ, hh⟩ := hP
  have hx := Bd.exec
  have hby := Bd.bytes
  have hml : c.maxLocals = 1 := hml0
  have hown : s.vm.findClass "java/lang/String" = some m.cls := findClass_of_methodNamed Bd.named
  have hnm := (name_of_methodNamed Bd.named Bd.method).1
  have X0 : Stand p l e ({ frames := 1, cells := 0, slots := 0, locals := 13 } : Room) s m #[(.ref r0)] below meth c s₁ [] 0 0 := Stand.of_body Bd
  have e0 : s₁.heap = h0 := by rw [← hh, Bd.state]; rfl
  have N0 := Fr.nil n0
  have pre0 : ∀ t, Steps p.tables e below (s₁.setTop (mkF m 0 #[vr r0] [])) t → Steps p.tables e below (s₁.setTop (entryFrame m #[(.ref r0)] 1)) t := fun t k => castTop (ef_3 m r0) k
  obtain ⟨T1, X1, e1, st1⟩ := getF X0 hx hZ hown (host := "") (Or.inl (wd hw 115 rfl)) Via.refl e0 uv (g := (mkF m 1 #[vr r0] [(.ref r0)])) rfl rfl (hb hby d17_1)
  obtain ⟨cl2, Ar2, q2, S2, Nn2, H2, G2⟩ := (id uV)
  obtain ⟨cq3, kq3, q3a, q3b, q3c⟩ := isOf hZ e1 uE
  obtain ⟨_, _, ⟨T3, Lw3, kw3, nw3⟩, -, X3, ⟨Lc3, hQ3, lq3, yq3, zq3⟩, st3⟩ := X1.virtualBack hx (y := (⟨"java/lang/String", "coder", "()B"⟩ : MethodName)) (z := (⟨"java/lang/String", "coder", "()B"⟩ : MethodName)) hown (mvT hZ (wd hw 116 rfl)) (mvT hZ (wd hw 117 rfl)) (notFace_of_selects (args := #[]) (mvT hZ (wd hw 119 rfl))) (mvT hZ (wd hw 119 rfl)) (mvT hZ (wd hw 118 rfl)) (by decide) (backOf (W := 1) (rmCoder l Z a0 hw [] r0 zc h0 n0 Z0 uO uS uP uc) hZ (wd hw 120 rfl) (wd hw 14 rfl) (by decide) (by decide)) q3a q3c (g := (mkF m 6 #[vr r0] [(.ref r0), (.int zt)])) rfl (by rw [hml]; rfl) (Steps.refl _) (argsL := []) (rest := [(.int zt)]) (lenOf pd_0 rfl) rfl (by show 2 * 0 + _ ≤ _; exact Nat.le_of_eq rfl) (hb hby d17_6) (fun _ _ => ⟨rfl, e1, (by decide : 0 + 0 ≤ _), (by decide : 0 + 0 ≤ _)⟩)
  dsimp only [Pt.U, Pt.locs, Pt.cells, Pt.slots] at X3 lq3 yq3 zq3 st3 hQ3
  have X3 := own_reb X3 lq3 yq3 zq3
  obtain ⟨rfl, Nq3, eh3⟩ := hQ3
  have N3 := Fr.app N0 Nq3
  obtain ⟨fs, hr, hrun, hended, hW, hsame⟩ := X3.leave (v := some (.int zt)) (fun h => by rw [Bd.returns] at h; cases h)
  refine ⟨_, _, pre0 _ ?_, hrun, hended, _, _, rfl, ?_, ⟨_, rfl⟩, hW, hsame.mono (by decide) (by decide)⟩
  · show SS p e below s₁ (mkF m 0 #[vr r0] []) _
    refine XS.aloadN X0.here hx rfl (hb hby d17_0) rfl rfl ?_
    show SS p e below s₁ (mkF m 1 #[vr r0] [(.ref r0)]) _
    refine st1 _ ?_
    show SS p e below T1 (mkF m 4 #[vr r0] [(.ref rt)]) _
    refine X1.arraylength hx (own_at e1 Ar2.1) (State.isArrayOf_alike hZ.alike Ar2.2.1) (g := (mkF m 4 #[vr r0] [(.ref rt)])) rfl rfl (hb hby d17_4) _ ?_
    rw [len_of S2 Nn2]
    show SS p e below T1 (mkF m 5 #[vr r0] [(.int zt)]) _
    refine XS.aloadN X1.here hx rfl (hb hby d17_5) rfl rfl ?_
    show SS p e below T1 (mkF m 6 #[vr r0] [(.ref r0), (.int zt)]) _
    refine st3.trans ?_
    show SS p e below T3 (mkF m 9 #[vr r0] [(.int (0 : Int32)), (.int zt)]) _
    refine XS.ishr X3.here hx rfl (hb hby d17_9) rfl ?_
    show SS p e below T3 (mkF m 10 #[vr r0] [(.int (zt >>> ((0 : Int32) &&& 31)))]) _
    rw [own_shr0 zt]
    show SS p e below T3 (mkF m 10 #[vr r0] [(.int zt)]) _
    exact retI X3 hx Bd.returns (hb hby d17_10) hr
  · show Q_rmLen Z r0 zc rt kt zt vt h0 n0 _ T3.heap _
    rw [eh3]
    exact ⟨rfl, N3, rfl⟩
theorem ef_4 (m : MethodId) (x0 : Addr) : entryFrame m #[(.ref x0)] 1 = mkF m 0 #[vr x0] [] := by first | (simp [entryFrame, mkF, argsToLocals, Value.category]; done) | rfl
theorem pn_1 : plainName "java/lang/AbstractStringBuilder" = true := by first | (simp [plainName, overriddenIn]; done) | decide +kernel
theorem d31_0 : decode jdk_68_method_68_code 0 = .ok (.getstatic 18, 3) := by decide +kernel
theorem d31_3 : decode jdk_68_method_68_code 3 = .ok (.ifCond .eq 14, 3) := by decide +kernel
theorem d31_6 : decode jdk_68_method_68_code 6 = .ok (.aload_n 0, 1) := by decide +kernel
theorem d31_7 : decode jdk_68_method_68_code 7 = .ok (.getfield 22, 3) := by decide +kernel
theorem d31_10 : decode jdk_68_method_68_code 10 = .ok (.ifCond .ne 7, 3) := by decide +kernel
theorem d31_13 : decode jdk_68_method_68_code 13 = .ok (.iconst 1, 1) := by decide +kernel
theorem d31_14 : decode jdk_68_method_68_code 14 = .ok (.goto 4, 3) := by decide +kernel
theorem d31_18 : decode jdk_68_method_68_code 18 = .ok (.ireturn, 1) := by decide +kernel
def Q_rmIL (Z : State) (r0 : Addr) (zc : Int32) (h0 : Heap) (n0 : Nat) (v : Option Value) (h : Heap) (L : List Loc) : Prop := (v = some (.int (1 : Int32)) ∧ Fr n0 L ∧ h = h0)
set_option maxRecDepth 65536 in
set_option maxHeartbeats 40000000 in
theorem rmIL (l : Launch) (Z : State) (a0 : Array Value) (hw : ∀ d ∈ tables_1, d.before a0 Z = true) (ws : List Jvm.Cond) (r0 : Addr) (zc : Int32) (h0 : Heap) (n0 : Nat) (Z0 : n0 ≤ h0.size) (uO : Old Z n0 h0) (uS : Sta Z Z.heap "java/lang/String" "COMPACT_STRINGS" "Z" (.int zc)) (uP : ¬ zc = 0) (uc : Fld Z h0 r0 "java/lang/AbstractStringBuilder" "coder" "B" (.int (0 : Int32))) :
    MetFree l (⟨"java/lang/AbstractStringBuilder", "isLatin1", "()Z"⟩ : MethodName) (head1 (Jvm.Cond.code (⟨"java/lang/AbstractStringBuilder", "isLatin1", "()Z"⟩ : MethodName) jdk_68_method_68_code 1 (some .boolean) :: ws) ({ frames := 0, cells := 0, slots := 0, locals := 0 } : Room)) (fun a U => a = #[(.ref r0)] ∧ Z.Warmed39 U.vm ∧ U.heap = h0) (fun _ _ _ _ _ => True) (fun _ U o U' => ∃ v L, o = .returned v ∧ Q_rmIL Z r0 zc h0 n0 v U'.heap L ∧ FrameEnd U o U' L ({ frames := 0, cells := 0, slots := 0, locals := 0 } : Room).cells ({ frames := 0, cells := 0, slots := 0, locals := 0 } : Room).slots) := by
  refine MetFree.of_bodySF (plainFor_of_name pn_1) hisR ?_
  intro p e s m args below meth c s₁ Bd hml0 hP hK
  obtain ⟨rfl, hZ, hh⟩ := hP
  have hx := Bd.exec
  have hby := Bd.bytes
  have hml : c.maxLocals = 1 := hml0
  have hown : s.vm.findClass "java/lang/AbstractStringBuilder" = some m.cls := findClass_of_methodNamed Bd.named
  have hnm := (name_of_methodNamed Bd.named Bd.method).1
  have X0 : Stand p l e ({ frames := 0, cells := 0, slots := 0, locals := 0 } : Room) s m #[(.ref r0)] below meth c s₁ [] 0 0 := Stand.of_body Bd
  have e0 : s₁.heap = h0 := by rw [← hh, Bd.state]; rfl
  have N0 := Fr.nil n0
  have pre0 : ∀ t, Steps p.tables e below (s₁.setTop (mkF m 0 #[vr r0] [])) t → Steps p.tables e below (s₁.setTop (entryFrame m #[(.ref r0)] 1)) t := fun t k => castTop (ef_4 m r0) k
  obtain ⟨T1, X1, e1, st1⟩ := getS2 X0 hx hZ hown (host := "") (Or.inl (wd hw 95 rfl)) Via.refl e0 (uS.ext uO.2) (g := (mkF m 0 #[vr r0] [])) rfl (hb hby d31_0)
  obtain ⟨T2, X2, e2, st2⟩ := getF X1 hx hZ hown (host := "") (Or.inl (wd hw 98 rfl)) Via.refl e1 uc (g := (mkF m 7 #[vr r0] [(.ref r0)])) rfl rfl (hb hby d31_7)
  obtain ⟨fs, hr, hrun, hended, hW, hsame⟩ := X2.leave (v := some (.int (nar .boolean (1 : Int32)))) (fun h => by rw [Bd.returns] at h; cases h)
  refine ⟨_, _, pre0 _ ?_, hrun, hended, _, _, rfl, ?_, ⟨_, rfl⟩, hW, hsame.mono (by decide) (by decide)⟩
  · show SS p e below s₁ (mkF m 0 #[vr r0] []) _
    refine st1 _ ?_
    show SS p e below T1 (mkF m 3 #[vr r0] [(.int zc)]) _
    refine XS.ifNo X1.here hx rfl (hb hby d31_3) rfl ((if0 _ _).trans (feq (uP : ¬ (zc = (0 : Int32)))).1) ?_
    show SS p e below T1 (mkF m 6 #[vr r0] []) _
    refine XS.aloadN X1.here hx rfl (hb hby d31_6) rfl rfl ?_
    show SS p e below T1 (mkF m 7 #[vr r0] [(.ref r0)]) _
    refine st2 _ ?_
    show SS p e below T2 (mkF m 10 #[vr r0] [(.int (0 : Int32))]) _
    refine XS.ifNo X2.here hx rfl (hb hby d31_10) rfl ((if0 _ _).trans (teq (by decide : (0 : Int32) = (0 : Int32))).2) ?_
    show SS p e below T2 (mkF m 13 #[vr r0] []) _
    refine XS.iconst X2.here hx rfl (hb hby d31_13) ?_
    show SS p e below T2 (mkF m 14 #[vr r0] [(.int (1 : Int32))]) _
    refine XS.goto X2.here hx rfl (pc0 := 14) (pc' := 18) rfl (hb hby d31_14) (by decide) (by decide) ?_
    show SS p e below T2 (mkF m 18 #[vr r0] [(.int (1 : Int32))]) _
    exact retN X2 hx (t := .boolean) Bd.returns (by simp) (hb hby d31_18) hr
  · show Q_rmIL Z r0 zc h0 n0 _ T2.heap _
    rw [e2]
    exact ⟨(congrArg (fun z => some (Value.int z)) own_nz1), N0, rfl⟩
theorem ef_5 (m : MethodId) (x0 : Addr) (x1 : Addr) : entryFrame m #[(.ref x0), (.ref x1)] 2 = mkF m 0 #[vr x0, vr x1] [] := by first | (simp [entryFrame, mkF, argsToLocals, Value.category]; done) | rfl
theorem d21_0 : decode jdk_68_method_71_code 0 = .ok (.getstatic 18, 3) := by decide +kernel
theorem d21_3 : decode jdk_68_method_71_code 3 = .ok (.ifCond .eq 18, 3) := by decide +kernel
theorem d21_6 : decode jdk_68_method_71_code 6 = .ok (.aload_n 0, 1) := by decide +kernel
theorem d21_7 : decode jdk_68_method_71_code 7 = .ok (.getfield 22, 3) := by decide +kernel
theorem d21_10 : decode jdk_68_method_71_code 10 = .ok (.aload_n 1, 1) := by decide +kernel
theorem d21_11 : decode jdk_68_method_71_code 11 = .ok (.invokevirtual 40, 3) := by decide +kernel
theorem d21_14 : decode jdk_68_method_71_code 14 = .ok (.if_icmp .eq 7, 3) := by decide +kernel
theorem d21_21 : decode jdk_68_method_71_code 21 = .ok (.return_, 1) := by decide +kernel
def Q_rmInf (Z : State) (r0 : Addr) (r1 : Addr) (zc : Int32) (h0 : Heap) (n0 : Nat) (v : Option Value) (h : Heap) (L : List Loc) : Prop := (v = none ∧ Fr n0 L ∧ h = h0)
set_option maxRecDepth 65536 in
set_option maxHeartbeats 40000000 in
theorem rmInf (l : Launch) (Z : State) (a0 : Array Value) (hw : ∀ d ∈ tables_1, d.before a0 Z = true) (ws : List Jvm.Cond) (r0 : Addr) (r1 : Addr) (zc : Int32) (h0 : Heap) (n0 : Nat) (Z0 : n0 ≤ h0.size) (uO : Old Z n0 h0) (uS : Sta Z Z.heap "java/lang/String" "COMPACT_STRINGS" "Z" (.int zc)) (uP : ¬ zc = 0) (uc : Fld Z h0 r0 "java/lang/AbstractStringBuilder" "coder" "B" (.int (0 : Int32))) (uE : Exa Z h0 r1 "java/lang/String") (uc1 : Fld Z h0 r1 "java/lang/String" "coder" "B" (.int (0 : Int32))) :
    MetFree l (⟨"java/lang/AbstractStringBuilder", "inflateIfNeededFor", "(Ljava/lang/String;)V"⟩ : MethodName) (head1 (Jvm.Cond.code (⟨"java/lang/AbstractStringBuilder", "inflateIfNeededFor", "(Ljava/lang/String;)V"⟩ : MethodName) jdk_68_method_71_code 2 none :: ws) ({ frames := 1, cells := 0, slots := 0, locals := 13 } : Room)) (fun a U => a = #[(.ref r0), (.ref r1)] ∧ Z.Warmed39 U.vm ∧ U.heap = h0) (fun _ _ _ _ _ => True) (fun _ U o U' => ∃ v L, o = .returned v ∧ Q_rmInf Z r0 r1 zc h0 n0 v U'.heap L ∧ FrameEnd U o U' L ({ frames := 1, cells := 0, slots := 0, locals := 13 } : Room).cells ({ frames := 1, cells := 0, slots := 0, locals := 13 } : Room).slots) := by
  refine MetFree.of_bodySF (plainFor_of_name pn_1) hisR ?_
  intro p e s m args below meth c s₁ Bd hml0 hP hK
  obtain ⟨rfl, hZ, hh⟩ := hP
  have hx := Bd.exec
  have hby := Bd.bytes
  have hml : c.maxLocals = 2 := hml0
  have hown : s.vm.findClass "java/lang/AbstractStringBuilder" = some m.cls := findClass_of_methodNamed Bd.named
  have hnm := (name_of_methodNamed Bd.named Bd.method).1
  have X0 : Stand p l e ({ frames := 1, cells := 0, slots := 0, locals := 13 } : Room) s m #[(.ref r0), (.ref r1)] below meth c s₁ [] 0 0 := Stand.of_body Bd
  have e0 : s₁.heap = h0 := by rw [← hh, Bd.state]; rfl
  have N0 := Fr.nil n0
  have pre0 : ∀ t, Steps p.tables e below (s₁.setTop (mkF m 0 #[vr r0, vr r1] [])) t → Steps p.tables e below (s₁.setTop (entryFrame m #[(.ref r0), (.ref r1)] 2)) t := fun t k => castTop (ef_5 m r0 r1) k
  obtain ⟨T1, X1, e1, st1⟩ := getS2 X0 hx hZ hown (host := "") (Or.inl (wd hw 95 rfl)) Via.refl e0 (uS.ext uO.2) (g := (mkF m 0 #[vr r0, vr r1] [])) rfl (hb hby d21_0)
  obtain ⟨T2, X2, e2, st2⟩ := getF X1 hx hZ hown (host := "") (Or.inl (wd hw 98 rfl)) Via.refl e1 uc (g := (mkF m 7 #[vr r0, vr r1] [(.ref r0)])) rfl rfl (hb hby d21_7)
  obtain ⟨cq3, kq3, q3a, q3b, q3c⟩ := isOf hZ e2 uE
  obtain ⟨_, _, ⟨T3, Lw3, kw3, nw3⟩, -, X3, ⟨Lc3, hQ3, lq3, yq3, zq3⟩, st3⟩ := X2.virtualBack hx (y := (⟨"java/lang/String", "coder", "()B"⟩ : MethodName)) (z := (⟨"java/lang/String", "coder", "()B"⟩ : MethodName)) hown (mvT hZ (wd hw 140 rfl)) (mvT hZ (wd hw 117 rfl)) (notFace_of_selects (args := #[]) (mvT hZ (wd hw 119 rfl))) (mvT hZ (wd hw 119 rfl)) (mvT hZ (wd hw 118 rfl)) (by decide) (backOf (W := 1) (rmCoder l Z a0 hw [] r1 zc h0 n0 Z0 uO uS uP uc1) hZ (wd hw 120 rfl) (wd hw 14 rfl) (by decide) (by decide)) q3a q3c (g := (mkF m 11 #[vr r0, vr r1] [(.ref r1), (.int (0 : Int32))])) rfl (by rw [hml]; rfl) (Steps.refl _) (argsL := []) (rest := [(.int (0 : Int32))]) (lenOf pd_0 rfl) rfl (by show 2 * 0 + _ ≤ _; exact Nat.le_of_eq rfl) (hb hby d21_11) (fun _ _ => ⟨rfl, e2, (by decide : 0 + 0 ≤ _), (by decide : 0 + 0 ≤ _)⟩)
  dsimp only [Pt.U, Pt.locs, Pt.cells, Pt.slots] at X3 lq3 yq3 zq3 st3 hQ3
  have X3 := own_reb X3 lq3 yq3 zq3
  obtain ⟨rfl, Nq3, eh3⟩ := hQ3
  have N3 := Fr.app N0 Nq3
  obtain ⟨fs, hr, hrun, hended, hW, hsame⟩ := X3.leave (v := none) (fun _ => rfl)
  refine ⟨_, _, pre0 _ ?_, hrun, hended, _, _, rfl, ?_, ⟨_, rfl⟩, hW, hsame.mono (by decide) (by decide)⟩
  · show SS p e below s₁ (mkF m 0 #[vr r0, vr r1] []) _
    refine st1 _ ?_
    show SS p e below T1 (mkF m 3 #[vr r0, vr r1] [(.int zc)]) _
    refine XS.ifNo X1.here hx rfl (hb hby d21_3) rfl ((if0 _ _).trans (feq (uP : ¬ (zc = (0 : Int32)))).1) ?_
    show SS p e below T1 (mkF m 6 #[vr r0, vr r1] []) _
    refine XS.aloadN X1.here hx rfl (hb hby d21_6) rfl rfl ?_
    show SS p e below T1 (mkF m 7 #[vr r0, vr r1] [(.ref r0)]) _
    refine st2 _ ?_
    show SS p e below T2 (mkF m 10 #[vr r0, vr r1] [(.int (0 : Int32))]) _
    refine XS.aloadN X2.here hx rfl (hb hby d21_10) rfl rfl ?_
    show SS p e below T2 (mkF m 11 #[vr r0, vr r1] [(.ref r1), (.int (0 : Int32))]) _
    refine st3.trans ?_
    show SS p e below T3 (mkF m 14 #[vr r0, vr r1] [(.int (0 : Int32)), (.int (0 : Int32))]) _
    refine XS.icmpYes X3.here hx rfl (pc0 := 14) (pc' := 21) rfl (hb hby d21_14) rfl (teq (by decide : (0 : Int32) = (0 : Int32))).1 (by decide) (by decide) ?_
    show SS p e below T3 (mkF m 21 #[vr r0, vr r1] []) _
    exact X3.returnOut hx Bd.returns (hb hby d21_21) hr
  · show Q_rmInf Z r0 r1 zc h0 n0 _ T3.heap _
    rw [eh3]
    exact ⟨rfl, N3, rfl⟩
theorem ef_6 (m : MethodId) (x0 : Addr) : entryFrame m #[(.ref x0), (.int (16 : Int32))] 2 = mkF m 0 #[vr x0, vi (16 : Int32)] [] := by first | (simp [entryFrame, mkF, argsToLocals, Value.category]; done) | rfl
theorem d14_0 : decode jdk_68_method_2_code 0 = .ok (.aload_n 0, 1) := by decide +kernel
theorem d14_1 : decode jdk_68_method_2_code 1 = .ok (.invokespecial 3, 3) := by decide +kernel
theorem d14_4 : decode jdk_68_method_2_code 4 = .ok (.getstatic 18, 3) := by decide +kernel
theorem d14_7 : decode jdk_68_method_2_code 7 = .ok (.ifCond .eq 18, 3) := by decide +kernel
theorem d14_10 : decode jdk_68_method_2_code 10 = .ok (.aload_n 0, 1) := by decide +kernel
theorem d14_11 : decode jdk_68_method_2_code 11 = .ok (.iload_n 1, 1) := by decide +kernel
theorem d14_12 : decode jdk_68_method_2_code 12 = .ok (.newarray .byte, 2) := by decide +kernel
theorem d14_14 : decode jdk_68_method_2_code 14 = .ok (.putfield 15, 3) := by decide +kernel
theorem d14_17 : decode jdk_68_method_2_code 17 = .ok (.aload_n 0, 1) := by decide +kernel
theorem d14_18 : decode jdk_68_method_2_code 18 = .ok (.iconst 0, 1) := by decide +kernel
theorem d14_19 : decode jdk_68_method_2_code 19 = .ok (.putfield 22, 3) := by decide +kernel
theorem d14_22 : decode jdk_68_method_2_code 22 = .ok (.goto 16, 3) := by decide +kernel
theorem d14_38 : decode jdk_68_method_2_code 38 = .ok (.return_, 1) := by decide +kernel
def Q_rmASB (Z : State) (r0 : Addr) (zc : Int32) (h0 : Heap) (n0 : Nat) (v : Option Value) (h : Heap) (L : List Loc) : Prop := ∃ (nb : Addr), ∃ (nk : ClassId), (v = none ∧ Fr n0 L ∧ Keep h0 h [r0] ∧ Fld Z h r0 "java/lang/AbstractStringBuilder" "value" "[B" (.ref nb) ∧ Fld Z h r0 "java/lang/AbstractStringBuilder" "coder" "B" (.int (0 : Int32)) ∧ Fld Z h r0 "java/lang/AbstractStringBuilder" "count" "I" (.int (0 : Int32)) ∧ h0.size ≤ nb ∧ Exa Z h nb "[B" ∧ Arv Z h nb nk .byte (16 : Int32) [(.int (0 : Int32)), (.int (0 : Int32)), (.int (0 : Int32)), (.int (0 : Int32)), (.int (0 : Int32)), (.int (0 : Int32)), (.int (0 : Int32)), (.int (0 : Int32)), (.int (0 : Int32)), (.int (0 : Int32)), (.int (0 : Int32)), (.int (0 : Int32)), (.int (0 : Int32)), (.int (0 : Int32)), (.int (0 : Int32)), (.int (0 : Int32))] (.int (0 : Int32)))
set_option maxRecDepth 65536 in
set_option maxHeartbeats 40000000 in
theorem rmASB (l : Launch) (Z : State) (a0 : Array Value) (hw : ∀ d ∈ tables_1, d.before a0 Z = true) (ws : List Jvm.Cond) (r0 : Addr) (zc : Int32) (h0 : Heap) (n0 : Nat) (Z0 : n0 ≤ h0.size) (uO : Old Z n0 h0) (uS : Sta Z Z.heap "java/lang/String" "COMPACT_STRINGS" "Z" (.int zc)) (uP : ¬ zc = 0) (uE : Exa Z h0 r0 "java/lang/StringBuilder") (uv : Fld Z h0 r0 "java/lang/AbstractStringBuilder" "value" "[B" .null) (uc : Fld Z h0 r0 "java/lang/AbstractStringBuilder" "coder" "B" (.int (0 : Int32))) (uk : Fld Z h0 r0 "java/lang/AbstractStringBuilder" "count" "I" (.int (0 : Int32))) (ug : n0 ≤ r0) :
    MetFree l (⟨"java/lang/AbstractStringBuilder", "<init>", "(I)V"⟩ : MethodName) (head1 (Jvm.Cond.code (⟨"java/lang/AbstractStringBuilder", "<init>", "(I)V"⟩ : MethodName) jdk_68_method_2_code 2 none :: ws) ({ frames := 1, cells := 1, slots := 16, locals := 12 } : Room)) (fun a U => a = #[(.ref r0), (.int (16 : Int32))] ∧ Z.Warmed39 U.vm ∧ U.heap = h0) (fun _ _ _ _ _ => True) (fun _ U o U' => ∃ v L, o = .returned v ∧ Q_rmASB Z r0 zc h0 n0 v U'.heap L ∧ FrameEnd U o U' L ({ frames := 1, cells := 1, slots := 16, locals := 12 } : Room).cells ({ frames := 1, cells := 1, slots := 16, locals := 12 } : Room).slots) := by
  refine MetFree.of_bodySF (plainFor_of_name pn_1) hisR ?_
  intro p e s m args below meth c s₁ Bd hml0 hP hK
  obtain ⟨rfl, hZ, hh⟩ := hP
  have hx := Bd.exec
  have hby := Bd.bytes
  have hml : c.maxLocals = 2 := hml0
  have hown : s.vm.findClass "java/lang/AbstractStringBuilder" = some m.cls := findClass_of_methodNamed Bd.named
  have hnm := (name_of_methodNamed Bd.named Bd.method).1
  have X0 : Stand p l e ({ frames := 1, cells := 1, slots := 16, locals := 12 } : Room) s m #[(.ref r0), (.int (16 : Int32))] below meth c s₁ [] 0 0 := Stand.of_body Bd
  have e0 : s₁.heap = h0 := by rw [← hh, Bd.state]; rfl
  have N0 := Fr.nil n0
  have pre0 : ∀ t, Steps p.tables e below (s₁.setTop (mkF m 0 #[vr r0, vi (16 : Int32)] [])) t → Steps p.tables e below (s₁.setTop (entryFrame m #[(.ref r0), (.int (16 : Int32))] 2)) t := fun t k => castTop (ef_6 m r0) k
  obtain ⟨T1, X1, e1, st1⟩ := initO X0 hx hZ hown (wd hw 94 rfl) (wd hw 11 rfl) (wd hw 12 rfl) e0 (g := (mkF m 1 #[vr r0, vi (16 : Int32)] [(.ref r0)])) rfl (by rw [hml]; rfl) rfl (hb hby d14_1) (by decide) (W := 0) (by show 2 * 0 + _ ≤ _; exact Nat.le_of_eq rfl) (by decide)
  obtain ⟨T2, X2, e2, st2⟩ := getS2 X1 hx hZ hown (host := "") (Or.inl (wd hw 95 rfl)) Via.refl e1 (uS.ext uO.2) (g := (mkF m 4 #[vr r0, vi (16 : Int32)] [])) rfl (hb hby d14_4)
  obtain ⟨T3, h3, k3, X3, e3, E3, A3, AX3, st3⟩ := newPE X2 hx hZ (wd hw 3 rfl) e2 (g := (mkF m 12 #[vr r0, vi (16 : Int32)] [(.int (16 : Int32)), (.ref r0)])) rfl (hb hby d14_12) rfl (by decide) (cap := 16) (by decide) (by decide) (by decide) (by decide) (ad := "[B") (by decide)
  obtain ⟨b3, g3⟩ : ∃ z, z = h0.size := ⟨_, rfl⟩
  rw [← g3] at A3 AX3 st3
  have ne_r0_b3 : r0 ≠ b3 := Nat.ne_of_lt (Nat.lt_of_lt_of_le uE.lt (Nat.le_of_eq g3.symm))
  have V3 : Arv Z h3 b3 k3 .byte (16 : Int32) [(.int (0 : Int32)), (.int (0 : Int32)), (.int (0 : Int32)), (.int (0 : Int32)), (.int (0 : Int32)), (.int (0 : Int32)), (.int (0 : Int32)), (.int (0 : Int32)), (.int (0 : Int32)), (.int (0 : Int32)), (.int (0 : Int32)), (.int (0 : Int32)), (.int (0 : Int32)), (.int (0 : Int32)), (.int (0 : Int32)), (.int (0 : Int32))] (.int (0 : Int32)) := (Arv.new A3 (by decide)).pad (pad_rep [] (.int (0 : Int32)) 16)
  have g_b3 : n0 ≤ b3 := Nat.le_trans Z0 (Nat.le_of_eq g3.symm)
  have sz_b3 : h0.size ≤ b3 := Nat.le_trans (Keep.refl h0 [r0]).1 (Nat.le_of_eq g3.symm)
  have K3 : Keep h0 h3 [r0] := (Keep.refl h0 [r0]).ext E3
  have Z3 : n0 ≤ h3.size := Nat.le_trans Z0 E3.1
  have c5 := (uE.ext E3)
  have c6 := (uv.ext E3)
  obtain ⟨T4, h4, X4, e4, W4, st4⟩ := putF X3 hx hZ hown (host := "") (Or.inl (wd hw 96 rfl)) Via.refl e3 c6 c5 (Or.inl (wd hw 97 rfl)) (wd hw 83 rfl) (ty := (.array .byte)) (by decide) rfl rfl (g := (mkF m 14 #[vr r0, vi (16 : Int32)] [(.ref b3), (.ref r0)])) rfl rfl (hb hby d14_14)
  have Fw4 := c6.same W4
  have N4 := Fr.snoc X4 N0 ug
  have K4 : Keep h0 h4 [r0] := K3.wr W4 (Or.inl (List.mem_of_getElem? (i := 0) rfl))
  have Z4 : n0 ≤ h4.size := by rw [W4.size]; exact Z3
  have c8 := (c5.wr W4)
  have c9 := ((uc.ext E3).other W4 (Or.inr (slot_ne (Or.inl (wd hw 99 rfl)) (Or.inl (wd hw 97 rfl)) (by decide) (t := .byte) (t' := (.array .byte)) (by decide) (by decide))))
  obtain ⟨T7, h7, X7, e7, W7, st7⟩ := putFN X4 hx hZ hown (wd hw 98 rfl) Via.refl e4 c9 c8 (Or.inl (wd hw 99 rfl)) (wd hw 83 rfl) (ty := .byte) (v' := (.int (0 : Int32))) (by decide) rfl rfl (g := (mkF m 19 #[vr r0, vi (16 : Int32)] [(.int (0 : Int32)), (.ref r0)])) rfl rfl (hb hby d14_19)
  have Fw7 := c9.same W7
  have N7 := Fr.snoc X7 N4 ug
  have K7 : Keep h0 h7 [r0] := K4.wr W7 (Or.inl (List.mem_of_getElem? (i := 0) rfl))
  have Z7 : n0 ≤ h7.size := by rw [W7.size]; exact Z4
  have c10 := (Fw4.other W7 (Or.inr (slot_ne (Or.inl (wd hw 97 rfl)) (Or.inl (wd hw 99 rfl)) (by decide) (t := (.array .byte)) (t' := .byte) (by decide) (by decide))))
  have c11 := (((uk.ext E3).other W4 (Or.inr (slot_ne (Or.inl (wd hw 124 rfl)) (Or.inl (wd hw 97 rfl)) (by decide) (t := .int) (t' := (.array .byte)) (by decide) (by decide)))).other W7 (Or.inr (slot_ne (Or.inl (wd hw 124 rfl)) (Or.inl (wd hw 99 rfl)) (by decide) (t := .int) (t' := .byte) (by decide) (by decide))))
  have c12 := ((AX3.wr W4).wr W7)
  have c13 := ((V3.other W4 (Ne.symm ne_r0_b3)).other W7 (Ne.symm ne_r0_b3))
  obtain ⟨fs, hr, hrun, hended, hW, hsame⟩ := X7.leave (v := none) (fun _ => rfl)
  refine ⟨_, _, pre0 _ ?_, hrun, hended, _, _, rfl, ?_, ⟨_, rfl⟩, hW, hsame.mono (by decide) (by decide)⟩
  · show SS p e below s₁ (mkF m 0 #[vr r0, vi (16 : Int32)] []) _
    refine XS.aloadN X0.here hx rfl (hb hby d14_0) rfl rfl ?_
    show SS p e below s₁ (mkF m 1 #[vr r0, vi (16 : Int32)] [(.ref r0)]) _
    refine st1 _ ?_
    show SS p e below T1 (mkF m 4 #[vr r0, vi (16 : Int32)] []) _
    refine st2 _ ?_
    show SS p e below T2 (mkF m 7 #[vr r0, vi (16 : Int32)] [(.int zc)]) _
    refine XS.ifNo X2.here hx rfl (hb hby d14_7) rfl ((if0 _ _).trans (feq (uP : ¬ (zc = (0 : Int32)))).1) ?_
    show SS p e below T2 (mkF m 10 #[vr r0, vi (16 : Int32)] []) _
    refine XS.aloadN X2.here hx rfl (hb hby d14_10) rfl rfl ?_
    show SS p e below T2 (mkF m 11 #[vr r0, vi (16 : Int32)] [(.ref r0)]) _
    refine XS.iloadN X2.here hx rfl (hb hby d14_11) rfl ?_
    show SS p e below T2 (mkF m 12 #[vr r0, vi (16 : Int32)] [(.int (16 : Int32)), (.ref r0)]) _
    refine st3 _ ?_
    show SS p e below T3 (mkF m 14 #[vr r0, vi (16 : Int32)] [(.ref b3), (.ref r0)]) _
    refine st4 _ ?_
    show SS p e below T4 (mkF m 17 #[vr r0, vi (16 : Int32)] []) _
    refine XS.aloadN X4.here hx rfl (hb hby d14_17) rfl rfl ?_
    show SS p e below T4 (mkF m 18 #[vr r0, vi (16 : Int32)] [(.ref r0)]) _
    refine XS.iconst X4.here hx rfl (hb hby d14_18) ?_
    show SS p e below T4 (mkF m 19 #[vr r0, vi (16 : Int32)] [(.int (0 : Int32)), (.ref r0)]) _
    refine st7 _ ?_
    show SS p e below T7 (mkF m 22 #[vr r0, vi (16 : Int32)] []) _
    refine XS.goto X7.here hx rfl (pc0 := 22) (pc' := 38) rfl (hb hby d14_22) (by decide) (by decide) ?_
    show SS p e below T7 (mkF m 38 #[vr r0, vi (16 : Int32)] []) _
    exact X7.returnOut hx Bd.returns (hb hby d14_38) hr
  · show Q_rmASB Z r0 zc h0 n0 _ T7.heap _
    rw [e7]
    exact ⟨b3, k3, rfl, N7, K7, c10, Fw7, c11, sz_b3, c12, c13⟩
theorem ef_7 (m : MethodId) (x0 : Addr) : entryFrame m #[(.ref x0)] 1 = mkF m 0 #[vr x0] [] := by first | (simp [entryFrame, mkF, argsToLocals, Value.category]; done) | rfl
theorem pn_2 : plainName "java/lang/StringBuilder" = true := by first | (simp [plainName, overriddenIn]; done) | decide +kernel
theorem d13_0 : decode jdk_67_method_1_code 0 = .ok (.aload_n 0, 1) := by decide +kernel
theorem d13_1 : decode jdk_67_method_1_code 1 = .ok (.bipush 16, 2) := by decide +kernel
theorem d13_3 : decode jdk_67_method_1_code 3 = .ok (.invokespecial 1, 3) := by decide +kernel
theorem pd_1 : parseMethodDescriptor "(I)V" = some ⟨[.int], none⟩ := by decide +kernel
theorem d13_6 : decode jdk_67_method_1_code 6 = .ok (.return_, 1) := by decide +kernel
def Q_rmSB (Z : State) (r0 : Addr) (zc : Int32) (h0 : Heap) (n0 : Nat) (v : Option Value) (h : Heap) (L : List Loc) : Prop := ∃ (nb : Addr), ∃ (nk : ClassId), (v = none ∧ Fr n0 L ∧ Keep h0 h [r0] ∧ Fld Z h r0 "java/lang/AbstractStringBuilder" "value" "[B" (.ref nb) ∧ Fld Z h r0 "java/lang/AbstractStringBuilder" "coder" "B" (.int (0 : Int32)) ∧ Fld Z h r0 "java/lang/AbstractStringBuilder" "count" "I" (.int (0 : Int32)) ∧ h0.size ≤ nb ∧ Exa Z h nb "[B" ∧ Arv Z h nb nk .byte (16 : Int32) [(.int (0 : Int32)), (.int (0 : Int32)), (.int (0 : Int32)), (.int (0 : Int32)), (.int (0 : Int32)), (.int (0 : Int32)), (.int (0 : Int32)), (.int (0 : Int32)), (.int (0 : Int32)), (.int (0 : Int32)), (.int (0 : Int32)), (.int (0 : Int32)), (.int (0 : Int32)), (.int (0 : Int32)), (.int (0 : Int32)), (.int (0 : Int32))] (.int (0 : Int32)))
set_option maxRecDepth 65536 in
set_option maxHeartbeats 40000000 in
theorem rmSB (l : Launch) (Z : State) (a0 : Array Value) (hw : ∀ d ∈ tables_1, d.before a0 Z = true) (ws : List Jvm.Cond) (r0 : Addr) (zc : Int32) (h0 : Heap) (n0 : Nat) (Z0 : n0 ≤ h0.size) (uO : Old Z n0 h0) (uS : Sta Z Z.heap "java/lang/String" "COMPACT_STRINGS" "Z" (.int zc)) (uP : ¬ zc = 0) (uE : Exa Z h0 r0 "java/lang/StringBuilder") (uv : Fld Z h0 r0 "java/lang/AbstractStringBuilder" "value" "[B" .null) (uc : Fld Z h0 r0 "java/lang/AbstractStringBuilder" "coder" "B" (.int (0 : Int32))) (uk : Fld Z h0 r0 "java/lang/AbstractStringBuilder" "count" "I" (.int (0 : Int32))) (ug : n0 ≤ r0) :
    MetFree l (⟨"java/lang/StringBuilder", "<init>", "()V"⟩ : MethodName) (head1 (Jvm.Cond.code (⟨"java/lang/StringBuilder", "<init>", "()V"⟩ : MethodName) jdk_67_method_1_code 1 none :: ws) ({ frames := 2, cells := 1, slots := 16, locals := 25 } : Room)) (fun a U => a = #[(.ref r0)] ∧ Z.Warmed39 U.vm ∧ U.heap = h0) (fun _ _ _ _ _ => True) (fun _ U o U' => ∃ v L, o = .returned v ∧ Q_rmSB Z r0 zc h0 n0 v U'.heap L ∧ FrameEnd U o U' L ({ frames := 2, cells := 1, slots := 16, locals := 25 } : Room).cells ({ frames := 2, cells := 1, slots := 16, locals := 25 } : Room).slots) := by
  refine MetFree.of_bodySF (plainFor_of_name pn_2) hisR ?_
  intro p e s m args below meth c s₁ Bd hml0 hP hK
  obtain ⟨rfl, hZ, hh⟩ := hP
  have hx := Bd.exec
  have hby := Bd.bytes
  have hml : c.maxLocals = 1 := hml0
  have hown : s.vm.findClass "java/lang/StringBuilder" = some m.cls := findClass_of_methodNamed Bd.named
  have hnm := (name_of_methodNamed Bd.named Bd.method).1
  have X0 : Stand p l e ({ frames := 2, cells := 1, slots := 16, locals := 25 } : Room) s m #[(.ref r0)] below meth c s₁ [] 0 0 := Stand.of_body Bd
  have e0 : s₁.heap = h0 := by rw [← hh, Bd.state]; rfl
  have N0 := Fr.nil n0
  have pre0 : ∀ t, Steps p.tables e below (s₁.setTop (mkF m 0 #[vr r0] [])) t → Steps p.tables e below (s₁.setTop (entryFrame m #[(.ref r0)] 1)) t := fun t k => castTop (ef_7 m r0) k
  obtain ⟨_, _, ⟨T1, Lw1, kw1, nw1⟩, -, X1, ⟨Lc1, hQ1, lq1, yq1, zq1⟩, st1⟩ := X0.specialBack hx (y := (⟨"java/lang/AbstractStringBuilder", "<init>", "(I)V"⟩ : MethodName)) rfl hown (mvT hZ (wd hw 88 rfl)) (mvT hZ (wd hw 89 rfl)) (mvT hZ (wd hw 93 rfl)) (by decide) (backOf (W := 0) (rmASB l Z a0 hw [] r0 zc h0 n0 Z0 uO uS uP uE uv uc uk ug) hZ (wd hw 93 rfl) (wd hw 92 rfl) (by decide) (by decide)) (g := (mkF m 3 #[vr r0] [(.int (16 : Int32)), (.ref r0)])) rfl (by rw [hml]; rfl) (Steps.refl _) (a := r0) (argsL := [(.int (16 : Int32))]) (rest := []) (lenOf pd_1 rfl) rfl (by show 2 * 0 + _ ≤ _; exact Nat.le_of_eq rfl) (hb hby d13_3) (fun _ _ => ⟨rfl, e0, (by decide : 0 + 1 ≤ _), (by decide : 0 + 16 ≤ _)⟩)
  dsimp only [Pt.U, Pt.locs, Pt.cells, Pt.slots] at X1 lq1 yq1 zq1 st1 hQ1
  have X1 := own_reb X1 lq1 yq1 zq1
  obtain ⟨nb_1, nk_1, rfl, Nq1, Kq1, f1_0, f1_1, f1_2, f1_3, f1_4, f1_5⟩ := hQ1
  have N1 := Fr.app N0 Nq1
  have ne_r0_nb_1 : r0 ≠ nb_1 := Nat.ne_of_lt (Nat.lt_of_lt_of_le uE.lt f1_3)
  have g_nb_1 : n0 ≤ nb_1 := Nat.le_trans Z0 f1_3
  have sz_nb_1 : h0.size ≤ nb_1 := Nat.le_trans (Keep.refl h0 [r0]).1 f1_3
  have K1 : Keep h0 T1.heap [r0] := (Keep.refl h0 [r0]).trans Kq1 (allS (Or.inl (List.mem_of_getElem? (i := 0) rfl)) all0)
  have Z1 : n0 ≤ T1.heap.size := Nat.le_trans Z0 Kq1.1
  obtain ⟨fs, hr, hrun, hended, hW, hsame⟩ := X1.leave (v := none) (fun _ => rfl)
  refine ⟨_, _, pre0 _ ?_, hrun, hended, _, _, rfl, ?_, ⟨_, rfl⟩, hW, hsame.mono (by decide) (by decide)⟩
  · show SS p e below s₁ (mkF m 0 #[vr r0] []) _
    refine XS.aloadN X0.here hx rfl (hb hby d13_0) rfl rfl ?_
    show SS p e below s₁ (mkF m 1 #[vr r0] [(.ref r0)]) _
    refine XS.bipush X0.here hx rfl (hb hby d13_1) ?_
    show SS p e below s₁ (mkF m 3 #[vr r0] [(.int (16 : Int32)), (.ref r0)]) _
    refine st1.trans ?_
    show SS p e below T1 (mkF m 6 #[vr r0] []) _
    exact X1.returnOut hx Bd.returns (hb hby d13_6) hr
  · show Q_rmSB Z r0 zc h0 n0 _ T1.heap _
    exact ⟨nb_1, nk_1, rfl, N1, K1, f1_0, f1_1, f1_2, sz_nb_1, f1_4, f1_5⟩
theorem ef_8 (m : MethodId) (x0 : Addr) : entryFrame m #[(.ref x0)] 1 = mkF m 0 #[vr x0] [] := by first | (simp [entryFrame, mkF, argsToLocals, Value.category]; done) | rfl
theorem d36_0 : decode jdk_68_method_64_code 0 = .ok (.aload_n 0, 1) := by decide +kernel
theorem d36_1 : decode jdk_68_method_64_code 1 = .ok (.getfield 15, 3) := by decide +kernel
theorem d36_4 : decode jdk_68_method_64_code 4 = .ok (.areturn, 1) := by decide +kernel
def Q_rmGV (Z : State) (r0 : Addr) (rv : Addr) (h0 : Heap) (n0 : Nat) (v : Option Value) (h : Heap) (L : List Loc) : Prop := (v = some (.ref rv) ∧ Fr n0 L ∧ h = h0)
set_option maxRecDepth 65536 in
set_option maxHeartbeats 40000000 in
theorem rmGV (l : Launch) (Z : State) (a0 : Array Value) (hw : ∀ d ∈ tables_1, d.before a0 Z = true) (ws : List Jvm.Cond) (r0 : Addr) (rv : Addr) (h0 : Heap) (n0 : Nat) (Z0 : n0 ≤ h0.size) (uv : Fld Z h0 r0 "java/lang/AbstractStringBuilder" "value" "[B" (.ref rv)) :
    MetFree l (⟨"java/lang/AbstractStringBuilder", "getValue", "()[B"⟩ : MethodName) (head1 (Jvm.Cond.code (⟨"java/lang/AbstractStringBuilder", "getValue", "()[B"⟩ : MethodName) jdk_68_method_64_code 1 (some (.array .byte)) :: ws) ({ frames := 0, cells := 0, slots := 0, locals := 0 } : Room)) (fun a U => a = #[(.ref r0)] ∧ Z.Warmed39 U.vm ∧ U.heap = h0) (fun _ _ _ _ _ => True) (fun _ U o U' => ∃ v L, o = .returned v ∧ Q_rmGV Z r0 rv h0 n0 v U'.heap L ∧ FrameEnd U o U' L ({ frames := 0, cells := 0, slots := 0, locals := 0 } : Room).cells ({ frames := 0, cells := 0, slots := 0, locals := 0 } : Room).slots) := by
  refine MetFree.of_bodySF (plainFor_of_name pn_1) hisR ?_
  intro p e s m args below meth c s₁ Bd hml0 hP hK
  obtain ⟨rfl, hZ, hh⟩ := hP
  have hx := Bd.exec
  have hby := Bd.bytes
  have hml : c.maxLocals = 1 := hml0
  have hown : s.vm.findClass "java/lang/AbstractStringBuilder" = some m.cls := findClass_of_methodNamed Bd.named
  have hnm := (name_of_methodNamed Bd.named Bd.method).1
  have X0 : Stand p l e ({ frames := 0, cells := 0, slots := 0, locals := 0 } : Room) s m #[(.ref r0)] below meth c s₁ [] 0 0 := Stand.of_body Bd
  have e0 : s₁.heap = h0 := by rw [← hh, Bd.state]; rfl
  have N0 := Fr.nil n0
  have pre0 : ∀ t, Steps p.tables e below (s₁.setTop (mkF m 0 #[vr r0] [])) t → Steps p.tables e below (s₁.setTop (entryFrame m #[(.ref r0)] 1)) t := fun t k => castTop (ef_8 m r0) k
  obtain ⟨T1, X1, e1, st1⟩ := getF X0 hx hZ hown (host := "") (Or.inl (wd hw 96 rfl)) Via.refl e0 uv (g := (mkF m 1 #[vr r0] [(.ref r0)])) rfl rfl (hb hby d36_1)
  obtain ⟨fs, hr, hrun, hended, hW, hsame⟩ := X1.leave (v := some (.ref rv)) (fun h => by rw [Bd.returns] at h; cases h)
  refine ⟨_, _, pre0 _ ?_, hrun, hended, _, _, rfl, ?_, ⟨_, rfl⟩, hW, hsame.mono (by decide) (by decide)⟩
  · show SS p e below s₁ (mkF m 0 #[vr r0] []) _
    refine XS.aloadN X0.here hx rfl (hb hby d36_0) rfl rfl ?_
    show SS p e below s₁ (mkF m 1 #[vr r0] [(.ref r0)]) _
    refine st1 _ ?_
    show SS p e below T1 (mkF m 4 #[vr r0] [(.ref rv)]) _
    exact retOut X1 hx Bd.returns rfl (Or.inr (Or.inr (Or.inr (Or.inr ⟨rfl, rfl, rfl⟩)))) (hb hby d36_4) hr
  · show Q_rmGV Z r0 rv h0 n0 _ T1.heap _
    rw [e1]
    exact ⟨rfl, N0, rfl⟩
theorem ef_9 (m : MethodId) (x0 : Addr) : entryFrame m #[(.ref x0)] 1 = mkF m 0 #[vr x0] [] := by first | (simp [entryFrame, mkF, argsToLocals, Value.category]; done) | rfl
theorem d38_0 : decode jdk_68_method_6_code 0 = .ok (.aload_n 0, 1) := by decide +kernel
theorem d38_1 : decode jdk_68_method_6_code 1 = .ok (.getfield 79, 3) := by decide +kernel
theorem d38_4 : decode jdk_68_method_6_code 4 = .ok (.ireturn, 1) := by decide +kernel
def Q_rmAL (Z : State) (r0 : Addr) (cn : Int32) (h0 : Heap) (n0 : Nat) (v : Option Value) (h : Heap) (L : List Loc) : Prop := (v = some (.int cn) ∧ Fr n0 L ∧ h = h0)
set_option maxRecDepth 65536 in
set_option maxHeartbeats 40000000 in
theorem rmAL (l : Launch) (Z : State) (a0 : Array Value) (hw : ∀ d ∈ tables_1, d.before a0 Z = true) (ws : List Jvm.Cond) (r0 : Addr) (cn : Int32) (h0 : Heap) (n0 : Nat) (Z0 : n0 ≤ h0.size) (uk : Fld Z h0 r0 "java/lang/AbstractStringBuilder" "count" "I" (.int cn)) :
    MetFree l (⟨"java/lang/AbstractStringBuilder", "length", "()I"⟩ : MethodName) (head1 (Jvm.Cond.code (⟨"java/lang/AbstractStringBuilder", "length", "()I"⟩ : MethodName) jdk_68_method_6_code 1 (some .int) :: ws) ({ frames := 0, cells := 0, slots := 0, locals := 0 } : Room)) (fun a U => a = #[(.ref r0)] ∧ Z.Warmed39 U.vm ∧ U.heap = h0) (fun _ _ _ _ _ => True) (fun _ U o U' => ∃ v L, o = .returned v ∧ Q_rmAL Z r0 cn h0 n0 v U'.heap L ∧ FrameEnd U o U' L ({ frames := 0, cells := 0, slots := 0, locals := 0 } : Room).cells ({ frames := 0, cells := 0, slots := 0, locals := 0 } : Room).slots) := by
  refine MetFree.of_bodySF (plainFor_of_name pn_1) hisR ?_
  intro p e s m args below meth c s₁ Bd hml0 hP hK
  obtain ⟨rfl, hZ, hh⟩ := hP
  have hx := Bd.exec
  have hby := Bd.bytes
  have hml : c.maxLocals = 1 := hml0
  have hown : s.vm.findClass "java/lang/AbstractStringBuilder" = some m.cls := findClass_of_methodNamed Bd.named
  have hnm := (name_of_methodNamed Bd.named Bd.method).1
  have X0 : Stand p l e ({ frames := 0, cells := 0, slots := 0, locals := 0 } : Room) s m #[(.ref r0)] below meth c s₁ [] 0 0 := Stand.of_body Bd
  have e0 : s₁.heap = h0 := by rw [← hh, Bd.state]; rfl
  have N0 := Fr.nil n0
  have pre0 : ∀ t, Steps p.tables e below (s₁.setTop (mkF m 0 #[vr r0] [])) t → Steps p.tables e below (s₁.setTop (entryFrame m #[(.ref r0)] 1)) t := fun t k => castTop (ef_9 m r0) k
  obtain ⟨T1, X1, e1, st1⟩ := getF X0 hx hZ hown (host := "") (Or.inl (wd hw 123 rfl)) Via.refl e0 uk (g := (mkF m 1 #[vr r0] [(.ref r0)])) rfl rfl (hb hby d38_1)
  obtain ⟨fs, hr, hrun, hended, hW, hsame⟩ := X1.leave (v := some (.int cn)) (fun h => by rw [Bd.returns] at h; cases h)
  refine ⟨_, _, pre0 _ ?_, hrun, hended, _, _, rfl, ?_, ⟨_, rfl⟩, hW, hsame.mono (by decide) (by decide)⟩
  · show SS p e below s₁ (mkF m 0 #[vr r0] []) _
    refine XS.aloadN X0.here hx rfl (hb hby d38_0) rfl rfl ?_
    show SS p e below s₁ (mkF m 1 #[vr r0] [(.ref r0)]) _
    refine st1 _ ?_
    show SS p e below T1 (mkF m 4 #[vr r0] [(.int cn)]) _
    exact retI X1 hx Bd.returns (hb hby d38_4) hr
  · show Q_rmAL Z r0 cn h0 n0 _ T1.heap _
    rw [e1]
    exact ⟨rfl, N0, rfl⟩
theorem ef_10 (m : MethodId) (x0 : Addr) : entryFrame m #[(.ref x0)] 1 = mkF m 0 #[vr x0] [] := by first | (simp [entryFrame, mkF, argsToLocals, Value.category]; done) | rfl
theorem d37_0 : decode jdk_67_method_93_code 0 = .ok (.aload_n 0, 1) := by decide +kernel
theorem d37_1 : decode jdk_67_method_93_code 1 = .ok (.invokespecial 343, 3) := by decide +kernel
theorem pd_2 : parseMethodDescriptor "()I" = some ⟨[], some .int⟩ := by decide +kernel
theorem d37_4 : decode jdk_67_method_93_code 4 = .ok (.ireturn, 1) := by decide +kernel
def Q_rmSL (Z : State) (r0 : Addr) (cn : Int32) (h0 : Heap) (n0 : Nat) (v : Option Value) (h : Heap) (L : List Loc) : Prop := (v = some (.int cn) ∧ Fr n0 L ∧ h = h0)
set_option maxRecDepth 65536 in
set_option maxHeartbeats 40000000 in
theorem rmSL (l : Launch) (Z : State) (a0 : Array Value) (hw : ∀ d ∈ tables_1, d.before a0 Z = true) (ws : List Jvm.Cond) (r0 : Addr) (cn : Int32) (h0 : Heap) (n0 : Nat) (Z0 : n0 ≤ h0.size) (uE : Exa Z h0 r0 "java/lang/StringBuilder") (uk : Fld Z h0 r0 "java/lang/AbstractStringBuilder" "count" "I" (.int cn)) :
    MetFree l (⟨"java/lang/StringBuilder", "length", "()I"⟩ : MethodName) (head1 (Jvm.Cond.code (⟨"java/lang/StringBuilder", "length", "()I"⟩ : MethodName) jdk_67_method_93_code 1 (some .int) :: ws) ({ frames := 1, cells := 0, slots := 0, locals := 12 } : Room)) (fun a U => a = #[(.ref r0)] ∧ Z.Warmed39 U.vm ∧ U.heap = h0) (fun _ _ _ _ _ => True) (fun _ U o U' => ∃ v L, o = .returned v ∧ Q_rmSL Z r0 cn h0 n0 v U'.heap L ∧ FrameEnd U o U' L ({ frames := 1, cells := 0, slots := 0, locals := 12 } : Room).cells ({ frames := 1, cells := 0, slots := 0, locals := 12 } : Room).slots) := by
  refine MetFree.of_bodySF (plainFor_of_name pn_2) hisR ?_
  intro p e s m args below meth c s₁ Bd hml0 hP hK
  obtain ⟨rfl, hZ, hh⟩ := hP
  have hx := Bd.exec
  have hby := Bd.bytes
  have hml : c.maxLocals = 1 := hml0
  have hown : s.vm.findClass "java/lang/StringBuilder" = some m.cls := findClass_of_methodNamed Bd.named
  have hnm := (name_of_methodNamed Bd.named Bd.method).1
  have X0 : Stand p l e ({ frames := 1, cells := 0, slots := 0, locals := 12 } : Room) s m #[(.ref r0)] below meth c s₁ [] 0 0 := Stand.of_body Bd
  have e0 : s₁.heap = h0 := by rw [← hh, Bd.state]; rfl
  have N0 := Fr.nil n0
  have pre0 : ∀ t, Steps p.tables e below (s₁.setTop (mkF m 0 #[vr r0] [])) t → Steps p.tables e below (s₁.setTop (entryFrame m #[(.ref r0)] 1)) t := fun t k => castTop (ef_10 m r0) k
  obtain ⟨_, _, ⟨T1, Lw1, kw1, nw1⟩, -, X1, ⟨Lc1, hQ1, lq1, yq1, zq1⟩, st1⟩ := superBack X0 hx hZ (y := (⟨"java/lang/AbstractStringBuilder", "length", "()I"⟩ : MethodName)) hown (wd hw 221 rfl) (own_same (wd hw 217 rfl) (own_face (wd hw 128 rfl) rfl) (by decide)) (wd hw 217 rfl) (wd hw 107 rfl) (by decide) (backOf (W := 0) (rmAL l Z a0 hw [] r0 cn h0 n0 Z0 uk) hZ (wd hw 222 rfl) (wd hw 92 rfl) (by decide) (by decide)) e0 (Ins.self uE) (g := (mkF m 1 #[vr r0] [(.ref r0)])) rfl (by rw [hml]; rfl) (wd hw 222 rfl) (argsL := []) (rest := []) (lenOf pd_2 rfl) rfl (by show 2 * 0 + _ ≤ _; exact Nat.le_of_eq rfl) (hb hby d37_1) (fun _ _ => ⟨rfl, e0, (by decide : 0 + 0 ≤ _), (by decide : 0 + 0 ≤ _)⟩)
  dsimp only [Pt.U, Pt.locs, Pt.cells, Pt.slots] at X1 lq1 yq1 zq1 st1 hQ1
  have X1 := own_reb X1 lq1 yq1 zq1
  obtain ⟨rfl, Nq1, eh1⟩ := hQ1
  have N1 := Fr.app N0 Nq1
  obtain ⟨fs, hr, hrun, hended, hW, hsame⟩ := X1.leave (v := some (.int cn)) (fun h => by rw [Bd.returns] at h; cases h)
  refine ⟨_, _, pre0 _ ?_, hrun, hended, _, _, rfl, ?_, ⟨_, rfl⟩, hW, hsame.mono (by decide) (by decide)⟩
  · show SS p e below s₁ (mkF m 0 #[vr r0] []) _
    refine XS.aloadN X0.here hx rfl (hb hby d37_0) rfl rfl ?_
    show SS p e below s₁ (mkF m 1 #[vr r0] [(.ref r0)]) _
    refine st1.trans ?_
    show SS p e below T1 (mkF m 4 #[vr r0] [(.int cn)]) _
    exact retI X1 hx Bd.returns (hb hby d37_4) hr
  · show Q_rmSL Z r0 cn h0 n0 _ T1.heap _
    rw [eh1]
    exact ⟨rfl, N1, rfl⟩
theorem ef_11 (m : MethodId) (x0 : Int32) (x1 : Int32) : entryFrame m #[(.int x0), (.int x1)] 2 = mkF m 0 #[vi x0, vi x1] [] := by first | (simp [entryFrame, mkF, argsToLocals, Value.category]; done) | rfl
theorem pn_3 : plainName "java/util/Arrays" = true := by first | (simp [plainName, overriddenIn]; done) | decide +kernel
theorem d40_0 : decode jdk_65_method_131_code 0 = .ok (.iload_n 1, 1) := by decide +kernel
theorem d40_1 : decode jdk_65_method_131_code 1 = .ok (.iload_n 0, 1) := by decide +kernel
theorem d40_2 : decode jdk_65_method_131_code 2 = .ok (.if_icmp .ge 35, 3) := by decide +kernel
theorem d40_37 : decode jdk_65_method_131_code 37 = .ok (.return_, 1) := by decide +kernel
def Q_rmChk (Z : State) (p0 : Int32) (p1 : Int32) (h0 : Heap) (n0 : Nat) (v : Option Value) (h : Heap) (L : List Loc) : Prop := (v = none ∧ Fr n0 L ∧ h = h0)
set_option maxRecDepth 65536 in
set_option maxHeartbeats 40000000 in
theorem rmChk (l : Launch) (Z : State) (a0 : Array Value) (hw : ∀ d ∈ tables_1, d.before a0 Z = true) (ws : List Jvm.Cond) (p0 : Int32) (p1 : Int32) (h0 : Heap) (n0 : Nat) (Z0 : n0 ≤ h0.size) (u1 : ¬ (p1 < p0)) :
    MetFree l (⟨"java/util/Arrays", "checkLength", "(II)V"⟩ : MethodName) (head1 (Jvm.Cond.code (⟨"java/util/Arrays", "checkLength", "(II)V"⟩ : MethodName) jdk_65_method_131_code 2 none :: ws) ({ frames := 0, cells := 0, slots := 0, locals := 0 } : Room)) (fun a U => a = #[(.int p0), (.int p1)] ∧ Z.Warmed39 U.vm ∧ U.heap = h0) (fun _ _ _ _ _ => True) (fun _ U o U' => ∃ v L, o = .returned v ∧ Q_rmChk Z p0 p1 h0 n0 v U'.heap L ∧ FrameEnd U o U' L ({ frames := 0, cells := 0, slots := 0, locals := 0 } : Room).cells ({ frames := 0, cells := 0, slots := 0, locals := 0 } : Room).slots) := by
  refine MetFree.of_bodySF (plainFor_of_name pn_3) hisR ?_
  intro p e s m args below meth c s₁ Bd hml0 hP hK
  obtain ⟨rfl, hZ, hh⟩ := hP
  have hx := Bd.exec
  have hby := Bd.bytes
  have hml : c.maxLocals = 2 := hml0
  have hown : s.vm.findClass "java/util/Arrays" = some m.cls := findClass_of_methodNamed Bd.named
  have hnm := (name_of_methodNamed Bd.named Bd.method).1
  have X0 : Stand p l e ({ frames := 0, cells := 0, slots := 0, locals := 0 } : Room) s m #[(.int p0), (.int p1)] below meth c s₁ [] 0 0 := Stand.of_body Bd
  have e0 : s₁.heap = h0 := by rw [← hh, Bd.state]; rfl
  have N0 := Fr.nil n0
  have pre0 : ∀ t, Steps p.tables e below (s₁.setTop (mkF m 0 #[vi p0, vi p1] [])) t → Steps p.tables e below (s₁.setTop (entryFrame m #[(.int p0), (.int p1)] 2)) t := fun t k => castTop (ef_11 m p0 p1) k
  obtain ⟨fs, hr, hrun, hended, hW, hsame⟩ := X0.leave (v := none) (fun _ => rfl)
  refine ⟨_, _, pre0 _ ?_, hrun, hended, _, _, rfl, ?_, ⟨_, rfl⟩, hW, hsame.mono (by decide) (by decide)⟩
  · show SS p e below s₁ (mkF m 0 #[vi p0, vi p1] []) _
    refine XS.iloadN X0.here hx rfl (hb hby d40_0) rfl ?_
    show SS p e below s₁ (mkF m 1 #[vi p0, vi p1] [(.int p1)]) _
    refine XS.iloadN X0.here hx rfl (hb hby d40_1) rfl ?_
    show SS p e below s₁ (mkF m 2 #[vi p0, vi p1] [(.int p0), (.int p1)]) _
    refine XS.icmpYes X0.here hx rfl (pc0 := 2) (pc' := 37) rfl (hb hby d40_2) rfl (flt (u1 : ¬ (p1 < p0))).2.1 (by decide) (by decide) ?_
    show SS p e below s₁ (mkF m 37 #[vi p0, vi p1] []) _
    exact X0.returnOut hx Bd.returns (hb hby d40_37) hr
  · show Q_rmChk Z p0 p1 h0 n0 _ s₁.heap _
    rw [e0]
    exact ⟨rfl, N0, rfl⟩
theorem ef_12 (m : MethodId) (x0 : Addr) (x1 : Addr) : entryFrame m #[(.ref x0), (.ref x1)] 2 = mkF m 0 #[vr x0, vr x1] [] := by first | (simp [entryFrame, mkF, argsToLocals, Value.category]; done) | rfl
theorem pn_4 : plainName "java/util/Objects" = true := by first | (simp [plainName, overriddenIn]; done) | decide +kernel
theorem d4_0 : decode jdk_31_method_11_code 0 = .ok (.aload_n 0, 1) := by decide +kernel
theorem d4_1 : decode jdk_31_method_11_code 1 = .ok (.ifnonnull 12, 3) := by decide +kernel
theorem d4_13 : decode jdk_31_method_11_code 13 = .ok (.aload_n 0, 1) := by decide +kernel
theorem d4_14 : decode jdk_31_method_11_code 14 = .ok (.areturn, 1) := by decide +kernel
def Q_rmR (Z : State) (r0 : Addr) (r1 : Addr) (h0 : Heap) (n0 : Nat) (v : Option Value) (h : Heap) (L : List Loc) : Prop := (v = some (.ref r0) ∧ Fr n0 L ∧ h = h0)
set_option maxRecDepth 65536 in
set_option maxHeartbeats 40000000 in
theorem rmR (l : Launch) (Z : State) (a0 : Array Value) (hw : ∀ d ∈ tables_1, d.before a0 Z = true) (ws : List Jvm.Cond) (r0 : Addr) (r1 : Addr) (h0 : Heap) (n0 : Nat) (Z0 : n0 ≤ h0.size) :
    MetFree l (⟨"java/util/Objects", "requireNonNull", "(Ljava/lang/Object;Ljava/lang/String;)Ljava/lang/Object;"⟩ : MethodName) (head1 (Jvm.Cond.code (⟨"java/util/Objects", "requireNonNull", "(Ljava/lang/Object;Ljava/lang/String;)Ljava/lang/Object;"⟩ : MethodName) jdk_31_method_11_code 2 (some (.object "java/lang/Object")) :: ws) ({ frames := 0, cells := 0, slots := 0, locals := 0 } : Room)) (fun a U => a = #[(.ref r0), (.ref r1)] ∧ Z.Warmed39 U.vm ∧ U.heap = h0) (fun _ _ _ _ _ => True) (fun _ U o U' => ∃ v L, o = .returned v ∧ Q_rmR Z r0 r1 h0 n0 v U'.heap L ∧ FrameEnd U o U' L ({ frames := 0, cells := 0, slots := 0, locals := 0 } : Room).cells ({ frames := 0, cells := 0, slots := 0, locals := 0 } : Room).slots) := by
  refine MetFree.of_bodySF (plainFor_of_name pn_4) hisR ?_
  intro p e s m args below meth c s₁ Bd hml0 hP hK
  obtain ⟨rfl, hZ, hh⟩ := hP
  have hx := Bd.exec
  have hby := Bd.bytes
  have hml : c.maxLocals = 2 := hml0
  have hown : s.vm.findClass "java/util/Objects" = some m.cls := findClass_of_methodNamed Bd.named
  have hnm := (name_of_methodNamed Bd.named Bd.method).1
  have X0 : Stand p l e ({ frames := 0, cells := 0, slots := 0, locals := 0 } : Room) s m #[(.ref r0), (.ref r1)] below meth c s₁ [] 0 0 := Stand.of_body Bd
  have e0 : s₁.heap = h0 := by rw [← hh, Bd.state]; rfl
  have N0 := Fr.nil n0
  have pre0 : ∀ t, Steps p.tables e below (s₁.setTop (mkF m 0 #[vr r0, vr r1] [])) t → Steps p.tables e below (s₁.setTop (entryFrame m #[(.ref r0), (.ref r1)] 2)) t := fun t k => castTop (ef_12 m r0 r1) k
  obtain ⟨fs, hr, hrun, hended, hW, hsame⟩ := X0.leave (v := some (.ref r0)) (fun h => by rw [Bd.returns] at h; cases h)
  refine ⟨_, _, pre0 _ ?_, hrun, hended, _, _, rfl, ?_, ⟨_, rfl⟩, hW, hsame.mono (by decide) (by decide)⟩
  · show SS p e below s₁ (mkF m 0 #[vr r0, vr r1] []) _
    refine XS.aloadN X0.here hx rfl (hb hby d4_0) rfl rfl ?_
    show SS p e below s₁ (mkF m 1 #[vr r0, vr r1] [(.ref r0)]) _
    refine XS.ifnonnullYes X0.here hx rfl (pc0 := 1) (pc' := 13) rfl (hb hby d4_1) rfl (by decide) (by decide) ?_
    show SS p e below s₁ (mkF m 13 #[vr r0, vr r1] []) _
    refine XS.aloadN X0.here hx rfl (hb hby d4_13) rfl rfl ?_
    show SS p e below s₁ (mkF m 14 #[vr r0, vr r1] [(.ref r0)]) _
    exact retOut X0 hx Bd.returns rfl (Or.inr (Or.inr (Or.inr (Or.inr ⟨rfl, rfl, rfl⟩)))) (hb hby d4_14) hr
  · show Q_rmR Z r0 r1 h0 n0 _ s₁.heap _
    rw [e0]
    exact ⟨rfl, N0, rfl⟩
theorem ef_13 (m : MethodId) (x0 : Int32) : entryFrame m #[(.int x0)] 1 = mkF m 0 #[vi x0] [] := by first | (simp [entryFrame, mkF, argsToLocals, Value.category]; done) | rfl
theorem pn_5 : plainName "com/example/wireform/wireform/mapping/Conversions" = true := by first | (simp [plainName, overriddenIn]; done) | decide +kernel
theorem d5_0 : decode prog_36_method_5_code 0 = .ok (.iload_n 0, 1) := by decide +kernel
theorem d5_1 : decode prog_36_method_5_code 1 = .ok (.iconst 1, 1) := by decide +kernel
theorem d5_2 : decode prog_36_method_5_code 2 = .ok (.if_icmp .ge 30, 3) := by decide +kernel
theorem d5_32 : decode prog_36_method_5_code 32 = .ok (.iload_n 0, 1) := by decide +kernel
theorem d5_33 : decode prog_36_method_5_code 33 = .ok (.ireturn, 1) := by decide +kernel
def Q_rmD (Z : State) (p0 : Int32) (h0 : Heap) (n0 : Nat) (v : Option Value) (h : Heap) (L : List Loc) : Prop := (v = some (.int p0) ∧ Fr n0 L ∧ h = h0)
set_option maxRecDepth 65536 in
set_option maxHeartbeats 40000000 in
theorem rmD (l : Launch) (Z : State) (a0 : Array Value) (hw : ∀ d ∈ tables_1, d.before a0 Z = true) (ws : List Jvm.Cond) (p0 : Int32) (h0 : Heap) (n0 : Nat) (Z0 : n0 ≤ h0.size) (u1 : ¬ (p0 < (1 : Int32))) :
    MetFree l (⟨"com/example/wireform/wireform/mapping/Conversions", "requireDepthLimit", "(I)I"⟩ : MethodName) (head1 (Jvm.Cond.code (⟨"com/example/wireform/wireform/mapping/Conversions", "requireDepthLimit", "(I)I"⟩ : MethodName) prog_36_method_5_code 1 (some .int) :: ws) ({ frames := 0, cells := 0, slots := 0, locals := 0 } : Room)) (fun a U => a = #[(.int p0)] ∧ Z.Warmed39 U.vm ∧ U.heap = h0) (fun _ _ _ _ _ => True) (fun _ U o U' => ∃ v L, o = .returned v ∧ Q_rmD Z p0 h0 n0 v U'.heap L ∧ FrameEnd U o U' L ({ frames := 0, cells := 0, slots := 0, locals := 0 } : Room).cells ({ frames := 0, cells := 0, slots := 0, locals := 0 } : Room).slots) := by
  refine MetFree.of_bodySF (plainFor_of_name pn_5) hisR ?_
  intro p e s m args below meth c s₁ Bd hml0 hP hK
  obtain ⟨rfl, hZ, hh⟩ := hP
  have hx := Bd.exec
  have hby := Bd.bytes
  have hml : c.maxLocals = 1 := hml0
  have hown : s.vm.findClass "com/example/wireform/wireform/mapping/Conversions" = some m.cls := findClass_of_methodNamed Bd.named
  have hnm := (name_of_methodNamed Bd.named Bd.method).1
  have X0 : Stand p l e ({ frames := 0, cells := 0, slots := 0, locals := 0 } : Room) s m #[(.int p0)] below meth c s₁ [] 0 0 := Stand.of_body Bd
  have e0 : s₁.heap = h0 := by rw [← hh, Bd.state]; rfl
  have N0 := Fr.nil n0
  have pre0 : ∀ t, Steps p.tables e below (s₁.setTop (mkF m 0 #[vi p0] [])) t → Steps p.tables e below (s₁.setTop (entryFrame m #[(.int p0)] 1)) t := fun t k => castTop (ef_13 m p0) k
  obtain ⟨fs, hr, hrun, hended, hW, hsame⟩ := X0.leave (v := some (.int p0)) (fun h => by rw [Bd.returns] at h; cases h)
  refine ⟨_, _, pre0 _ ?_, hrun, hended, _, _, rfl, ?_, ⟨_, rfl⟩, hW, hsame.mono (by decide) (by decide)⟩
  · show SS p e below s₁ (mkF m 0 #[vi p0] []) _
    refine XS.iloadN X0.here hx rfl (hb hby d5_0) rfl ?_
    show SS p e below s₁ (mkF m 1 #[vi p0] [(.int p0)]) _
    refine XS.iconst X0.here hx rfl (hb hby d5_1) ?_
    show SS p e below s₁ (mkF m 2 #[vi p0] [(.int (1 : Int32)), (.int p0)]) _
    refine XS.icmpYes X0.here hx rfl (pc0 := 2) (pc' := 32) rfl (hb hby d5_2) rfl (flt (u1 : ¬ (p0 < (1 : Int32)))).2.1 (by decide) (by decide) ?_
    show SS p e below s₁ (mkF m 32 #[vi p0] []) _
    refine XS.iloadN X0.here hx rfl (hb hby d5_32) rfl ?_
    show SS p e below s₁ (mkF m 33 #[vi p0] [(.int p0)]) _
    exact retI X0 hx Bd.returns (hb hby d5_33) hr
  · show Q_rmD Z p0 h0 n0 _ s₁.heap _
    rw [e0]
    exact ⟨rfl, N0, rfl⟩
theorem ef_14 (m : MethodId) (x0 : Addr) (x1 : Addr) (x2 : Int32) : entryFrame m #[(.ref x0), (.ref x1), (.int x2)] 3 = mkF m 0 #[vr x0, vr x1, vi x2] [] := by first | (simp [entryFrame, mkF, argsToLocals, Value.category]; done) | rfl
theorem pn_6 : plainName "com/example/wireform/wireform/amf3/AmfInput" = true := by first | (simp [plainName, overriddenIn]; done) | decide +kernel
theorem d2_0 : decode prog_14_method_2_code 0 = .ok (.aload_n 0, 1) := by decide +kernel
theorem d2_1 : decode prog_14_method_2_code 1 = .ok (.invokespecial 9, 3) := by decide +kernel
theorem d2_4 : decode prog_14_method_2_code 4 = .ok (.aload_n 0, 1) := by decide +kernel
theorem d2_5 : decode prog_14_method_2_code 5 = .ok (.aload_n 1, 1) := by decide +kernel
theorem d2_6 : decode prog_14_method_2_code 6 = .ok (.ldc 14, 2) := by decide +kernel
theorem own_strAtoms : ∀ d ∈ Bundle.stringAtoms, d ∈ tables_1 := by decide +kernel
theorem d2_8 : decode prog_14_method_2_code 8 = .ok (.invokestatic 16, 3) := by decide +kernel
theorem pd_3 : parseMethodDescriptor "(Ljava/lang/Object;Ljava/lang/String;)Ljava/lang/Object;" = some ⟨[(.object "java/lang/Object"), (.object "java/lang/String")], some (.object "java/lang/Object")⟩ := by decide +kernel
theorem d2_11 : decode prog_14_method_2_code 11 = .ok (.checkcast 22, 3) := by decide +kernel
theorem d2_14 : decode prog_14_method_2_code 14 = .ok (.putfield 24, 3) := by decide +kernel
theorem d2_17 : decode prog_14_method_2_code 17 = .ok (.aload_n 0, 1) := by decide +kernel
theorem d2_18 : decode prog_14_method_2_code 18 = .ok (.iload_n 2, 1) := by decide +kernel
theorem d2_19 : decode prog_14_method_2_code 19 = .ok (.invokestatic 26, 3) := by decide +kernel
theorem pd_4 : parseMethodDescriptor "(I)I" = some ⟨[.int], some .int⟩ := by decide +kernel
theorem d2_22 : decode prog_14_method_2_code 22 = .ok (.putfield 30, 3) := by decide +kernel
theorem d2_25 : decode prog_14_method_2_code 25 = .ok (.return_, 1) := by decide +kernel
def Q_rmI2 (Z : State) (r0 : Addr) (r1 : Addr) (p2 : Int32) (h0 : Heap) (n0 : Nat) (v : Option Value) (h : Heap) (L : List Loc) : Prop := (v = none ∧ Fr n0 L ∧ Keep h0 h [r0] ∧ Fld Z h r0 "com/example/wireform/wireform/amf3/AmfInput" "bytes" "[B" (.ref r1) ∧ Fld Z h r0 "com/example/wireform/wireform/amf3/AmfInput" "position" "I" (.int (0 : Int32)) ∧ Fld Z h r0 "com/example/wireform/wireform/amf3/AmfInput" "valueStart" "I" (.int (0 : Int32)))
set_option maxRecDepth 65536 in
set_option maxHeartbeats 40000000 in
theorem rmI2 (l : Launch) (Z : State) (a0 : Array Value) (hw : ∀ d ∈ tables_1, d.before a0 Z = true) (ws : List Jvm.Cond) (r0 : Addr) (r1 : Addr) (p2 : Int32) (h0 : Heap) (n0 : Nat) (Z0 : n0 ≤ h0.size) (uE : Exa Z h0 r0 "com/example/wireform/wireform/amf3/AmfInput") (ub : Fld Z h0 r0 "com/example/wireform/wireform/amf3/AmfInput" "bytes" "[B" .null) (um : Fld Z h0 r0 "com/example/wireform/wireform/amf3/AmfInput" "maxDepth" "I" (.int (0 : Int32))) (up : Fld Z h0 r0 "com/example/wireform/wireform/amf3/AmfInput" "position" "I" (.int (0 : Int32))) (uvs : Fld Z h0 r0 "com/example/wireform/wireform/amf3/AmfInput" "valueStart" "I" (.int (0 : Int32))) (ug : n0 ≤ r0) (uB : Exa Z h0 r1 "[B") (u1 : ¬ (p2 < (1 : Int32))) :
    MetFree l (⟨"com/example/wireform/wireform/amf3/AmfInput", "<init>", "([BI)V"⟩ : MethodName) (head1 (Jvm.Cond.code (⟨"com/example/wireform/wireform/amf3/AmfInput", "<init>", "([BI)V"⟩ : MethodName) prog_14_method_2_code 3 none :: ws) ({ frames := 1, cells := 2, slots := 24, locals := 14 } : Room)) (fun a U => a = #[(.ref r0), (.ref r1), (.int p2)] ∧ Z.Warmed39 U.vm ∧ U.heap = h0 ∧ CHv Z own_EL U.vm h0) (fun _ _ _ _ _ => True) (fun _ U o U' => ∃ v L, o = .returned v ∧ Q_rmI2 Z r0 r1 p2 h0 n0 v U'.heap L ∧ CHr Z own_EL U.vm U.heap U'.vm U'.heap ∧ ReturnedEndW U o U' L ({ frames := 1, cells := 2, slots := 24, locals := 14 } : Room).cells ({ frames := 1, cells := 2, slots := 24, locals := 14 } : Room).slots) := by
  refine MetFree.of_bodySF (plainFor_of_name pn_6) hisR ?_
  intro p e s m args below meth c s₁ Bd hml0 hP hK
  obtain ⟨rfl, hZ, hh, hC0⟩ := hP
  have hx := Bd.exec
  have hby := Bd.bytes
  have hml : c.maxLocals = 3 := hml0
  have hown : s.vm.findClass "com/example/wireform/wireform/amf3/AmfInput" = some m.cls := findClass_of_methodNamed Bd.named
  have hnm := (name_of_methodNamed Bd.named Bd.method).1
  have X0 : Stand p l e ({ frames := 1, cells := 2, slots := 24, locals := 14 } : Room) (s.setVm s.vm) m #[(.ref r0), (.ref r1), (.int p2)] below meth c s₁ [] 0 0 := Stand.of_body Bd
  have e0 : s₁.heap = h0 := by rw [← hh, Bd.state]; rfl
  have N0 := Fr.nil n0
  have pre0 : ∀ t, Steps p.tables e below (s₁.setTop (mkF m 0 #[vr r0, vr r1, vi p2] [])) t → Steps p.tables e below (s₁.setTop (entryFrame m #[(.ref r0), (.ref r1), (.int p2)] 3)) t := fun t k => castTop (ef_14 m r0 r1 p2) k
  have hS0 : s.Since s.vm 0 := (State.WarmedH.refl s).since _
  have hk0 : 0 ≤ h0.size := Nat.zero_le _
  have R0 := CHr.refl hC0
  obtain ⟨T1, X1, e1, st1⟩ := initO X0 hx hZ hown (wd hw 10 rfl) (wd hw 11 rfl) (wd hw 12 rfl) e0 (g := (mkF m 1 #[vr r0, vr r1, vi p2] [(.ref r0)])) rfl (by rw [hml]; rfl) rfl (hb hby d2_1) (by decide) (W := 0) (by show 2 * 0 + _ ≤ _; exact Nat.le_of_eq rfl) (by decide)
  obtain ⟨b2, T2, h2, kk2, t2, kc2, X2, e2, E2, hS2, hk2, hZ2, hown2, fE2, fC2, fV2, fK2, lta2, ltb2, CH2, -, SF2, st2⟩ := ldcCH X1 hx hZ hown (wd hw 13 rfl) (fun d hd => hw d (own_strAtoms d hd)) e1 hS0 hk0 (own_EW hw) (by decide) hC0 (vs := [(.int (98 : Int32)), (.int (121 : Int32)), (.int (116 : Int32)), (.int (101 : Int32)), (.int (115 : Int32))]) (z := (5 : Int32)) ⟨by decide, by decide⟩ (by decide) (by decide) (g := (mkF m 6 #[vr r0, vr r1, vi p2] [(.ref r1), (.ref r0)])) rfl (hb hby d2_6) (n := 20) (by decide) (by decide) (by decide) (by decide)
  have Re3 := R0.trans CH2
  have hCe3 := Re3.1
  have c4 := (uE.ext E2)
  have nlr0_2 := SF2 r0 (Safe.exa hZ2.alike c4 (by decide) (by decide))
  have K2 : Keep h0 h2 [r0] := (Keep.refl h0 [r0]).ext E2
  have Z2 : n0 ≤ h2.size := Nat.le_trans Z0 E2.1
  obtain ⟨_, _, ⟨T5, Lw5, kw5, nw5⟩, -, X5, ⟨Lc5, hQ5, lq5, yq5, zq5⟩, st5⟩ := Jvm.LawKit.callS X2 hx (y := (⟨"java/util/Objects", "requireNonNull", "(Ljava/lang/Object;Ljava/lang/String;)Ljava/lang/Object;"⟩ : MethodName)) hown2 (mvT hZ2 (wd hw 20 rfl)) (mvT hZ2 (wd hw 21 rfl)) (mvT hZ2 (wd hw 22 rfl)) (mvT hZ2 (wd hw 23 rfl)) (by decide) (backOf (W := 1) (rmR l Z a0 hw [] r1 b2 h2 n0 Z2) hZ2 (wd hw 23 rfl) (wd hw 22 rfl) (by decide) (by decide)) (g := (mkF m 8 #[vr r0, vr r1, vi p2] [(.ref b2), (.ref r1), (.ref r0)])) rfl (by rw [hml]; rfl) (argsL := [(.ref r1), (.ref b2)]) (rest := [(.ref r0)]) (lenOf pd_3 rfl) rfl (by show 2 * 0 + _ ≤ _; exact Nat.le_of_eq rfl) (hb hby d2_8) (fun _ _ => ⟨rfl, e2, (by decide : 2 + 0 ≤ _), (by decide : 24 + 0 ≤ _)⟩)
  dsimp only [Pt.U, Pt.locs, Pt.cells, Pt.slots] at X5 lq5 yq5 zq5 st5 hQ5
  have X5 := own_reb X5 lq5 yq5 zq5
  obtain ⟨rfl, Nq5, eh5⟩ := hQ5
  have N5 := Fr.app N0 Nq5
  have c7 := (uB.ext E2)
  obtain ⟨T6, X6, e6, st6⟩ := castY X5 hx hZ2 hown2 (wd hw 24 rfl) eh5 (Ins.self c7) (g := (mkF m 11 #[vr r0, vr r1, vi p2] [(.ref r1), (.ref r0)])) rfl rfl (hb hby d2_11)
  have c9 := (ub.ext E2)
  obtain ⟨T8, h8, X8, e8, W8, st8⟩ := putF X6 hx hZ2 hown2 (host := "") (Or.inl (wd hw 26 rfl)) Via.refl e6 c9 c4 (Or.inr ⟨(wd hw 27 rfl), rfl, hnm⟩) (wd hw 1 rfl) (ty := (.array .byte)) (by decide) rfl rfl (g := (mkF m 14 #[vr r0, vr r1, vi p2] [(.ref r1), (.ref r0)])) rfl rfl (hb hby d2_14)
  have Re10 := Re3.trans (CHr.wr W8 (Safe.exa hZ2.alike c4 (by decide) (by decide)) hCe3)
  have hCe10 := Re10.1
  have Fw8 := c9.same W8
  have N8 := Fr.snoc X8 N5 ug
  have K8 : Keep h0 h8 [r0] := K2.wr W8 (Or.inl (List.mem_of_getElem? (i := 0) rfl))
  have Z8 : n0 ≤ h8.size := by rw [W8.size]; exact Z2
  have hk8 := own_szW W8 hk2
  obtain ⟨_, _, ⟨T11, Lw11, kw11, nw11⟩, -, X11, ⟨Lc11, hQ11, lq11, yq11, zq11⟩, st11⟩ := Jvm.LawKit.callS X8 hx (y := (⟨"com/example/wireform/wireform/mapping/Conversions", "requireDepthLimit", "(I)I"⟩ : MethodName)) hown2 (mvT hZ2 (wd hw 28 rfl)) (mvT hZ2 (wd hw 29 rfl)) (mvT hZ2 (wd hw 30 rfl)) (mvT hZ2 (wd hw 31 rfl)) (by decide) (backOf (W := 1) (rmD l Z a0 hw [] p2 h8 n0 Z8 u1) hZ2 (wd hw 31 rfl) (wd hw 30 rfl) (by decide) (by decide)) (g := (mkF m 19 #[vr r0, vr r1, vi p2] [(.int p2), (.ref r0)])) rfl (by rw [hml]; rfl) (argsL := [(.int p2)]) (rest := [(.ref r0)]) (lenOf pd_4 rfl) rfl (by show 2 * 0 + _ ≤ _; exact Nat.le_of_eq rfl) (hb hby d2_19) (fun _ _ => ⟨rfl, e8, (by decide : 2 + 0 ≤ _), (by decide : 24 + 0 ≤ _)⟩)
  dsimp only [Pt.U, Pt.locs, Pt.cells, Pt.slots] at X11 lq11 yq11 zq11 st11 hQ11
  have X11 := own_reb X11 lq11 yq11 zq11
  obtain ⟨rfl, Nq11, eh11⟩ := hQ11
  have N11 := Fr.app N8 Nq11
  have c13 := (c4.wr W8)
  have c14 := ((um.ext E2).other W8 (Or.inr (slot_ne (Or.inr (wd hw 33 rfl)) (Or.inr (wd hw 27 rfl)) (by decide) (t := .int) (t' := (.array .byte)) (by decide) (by decide))))
  obtain ⟨T12, h12, X12, e12, W12, st12⟩ := putF X11 hx hZ2 hown2 (host := "") (Or.inl (wd hw 32 rfl)) Via.refl eh11 c14 c13 (Or.inr ⟨(wd hw 33 rfl), rfl, hnm⟩) (wd hw 1 rfl) (ty := .int) (by decide) rfl rfl (g := (mkF m 22 #[vr r0, vr r1, vi p2] [(.int p2), (.ref r0)])) rfl rfl (hb hby d2_22)
  have Re15 := Re10.trans (CHr.wr W12 (Safe.exa hZ2.alike c13 (by decide) (by decide)) hCe10)
  have hCe15 := Re15.1
  have Fw12 := c14.same W12
  have N12 := Fr.snoc X12 N11 ug
  have K12 : Keep h0 h12 [r0] := K8.wr W12 (Or.inl (List.mem_of_getElem? (i := 0) rfl))
  have Z12 : n0 ≤ h12.size := by rw [W12.size]; exact Z8
  have hk12 := own_szW W12 hk8
  have c16 := (Fw8.other W12 (Or.inr (slot_ne (Or.inr (wd hw 27 rfl)) (Or.inr (wd hw 33 rfl)) (by decide) (t := (.array .byte)) (t' := .int) (by decide) (by decide))))
  have c17 := (((up.ext E2).other W8 (Or.inr (slot_ne (Or.inl (wd hw 42 rfl)) (Or.inr (wd hw 27 rfl)) (by decide) (t := .int) (t' := (.array .byte)) (by decide) (by decide)))).other W12 (Or.inr (slot_ne (Or.inl (wd hw 42 rfl)) (Or.inr (wd hw 33 rfl)) (by decide) (t := .int) (t' := .int) (by decide) (by decide))))
  have c18 := (((uvs.ext E2).other W8 (Or.inr (slot_ne (Or.inl (wd hw 40 rfl)) (Or.inr (wd hw 27 rfl)) (by decide) (t := .int) (t' := (.array .byte)) (by decide) (by decide)))).other W12 (Or.inr (slot_ne (Or.inl (wd hw 40 rfl)) (Or.inr (wd hw 33 rfl)) (by decide) (t := .int) (t' := .int) (by decide) (by decide))))
  obtain ⟨fs, hr, hrun, hended, en1, en2, en3, en4⟩ := X12.leaveW hS2 (own_hk e12 hk12) (v := none) (fun _ => rfl)
  refine ⟨_, _, pre0 _ ?_, hrun, hended, _, _, rfl, ?_, own_chr (T := T12) hh e12 (Re15.trans (CHv.at X12 hZ2 (own_EW hw) hCe15)), en1, en2, en3, en4.mono (by decide) (by decide)⟩
  · show SS p e below s₁ (mkF m 0 #[vr r0, vr r1, vi p2] []) _
    refine XS.aloadN X0.here hx rfl (hb hby d2_0) rfl rfl ?_
    show SS p e below s₁ (mkF m 1 #[vr r0, vr r1, vi p2] [(.ref r0)]) _
    refine st1 _ ?_
    show SS p e below T1 (mkF m 4 #[vr r0, vr r1, vi p2] []) _
    refine XS.aloadN X1.here hx rfl (hb hby d2_4) rfl rfl ?_
    show SS p e below T1 (mkF m 5 #[vr r0, vr r1, vi p2] [(.ref r0)]) _
    refine XS.aloadN X1.here hx rfl (hb hby d2_5) rfl rfl ?_
    show SS p e below T1 (mkF m 6 #[vr r0, vr r1, vi p2] [(.ref r1), (.ref r0)]) _
    refine st2 _ ?_
    show SS p e below T2 (mkF m 8 #[vr r0, vr r1, vi p2] [(.ref b2), (.ref r1), (.ref r0)]) _
    refine st5 _ ?_
    show SS p e below T5 (mkF m 11 #[vr r0, vr r1, vi p2] [(.ref r1), (.ref r0)]) _
    refine st6 _ ?_
    show SS p e below T6 (mkF m 14 #[vr r0, vr r1, vi p2] [(.ref r1), (.ref r0)]) _
    refine st8 _ ?_
    show SS p e below T8 (mkF m 17 #[vr r0, vr r1, vi p2] []) _
    refine XS.aloadN X8.here hx rfl (hb hby d2_17) rfl rfl ?_
    show SS p e below T8 (mkF m 18 #[vr r0, vr r1, vi p2] [(.ref r0)]) _
    refine XS.iloadN X8.here hx rfl (hb hby d2_18) rfl ?_
    show SS p e below T8 (mkF m 19 #[vr r0, vr r1, vi p2] [(.int p2), (.ref r0)]) _
    refine st11 _ ?_
    show SS p e below T11 (mkF m 22 #[vr r0, vr r1, vi p2] [(.int p2), (.ref r0)]) _
    refine st12 _ ?_
    show SS p e below T12 (mkF m 25 #[vr r0, vr r1, vi p2] []) _
    exact X12.returnOut hx Bd.returns (hb hby d2_25) hr
  · show Q_rmI2 Z r0 r1 p2 h0 n0 _ T12.heap _
    rw [e12]
    exact ⟨rfl, N12, K12, c16, c17, c18⟩
theorem ef_15 (m : MethodId) (x0 : Addr) (x1 : Addr) : entryFrame m #[(.ref x0), (.ref x1)] 2 = mkF m 0 #[vr x0, vr x1] [] := by first | (simp [entryFrame, mkF, argsToLocals, Value.category]; done) | rfl
theorem d1_0 : decode prog_14_method_1_code 0 = .ok (.aload_n 0, 1) := by decide +kernel
theorem d1_1 : decode prog_14_method_1_code 1 = .ok (.aload_n 1, 1) := by decide +kernel
theorem d1_2 : decode prog_14_method_1_code 2 = .ok (.sipush 512, 3) := by decide +kernel
theorem d1_5 : decode prog_14_method_1_code 5 = .ok (.invokespecial 5, 3) := by decide +kernel
theorem pd_5 : parseMethodDescriptor "([BI)V" = some ⟨[(.array .byte), .int], none⟩ := by decide +kernel
theorem d1_8 : decode prog_14_method_1_code 8 = .ok (.return_, 1) := by decide +kernel
def Q_rmI (Z : State) (r0 : Addr) (r1 : Addr) (h0 : Heap) (n0 : Nat) (v : Option Value) (h : Heap) (L : List Loc) : Prop := (v = none ∧ Fr n0 L ∧ Keep h0 h [r0] ∧ Fld Z h r0 "com/example/wireform/wireform/amf3/AmfInput" "bytes" "[B" (.ref r1) ∧ Fld Z h r0 "com/example/wireform/wireform/amf3/AmfInput" "position" "I" (.int (0 : Int32)) ∧ Fld Z h r0 "com/example/wireform/wireform/amf3/AmfInput" "valueStart" "I" (.int (0 : Int32)))
set_option maxRecDepth 65536 in
set_option maxHeartbeats 40000000 in
theorem rmI (l : Launch) (Z : State) (a0 : Array Value) (hw : ∀ d ∈ tables_1, d.before a0 Z = true) (ws : List Jvm.Cond) (r0 : Addr) (r1 : Addr) (h0 : Heap) (n0 : Nat) (Z0 : n0 ≤ h0.size) (uE : Exa Z h0 r0 "com/example/wireform/wireform/amf3/AmfInput") (ub : Fld Z h0 r0 "com/example/wireform/wireform/amf3/AmfInput" "bytes" "[B" .null) (um : Fld Z h0 r0 "com/example/wireform/wireform/amf3/AmfInput" "maxDepth" "I" (.int (0 : Int32))) (up : Fld Z h0 r0 "com/example/wireform/wireform/amf3/AmfInput" "position" "I" (.int (0 : Int32))) (uvs : Fld Z h0 r0 "com/example/wireform/wireform/amf3/AmfInput" "valueStart" "I" (.int (0 : Int32))) (ug : n0 ≤ r0) (uB : Exa Z h0 r1 "[B") :
    MetFree l (⟨"com/example/wireform/wireform/amf3/AmfInput", "<init>", "([B)V"⟩ : MethodName) (head1 (Jvm.Cond.code (⟨"com/example/wireform/wireform/amf3/AmfInput", "<init>", "([B)V"⟩ : MethodName) prog_14_method_1_code 2 none :: ws) ({ frames := 2, cells := 2, slots := 24, locals := 28 } : Room)) (fun a U => a = #[(.ref r0), (.ref r1)] ∧ Z.Warmed39 U.vm ∧ U.heap = h0 ∧ CHv Z own_EL U.vm h0) (fun _ _ _ _ _ => True) (fun _ U o U' => ∃ v L, o = .returned v ∧ Q_rmI Z r0 r1 h0 n0 v U'.heap L ∧ CHr Z own_EL U.vm U.heap U'.vm U'.heap ∧ ReturnedEndW U o U' L ({ frames := 2, cells := 2, slots := 24, locals := 28 } : Room).cells ({ frames := 2, cells := 2, slots := 24, locals := 28 } : Room).slots) := by
  refine MetFree.of_bodySF (plainFor_of_name pn_6) hisR ?_
  intro p e s m args below meth c s₁ Bd hml0 hP hK
  obtain ⟨rfl, hZ, hh, hC0⟩ := hP
  have hx := Bd.exec
  have hby := Bd.bytes
  have hml : c.maxLocals = 2 := hml0
  have hown : s.vm.findClass "com/example/wireform/wireform/amf3/AmfInput" = some m.cls := findClass_of_methodNamed Bd.named
  have hnm := (name_of_methodNamed Bd.named Bd.method).1
  have X0 : Stand p l e ({ frames := 2, cells := 2, slots := 24, locals := 28 } : Room) (s.setVm s.vm) m #[(.ref r0), (.ref r1)] below meth c s₁ [] 0 0 := Stand.of_body Bd
  have e0 : s₁.heap = h0 := by rw [← hh, Bd.state]; rfl
  have N0 := Fr.nil n0
  have pre0 : ∀ t, Steps p.tables e below (s₁.setTop (mkF m 0 #[vr r0, vr r1] [])) t → Steps p.tables e below (s₁.setTop (entryFrame m #[(.ref r0), (.ref r1)] 2)) t := fun t k => castTop (ef_15 m r0 r1) k
  have hS0 : s.Since s.vm 0 := (State.WarmedH.refl s).since _
  have hk0 : 0 ≤ h0.size := Nat.zero_le _
  have R0 := CHr.refl hC0
  obtain ⟨_, _, ⟨T1, Lw1, kw1, nw1⟩, -, X1', hS1', hg1, ⟨Lc1, hQ1, lq1, yq1, zq1, CH1⟩, st1⟩ := X0.specialBackS hx (y := (⟨"com/example/wireform/wireform/amf3/AmfInput", "<init>", "([BI)V"⟩ : MethodName)) rfl hown (mvT hZ (wd hw 7 rfl)) (mvT hZ (wd hw 8 rfl)) (mvT hZ (wd hw 9 rfl)) (by decide) (backOfSH (W := 0) (rmI2 l Z a0 hw [] r0 r1 (512 : Int32) h0 n0 Z0 uE ub um up uvs ug uB (by decide)) hZ (wd hw 9 rfl) (wd hw 2 rfl) (by decide) (by decide) (own_EW hw) hC0) (g := (mkF m 5 #[vr r0, vr r1] [(.int (512 : Int32)), (.ref r1), (.ref r0)])) rfl (by rw [hml]; rfl) (Steps.refl _) (a := r0) (argsL := [(.ref r1), (.int (512 : Int32))]) (rest := []) (lenOf pd_5 rfl) rfl (by show 2 * 0 + _ ≤ _; exact Nat.le_of_eq rfl) (hb hby d1_5) (fun _ _ => ⟨rfl, e0, (by decide : 0 + 2 ≤ _), (by decide : 0 + 24 ≤ _)⟩)
  dsimp only [Pt.U, Pt.locs, Pt.cells, Pt.slots] at X1' hS1' hg1 lq1 yq1 zq1 st1 hQ1 CH1
  have X1' := own_reb X1' lq1 yq1 zq1
  obtain ⟨X1, hS1, hZ1, hown1⟩ := rebS hS0 (own_hk e0 hk0) X1' hS1' hg1 hZ hown
  obtain ⟨rfl, Nq1, Kq1, f1_0, f1_1, f1_2⟩ := hQ1
  have N1 := Fr.app N0 Nq1
  have Re2 := R0.trans CH1
  have hCe2 := Re2.1
  have K1 : Keep h0 T1.heap [r0] := (Keep.refl h0 [r0]).trans Kq1 (allS (Or.inl (List.mem_of_getElem? (i := 0) rfl)) all0)
  have Z1 : n0 ≤ T1.heap.size := Nat.le_trans Z0 Kq1.1
  have hk1 : T1.heap.size ≤ T1.heap.size := Nat.le_refl _
  obtain ⟨fs, hr, hrun, hended, en1, en2, en3, en4⟩ := X1.leaveW hS1 (own_hk rfl hk1) (v := none) (fun _ => rfl)
  refine ⟨_, _, pre0 _ ?_, hrun, hended, _, _, rfl, ?_, own_chr (T := T1) hh rfl (Re2.trans (CHv.at X1 hZ1 (own_EW hw) hCe2)), en1, en2, en3, en4.mono (by decide) (by decide)⟩
  · show SS p e below s₁ (mkF m 0 #[vr r0, vr r1] []) _
    refine XS.aloadN X0.here hx rfl (hb hby d1_0) rfl rfl ?_
    show SS p e below s₁ (mkF m 1 #[vr r0, vr r1] [(.ref r0)]) _
    refine XS.aloadN X0.here hx rfl (hb hby d1_1) rfl rfl ?_
    show SS p e below s₁ (mkF m 2 #[vr r0, vr r1] [(.ref r1), (.ref r0)]) _
    refine XS.sipush X0.here hx rfl (hb hby d1_2) ?_
    show SS p e below s₁ (mkF m 5 #[vr r0, vr r1] [(.int (512 : Int32)), (.ref r1), (.ref r0)]) _
    refine st1.trans ?_
    show SS p e below T1 (mkF m 8 #[vr r0, vr r1] []) _
    exact X1.returnOut hx Bd.returns (hb hby d1_8) hr
  · show Q_rmI Z r0 r1 h0 n0 _ T1.heap _
    exact ⟨rfl, N1, K1, f1_0, f1_1, f1_2⟩
theorem ef_16 (m : MethodId) (x0 : Addr) (x1 : Int64) (x2 : Addr) : entryFrame m #[(.ref x0), (.long x1), (.ref x2)] 5 = mkF m 0 #[vr x0, vl x1, us, vr x2, uu] [] := by first | (simp [entryFrame, mkF, argsToLocals, Value.category]; done) | rfl
theorem d8_0 : decode prog_14_method_19_code 0 = .ok (.aload_n 0, 1) := by decide +kernel
theorem d8_1 : decode prog_14_method_19_code 1 = .ok (.getfield 24, 3) := by decide +kernel
theorem d8_4 : decode prog_14_method_19_code 4 = .ok (.arraylength, 1) := by decide +kernel
theorem d8_5 : decode prog_14_method_19_code 5 = .ok (.aload_n 0, 1) := by decide +kernel
theorem d8_6 : decode prog_14_method_19_code 6 = .ok (.getfield 34, 3) := by decide +kernel
theorem d8_9 : decode prog_14_method_19_code 9 = .ok (.isub, 1) := by decide +kernel
theorem d8_10 : decode prog_14_method_19_code 10 = .ok (.istore 4, 2) := by decide +kernel
theorem d8_12 : decode prog_14_method_19_code 12 = .ok (.lload_n 1, 1) := by decide +kernel
theorem d8_13 : decode prog_14_method_19_code 13 = .ok (.iload 4, 2) := by decide +kernel
theorem d8_15 : decode prog_14_method_19_code 15 = .ok (.i2l, 1) := by decide +kernel
theorem d8_16 : decode prog_14_method_19_code 16 = .ok (.lcmp, 1) := by decide +kernel
theorem d8_17 : decode prog_14_method_19_code 17 = .ok (.ifCond .le 51, 3) := by decide +kernel
theorem d8_68 : decode prog_14_method_19_code 68 = .ok (.return_, 1) := by decide +kernel
def Q_rmQ (Z : State) (r0 : Addr) (q1 : Int64) (r2 : Addr) (rb : Addr) (ps : Int32) (kb : ClassId) (zb : Int32) (vs : List Value) (dv : Value) (h0 : Heap) (n0 : Nat) (v : Option Value) (h : Heap) (L : List Loc) : Prop := (v = none ∧ Fr n0 L ∧ h = h0)
set_option maxRecDepth 65536 in
set_option maxHeartbeats 40000000 in
theorem rmQ (l : Launch) (Z : State) (a0 : Array Value) (hw : ∀ d ∈ tables_1, d.before a0 Z = true) (ws : List Jvm.Cond) (r0 : Addr) (q1 : Int64) (r2 : Addr) (rb : Addr) (ps : Int32) (kb : ClassId) (zb : Int32) (vs : List Value) (dv : Value) (h0 : Heap) (n0 : Nat) (Z0 : n0 ≤ h0.size) (ub : Fld Z h0 r0 "com/example/wireform/wireform/amf3/AmfInput" "bytes" "[B" (.ref rb)) (up : Fld Z h0 r0 "com/example/wireform/wireform/amf3/AmfInput" "position" "I" (.int ps)) (uV : Arv Z h0 rb kb .byte zb vs dv) (u1 : ¬ ((0 : Int32) < (lcmpW q1 ((zb - ps).toInt64)))) :
    MetFree l (⟨"com/example/wireform/wireform/amf3/AmfInput", "require", "(JLjava/lang/String;)V"⟩ : MethodName) (head1 (Jvm.Cond.code (⟨"com/example/wireform/wireform/amf3/AmfInput", "require", "(JLjava/lang/String;)V"⟩ : MethodName) prog_14_method_19_code 5 none :: ws) ({ frames := 0, cells := 0, slots := 0, locals := 0 } : Room)) (fun a U => a = #[(.ref r0), (.long q1), (.ref r2)] ∧ Z.Warmed39 U.vm ∧ U.heap = h0) (fun _ _ _ _ _ => True) (fun _ U o U' => ∃ v L, o = .returned v ∧ Q_rmQ Z r0 q1 r2 rb ps kb zb vs dv h0 n0 v U'.heap L ∧ FrameEnd U o U' L ({ frames := 0, cells := 0, slots := 0, locals := 0 } : Room).cells ({ frames := 0, cells := 0, slots := 0, locals := 0 } : Room).slots) := by
  refine MetFree.of_bodySF (plainFor_of_name pn_6) hisR ?_
  intro p e s m args below meth c s₁ Bd hml0 hP hK
  obtain ⟨rfl, hZ, hh⟩ := hP
  have hx := Bd.exec
  have hby := Bd.bytes
  have hml : c.maxLocals = 5 := hml0
  have hown : s.vm.findClass "com/example/wireform/wireform/amf3/AmfInput" = some m.cls := findClass_of_methodNamed Bd.named
  have hnm := (name_of_methodNamed Bd.named Bd.method).1
  have X0 : Stand p l e ({ frames := 0, cells := 0, slots := 0, locals := 0 } : Room) s m #[(.ref r0), (.long q1), (.ref r2)] below meth c s₁ [] 0 0 := Stand.of_body Bd
  have e0 : s₁.heap = h0 := by rw [← hh, Bd.state]; rfl
  have N0 := Fr.nil n0
  have pre0 : ∀ t, Steps p.tables e below (s₁.setTop (mkF m 0 #[vr r0, vl q1, us, vr r2, uu] [])) t → Steps p.tables e below (s₁.setTop (entryFrame m #[(.ref r0), (.long q1), (.ref r2)] 5)) t := fun t k => castTop (ef_16 m r0 q1 r2) k
  obtain ⟨T1, X1, e1, st1⟩ := getF X0 hx hZ hown (host := "") (Or.inl (wd hw 26 rfl)) Via.refl e0 ub (g := (mkF m 1 #[vr r0, vl q1, us, vr r2, uu] [(.ref r0)])) rfl rfl (hb hby d8_1)
  obtain ⟨cl2, Ar2, q2, S2, Nn2, H2, G2⟩ := (id uV)
  obtain ⟨T3, X3, e3, st3⟩ := getF X1 hx hZ hown (host := "") (Or.inl (wd hw 41 rfl)) Via.refl e1 up (g := (mkF m 6 #[vr r0, vl q1, us, vr r2, uu] [(.ref r0), (.int zb)])) rfl rfl (hb hby d8_6)
  obtain ⟨fs, hr, hrun, hended, hW, hsame⟩ := X3.leave (v := none) (fun _ => rfl)
  refine ⟨_, _, pre0 _ ?_, hrun, hended, _, _, rfl, ?_, ⟨_, rfl⟩, hW, hsame.mono (by decide) (by decide)⟩
  · show SS p e below s₁ (mkF m 0 #[vr r0, vl q1, us, vr r2, uu] []) _
    refine XS.aloadN X0.here hx rfl (hb hby d8_0) rfl rfl ?_
    show SS p e below s₁ (mkF m 1 #[vr r0, vl q1, us, vr r2, uu] [(.ref r0)]) _
    refine st1 _ ?_
    show SS p e below T1 (mkF m 4 #[vr r0, vl q1, us, vr r2, uu] [(.ref rb)]) _
    refine X1.arraylength hx (own_at e1 Ar2.1) (State.isArrayOf_alike hZ.alike Ar2.2.1) (g := (mkF m 4 #[vr r0, vl q1, us, vr r2, uu] [(.ref rb)])) rfl rfl (hb hby d8_4) _ ?_
    rw [len_of S2 Nn2]
    show SS p e below T1 (mkF m 5 #[vr r0, vl q1, us, vr r2, uu] [(.int zb)]) _
    refine XS.aloadN X1.here hx rfl (hb hby d8_5) rfl rfl ?_
    show SS p e below T1 (mkF m 6 #[vr r0, vl q1, us, vr r2, uu] [(.ref r0), (.int zb)]) _
    refine st3 _ ?_
    show SS p e below T3 (mkF m 9 #[vr r0, vl q1, us, vr r2, uu] [(.int ps), (.int zb)]) _
    refine XS.isub X3.here hx rfl (hb hby d8_9) rfl ?_
    show SS p e below T3 (mkF m 10 #[vr r0, vl q1, us, vr r2, uu] [(.int (zb - ps))]) _
    refine XS.istore X3.here hx rfl (hb hby d8_10) rfl (l' := #[vr r0, vl q1, us, vr r2, vi (zb - ps)]) rfl ?_
    show SS p e below T3 (mkF m 12 #[vr r0, vl q1, us, vr r2, vi (zb - ps)] []) _
    refine XS.lloadN X3.here hx rfl (hb hby d8_12) rfl ?_
    show SS p e below T3 (mkF m 13 #[vr r0, vl q1, us, vr r2, vi (zb - ps)] [(.long q1)]) _
    refine XS.iload X3.here hx rfl (hb hby d8_13) rfl ?_
    show SS p e below T3 (mkF m 15 #[vr r0, vl q1, us, vr r2, vi (zb - ps)] [(.int (zb - ps)), (.long q1)]) _
    refine XS.i2l X3.here hx rfl (hb hby d8_15) rfl ?_
    show SS p e below T3 (mkF m 16 #[vr r0, vl q1, us, vr r2, vi (zb - ps)] [(.long ((zb - ps).toInt64)), (.long q1)]) _
    refine XS.lcmp X3.here hx rfl (hb hby d8_16) rfl ?_
    show SS p e below T3 (mkF m 17 #[vr r0, vl q1, us, vr r2, vi (zb - ps)] [(.int (lcmpW q1 ((zb - ps).toInt64)))]) _
    refine XS.ifYes X3.here hx rfl (pc0 := 17) (pc' := 68) rfl (hb hby d8_17) rfl ((if0 _ _).trans (flt (u1 : ¬ ((0 : Int32) < (lcmpW q1 ((zb - ps).toInt64))))).2.2.2) (by decide) (by decide) ?_
    show SS p e below T3 (mkF m 68 #[vr r0, vl q1, us, vr r2, vi (zb - ps)] []) _
    exact X3.returnOut hx Bd.returns (hb hby d8_68) hr
  · show Q_rmQ Z r0 q1 r2 rb ps kb zb vs dv h0 n0 _ T3.heap _
    rw [e3]
    exact ⟨rfl, N0, rfl⟩
theorem ef_17 (m : MethodId) (x0 : Addr) (x1 : Int32) (x2 : Int32) : entryFrame m #[(.ref x0), (.int x1), (.int x2)] 5 = mkF m 0 #[vr x0, vi x1, vi x2, uu, uu] [] := by first | (simp [entryFrame, mkF, argsToLocals, Value.category]; done) | rfl
theorem d39_0 : decode jdk_65_method_133_code 0 = .ok (.iload_n 1, 1) := by decide +kernel
theorem d39_1 : decode jdk_65_method_133_code 1 = .ok (.iload_n 2, 1) := by decide +kernel
theorem d39_2 : decode jdk_65_method_133_code 2 = .ok (.invokestatic 343, 3) := by decide +kernel
theorem pd_6 : parseMethodDescriptor "(II)V" = some ⟨[.int, .int], none⟩ := by decide +kernel
theorem d39_5 : decode jdk_65_method_133_code 5 = .ok (.iload_n 2, 1) := by decide +kernel
theorem d39_6 : decode jdk_65_method_133_code 6 = .ok (.iload_n 1, 1) := by decide +kernel
theorem d39_7 : decode jdk_65_method_133_code 7 = .ok (.isub, 1) := by decide +kernel
theorem d39_8 : decode jdk_65_method_133_code 8 = .ok (.istore_n 3, 1) := by decide +kernel
theorem d39_9 : decode jdk_65_method_133_code 9 = .ok (.iload_n 3, 1) := by decide +kernel
theorem d39_10 : decode jdk_65_method_133_code 10 = .ok (.newarray .byte, 2) := by decide +kernel
theorem d39_12 : decode jdk_65_method_133_code 12 = .ok (.astore 4, 2) := by decide +kernel
theorem d39_14 : decode jdk_65_method_133_code 14 = .ok (.aload_n 0, 1) := by decide +kernel
theorem d39_15 : decode jdk_65_method_133_code 15 = .ok (.iload_n 1, 1) := by decide +kernel
theorem d39_16 : decode jdk_65_method_133_code 16 = .ok (.aload 4, 2) := by decide +kernel
theorem d39_18 : decode jdk_65_method_133_code 18 = .ok (.iconst 0, 1) := by decide +kernel
theorem d39_19 : decode jdk_65_method_133_code 19 = .ok (.aload_n 0, 1) := by decide +kernel
theorem d39_20 : decode jdk_65_method_133_code 20 = .ok (.arraylength, 1) := by decide +kernel
theorem d39_21 : decode jdk_65_method_133_code 21 = .ok (.iload_n 1, 1) := by decide +kernel
theorem d39_22 : decode jdk_65_method_133_code 22 = .ok (.isub, 1) := by decide +kernel
theorem d39_23 : decode jdk_65_method_133_code 23 = .ok (.iload_n 3, 1) := by decide +kernel
theorem d39_24 : decode jdk_65_method_133_code 24 = .ok (.invokestatic 304, 3) := by decide +kernel
theorem pd_7 : parseMethodDescriptor "(II)I" = some ⟨[.int, .int], some .int⟩ := by decide +kernel
theorem d39_27 : decode jdk_65_method_133_code 27 = .ok (.invokestatic 150, 3) := by decide +kernel
theorem d39_30 : decode jdk_65_method_133_code 30 = .ok (.aload 4, 2) := by decide +kernel
theorem d39_32 : decode jdk_65_method_133_code 32 = .ok (.areturn, 1) := by decide +kernel
def Q_rmCB (Z : State) (r0 : Addr) (p1 : Int32) (p2 : Int32) (kb : ClassId) (zb : Int32) (vs : List Value) (dv : Value) (h0 : Heap) (n0 : Nat) (v : Option Value) (h : Heap) (L : List Loc) : Prop := ∃ (nb : Addr), (v = some (.ref nb) ∧ Fr n0 L ∧ Keep h0 h [] ∧ h0.size ≤ nb)
set_option maxRecDepth 65536 in
set_option maxHeartbeats 40000000 in
theorem rmCB (l : Launch) (Z : State) (a0 : Array Value) (hw : ∀ d ∈ tables_1, d.before a0 Z = true) (ws : List Jvm.Cond) (r0 : Addr) (p1 : Int32) (p2 : Int32) (kb : ClassId) (zb : Int32) (vs : List Value) (dv : Value) (h0 : Heap) (n0 : Nat) (Z0 : n0 ≤ h0.size) (uE : Exa Z h0 r0 "[B") (uV : Arv Z h0 r0 kb .byte zb vs dv) (u0 : 0 ≤ p1.toInt) (u1 : p1.toInt ≤ p2.toInt) (u2 : p2.toInt ≤ zb.toInt) (u3 : zb.toInt ≤ 8) :
    MetFree l (⟨"java/util/Arrays", "copyOfRangeByte", "([BII)[B"⟩ : MethodName) (head1 (Jvm.Cond.code (⟨"java/util/Arrays", "copyOfRangeByte", "([BII)[B"⟩ : MethodName) jdk_65_method_133_code 5 (some (.array .byte)) :: ws) ({ frames := 1, cells := 1, slots := 8, locals := 18 } : Room)) (fun a U => a = #[(.ref r0), (.int p1), (.int p2)] ∧ Z.Warmed39 U.vm ∧ U.heap = h0) (fun _ _ _ _ _ => True) (fun _ U o U' => ∃ v L, o = .returned v ∧ Q_rmCB Z r0 p1 p2 kb zb vs dv h0 n0 v U'.heap L ∧ FrameEnd U o U' L ({ frames := 1, cells := 1, slots := 8, locals := 18 } : Room).cells ({ frames := 1, cells := 1, slots := 8, locals := 18 } : Room).slots) := by
  refine MetFree.of_bodySF (plainFor_of_name pn_3) hisR ?_
  intro p e s m args below meth c s₁ Bd hml0 hP hK
  obtain ⟨rfl, hZ, hh⟩ := hP
  have hx := Bd.exec
  have hby := Bd.bytes
  have hml : c.maxLocals = 5 := hml0
  have hown : s.vm.findClass "java/util/Arrays" = some m.cls := findClass_of_methodNamed Bd.named
  have hnm := (name_of_methodNamed Bd.named Bd.method).1
  have X0 : Stand p l e ({ frames := 1, cells := 1, slots := 8, locals := 18 } : Room) s m #[(.ref r0), (.int p1), (.int p2)] below meth c s₁ [] 0 0 := Stand.of_body Bd
  have e0 : s₁.heap = h0 := by rw [← hh, Bd.state]; rfl
  have N0 := Fr.nil n0
  have pre0 : ∀ t, Steps p.tables e below (s₁.setTop (mkF m 0 #[vr r0, vi p1, vi p2, uu, uu] [])) t → Steps p.tables e below (s₁.setTop (entryFrame m #[(.ref r0), (.int p1), (.int p2)] 5)) t := fun t k => castTop (ef_17 m r0 p1 p2) k
  have ol := own_len u0 u1 u2 u3
  obtain ⟨_, _, ⟨T1, Lw1, kw1, nw1⟩, -, X1, ⟨Lc1, hQ1, lq1, yq1, zq1⟩, st1⟩ := Jvm.LawKit.callS X0 hx (y := (⟨"java/util/Arrays", "checkLength", "(II)V"⟩ : MethodName)) hown (mvT hZ (wd hw 228 rfl)) (mvT hZ (wd hw 229 rfl)) (mvT hZ (wd hw 56 rfl)) (mvT hZ (wd hw 230 rfl)) (by decide) (backOf (W := 0) (rmChk l Z a0 hw [] p1 p2 h0 n0 Z0 ol.2.2.2.2.2) hZ (wd hw 230 rfl) (wd hw 56 rfl) (by decide) (by decide)) (g := (mkF m 2 #[vr r0, vi p1, vi p2, uu, uu] [(.int p2), (.int p1)])) rfl (by rw [hml]; rfl) (argsL := [(.int p1), (.int p2)]) (rest := []) (lenOf pd_6 rfl) rfl (by show 2 * 0 + _ ≤ _; exact Nat.le_of_eq rfl) (hb hby d39_2) (fun _ _ => ⟨rfl, e0, (by decide : 0 + 0 ≤ _), (by decide : 0 + 0 ≤ _)⟩)
  dsimp only [Pt.U, Pt.locs, Pt.cells, Pt.slots] at X1 lq1 yq1 zq1 st1 hQ1
  have X1 := own_reb X1 lq1 yq1 zq1
  obtain ⟨rfl, Nq1, eh1⟩ := hQ1
  have N1 := Fr.app N0 Nq1
  obtain ⟨T2, h2, k2, X2, e2, E2, A2, AX2, st2⟩ := newPE X1 hx hZ (wd hw 3 rfl) eh1 (g := (mkF m 10 #[vr r0, vi p1, vi p2, vi (p2 - p1), uu] [(.int (p2 - p1))])) rfl (hb hby d39_10) rfl ol.2.1 (cap := 8) ol.2.2.1 (by decide) (by decide) (by decide) (ad := "[B") (by decide)
  obtain ⟨b2, g2⟩ : ∃ z, z = h0.size := ⟨_, rfl⟩
  rw [← g2] at A2 AX2 st2
  have ne_r0_b2 : r0 ≠ b2 := Nat.ne_of_lt (Nat.lt_of_lt_of_le uE.lt (Nat.le_of_eq g2.symm))
  have V2 : Arv Z h2 b2 k2 .byte (p2 - p1) [(.int (0 : Int32)), (.int (0 : Int32)), (.int (0 : Int32)), (.int (0 : Int32)), (.int (0 : Int32)), (.int (0 : Int32)), (.int (0 : Int32)), (.int (0 : Int32))] (.int (0 : Int32)) := (Arv.new A2 ol.2.1).pad (pad_rep [] (.int (0 : Int32)) 8)
  have g_b2 : n0 ≤ b2 := Nat.le_trans Z0 (Nat.le_of_eq g2.symm)
  have sz_b2 : h0.size ≤ b2 := Nat.le_trans (Keep.refl h0 []).1 (Nat.le_of_eq g2.symm)
  have K2 : Keep h0 h2 [] := (Keep.refl h0 []).ext E2
  have Z2 : n0 ≤ h2.size := Nat.le_trans Z0 E2.1
  have c4 := (uV.ext E2)
  obtain ⟨cl3, Ar3, q3, S3, Nn3, H3, G3⟩ := (id c4)
  obtain ⟨_, _, ⟨T5, Lw5, kw5, nw5⟩, -, X5, ⟨Lc5, hQ5, lq5, yq5, zq5⟩, st5⟩ := Jvm.LawKit.callS X2 hx (y := (⟨"java/lang/Math", "min", "(II)I"⟩ : MethodName)) hown (mvT hZ (wd hw 169 rfl)) (mvT hZ (wd hw 170 rfl)) (mvT hZ (wd hw 162 rfl)) (mvT hZ (wd hw 171 rfl)) (by decide) (backOf (W := 4) (rmMin l Z a0 hw [] (zb - p1) (p2 - p1) h2 n0 Z2) hZ (wd hw 171 rfl) (wd hw 162 rfl) (by decide) (by decide)) (g := (mkF m 24 #[vr r0, vi p1, vi p2, vi (p2 - p1), vr b2] [(.int (p2 - p1)), (.int (zb - p1)), (.int (0 : Int32)), (.ref b2), (.int p1), (.ref r0)])) rfl (by rw [hml]; rfl) (argsL := [(.int (zb - p1)), (.int (p2 - p1))]) (rest := [(.int (0 : Int32)), (.ref b2), (.int p1), (.ref r0)]) (lenOf pd_7 rfl) rfl (by show 2 * 0 + _ ≤ _; exact Nat.le_of_eq rfl) (hb hby d39_24) (fun _ _ => ⟨rfl, e2, (by decide : 1 + 0 ≤ _), (by decide : 8 + 0 ≤ _)⟩)
  dsimp only [Pt.U, Pt.locs, Pt.cells, Pt.slots] at X5 lq5 yq5 zq5 st5 hQ5
  have X5 := own_reb X5 lq5 yq5 zq5
  obtain ⟨rfl, Nq5, eh5⟩ := hQ5
  have N5 := Fr.app N1 Nq5
  obtain ⟨T6, h6, L6, X6, e6, N6, Kq6, V6, st6⟩ := cpA X5 hx hZ hown (wd hw 172 rfl) (wd hw 149 rfl) (wd hw 147 rfl) (wd hw 148 rfl) eh5 (us := ((List.range ((p2 - p1)).toNatClampNeg).map fun i => List.getD vs ((p1).toNatClampNeg + i) dv)) c4 V2 (Or.inl ⟨rfl, rfl⟩) ol.1 (by decide) ol.2.1 ol.2.2.2.1 (Nat.le_of_eq (Nat.zero_add _)) rfl (Nat.le_trans (Nat.le_of_eq (Nat.zero_add _)) ol.2.2.1) N5 g_b2 (g := (mkF m 27 #[vr r0, vi p1, vi p2, vi (p2 - p1), vr b2] [(.int (p2 - p1)), (.int (0 : Int32)), (.ref b2), (.int p1), (.ref r0)])) rfl (by rw [hml]; rfl) rfl (hb hby d39_27) (by decide) (W := 0) (by show 2 * 0 + _ ≤ _; exact Nat.le_of_eq rfl) (by decide)
  have K6 : Keep h0 h6 [] := K2.trans Kq6 (allS (Or.inr sz_b2) all0)
  have Z6 : n0 ≤ h6.size := Nat.le_trans Z2 Kq6.1
  obtain ⟨fs, hr, hrun, hended, hW, hsame⟩ := X6.leave (v := some (.ref b2)) (fun h => by rw [Bd.returns] at h; cases h)
  refine ⟨_, _, pre0 _ ?_, hrun, hended, _, _, rfl, ?_, ⟨_, rfl⟩, hW, hsame.mono (by decide) (by decide)⟩
  · show SS p e below s₁ (mkF m 0 #[vr r0, vi p1, vi p2, uu, uu] []) _
    refine XS.iloadN X0.here hx rfl (hb hby d39_0) rfl ?_
    show SS p e below s₁ (mkF m 1 #[vr r0, vi p1, vi p2, uu, uu] [(.int p1)]) _
    refine XS.iloadN X0.here hx rfl (hb hby d39_1) rfl ?_
    show SS p e below s₁ (mkF m 2 #[vr r0, vi p1, vi p2, uu, uu] [(.int p2), (.int p1)]) _
    refine st1 _ ?_
    show SS p e below T1 (mkF m 5 #[vr r0, vi p1, vi p2, uu, uu] []) _
    refine XS.iloadN X1.here hx rfl (hb hby d39_5) rfl ?_
    show SS p e below T1 (mkF m 6 #[vr r0, vi p1, vi p2, uu, uu] [(.int p2)]) _
    refine XS.iloadN X1.here hx rfl (hb hby d39_6) rfl ?_
    show SS p e below T1 (mkF m 7 #[vr r0, vi p1, vi p2, uu, uu] [(.int p1), (.int p2)]) _
    refine XS.isub X1.here hx rfl (hb hby d39_7) rfl ?_
    show SS p e below T1 (mkF m 8 #[vr r0, vi p1, vi p2, uu, uu] [(.int (p2 - p1))]) _
    refine XS.istoreN X1.here hx rfl (hb hby d39_8) rfl (l' := #[vr r0, vi p1, vi p2, vi (p2 - p1), uu]) rfl ?_
    show SS p e below T1 (mkF m 9 #[vr r0, vi p1, vi p2, vi (p2 - p1), uu] []) _
    refine XS.iloadN X1.here hx rfl (hb hby d39_9) rfl ?_
    show SS p e below T1 (mkF m 10 #[vr r0, vi p1, vi p2, vi (p2 - p1), uu] [(.int (p2 - p1))]) _
    refine st2 _ ?_
    show SS p e below T2 (mkF m 12 #[vr r0, vi p1, vi p2, vi (p2 - p1), uu] [(.ref b2)]) _
    refine XS.astore X2.here hx rfl (hb hby d39_12) rfl rfl (l' := #[vr r0, vi p1, vi p2, vi (p2 - p1), vr b2]) rfl ?_
    show SS p e below T2 (mkF m 14 #[vr r0, vi p1, vi p2, vi (p2 - p1), vr b2] []) _
    refine XS.aloadN X2.here hx rfl (hb hby d39_14) rfl rfl ?_
    show SS p e below T2 (mkF m 15 #[vr r0, vi p1, vi p2, vi (p2 - p1), vr b2] [(.ref r0)]) _
    refine XS.iloadN X2.here hx rfl (hb hby d39_15) rfl ?_
    show SS p e below T2 (mkF m 16 #[vr r0, vi p1, vi p2, vi (p2 - p1), vr b2] [(.int p1), (.ref r0)]) _
    refine XS.aload X2.here hx rfl (hb hby d39_16) rfl rfl ?_
    show SS p e below T2 (mkF m 18 #[vr r0, vi p1, vi p2, vi (p2 - p1), vr b2] [(.ref b2), (.int p1), (.ref r0)]) _
    refine XS.iconst X2.here hx rfl (hb hby d39_18) ?_
    show SS p e below T2 (mkF m 19 #[vr r0, vi p1, vi p2, vi (p2 - p1), vr b2] [(.int (0 : Int32)), (.ref b2), (.int p1), (.ref r0)]) _
    refine XS.aloadN X2.here hx rfl (hb hby d39_19) rfl rfl ?_
    show SS p e below T2 (mkF m 20 #[vr r0, vi p1, vi p2, vi (p2 - p1), vr b2] [(.ref r0), (.int (0 : Int32)), (.ref b2), (.int p1), (.ref r0)]) _
    refine X2.arraylength hx (own_at e2 Ar3.1) (State.isArrayOf_alike hZ.alike Ar3.2.1) (g := (mkF m 20 #[vr r0, vi p1, vi p2, vi (p2 - p1), vr b2] [(.ref r0), (.int (0 : Int32)), (.ref b2), (.int p1), (.ref r0)])) rfl rfl (hb hby d39_20) _ ?_
    rw [len_of S3 Nn3]
    show SS p e below T2 (mkF m 21 #[vr r0, vi p1, vi p2, vi (p2 - p1), vr b2] [(.int zb), (.int (0 : Int32)), (.ref b2), (.int p1), (.ref r0)]) _
    refine XS.iloadN X2.here hx rfl (hb hby d39_21) rfl ?_
    show SS p e below T2 (mkF m 22 #[vr r0, vi p1, vi p2, vi (p2 - p1), vr b2] [(.int p1), (.int zb), (.int (0 : Int32)), (.ref b2), (.int p1), (.ref r0)]) _
    refine XS.isub X2.here hx rfl (hb hby d39_22) rfl ?_
    show SS p e below T2 (mkF m 23 #[vr r0, vi p1, vi p2, vi (p2 - p1), vr b2] [(.int (zb - p1)), (.int (0 : Int32)), (.ref b2), (.int p1), (.ref r0)]) _
    refine XS.iloadN X2.here hx rfl (hb hby d39_23) rfl ?_
    show SS p e below T2 (mkF m 24 #[vr r0, vi p1, vi p2, vi (p2 - p1), vr b2] [(.int (p2 - p1)), (.int (zb - p1)), (.int (0 : Int32)), (.ref b2), (.int p1), (.ref r0)]) _
    refine st5 _ ?_
    show SS p e below T5 (mkF m 27 #[vr r0, vi p1, vi p2, vi (p2 - p1), vr b2] [(.int (if (p2 - p1) < (zb - p1) then (p2 - p1) else (zb - p1))), (.int (0 : Int32)), (.ref b2), (.int p1), (.ref r0)]) _
    rw [ol.2.2.2.2.1]
    show SS p e below T5 (mkF m 27 #[vr r0, vi p1, vi p2, vi (p2 - p1), vr b2] [(.int (p2 - p1)), (.int (0 : Int32)), (.ref b2), (.int p1), (.ref r0)]) _
    refine st6 _ ?_
    show SS p e below T6 (mkF m 30 #[vr r0, vi p1, vi p2, vi (p2 - p1), vr b2] []) _
    refine XS.aload X6.here hx rfl (hb hby d39_30) rfl rfl ?_
    show SS p e below T6 (mkF m 32 #[vr r0, vi p1, vi p2, vi (p2 - p1), vr b2] [(.ref b2)]) _
    exact retOut X6 hx Bd.returns rfl (Or.inr (Or.inr (Or.inr (Or.inr ⟨rfl, rfl, rfl⟩)))) (hb hby d39_32) hr
  · show Q_rmCB Z r0 p1 p2 kb zb vs dv h0 n0 _ T6.heap _
    rw [e6]
    exact ⟨b2, rfl, N6, K6, sz_b2⟩
theorem ef_18 (m : MethodId) (x0 : Addr) (x1 : Int32) (x2 : Int32) : entryFrame m #[(.ref x0), (.int x1), (.int x2)] 3 = mkF m 0 #[vr x0, vi x1, vi x2] [] := by first | (simp [entryFrame, mkF, argsToLocals, Value.category]; done) | rfl
theorem d9_0 : decode jdk_65_method_132_code 0 = .ok (.iload_n 1, 1) := by decide +kernel
theorem d9_1 : decode jdk_65_method_132_code 1 = .ok (.ifCond .ne 9, 3) := by decide +kernel
theorem d9_4 : decode jdk_65_method_132_code 4 = .ok (.iload_n 2, 1) := by decide +kernel
theorem d9_5 : decode jdk_65_method_132_code 5 = .ok (.aload_n 0, 1) := by decide +kernel
theorem d9_6 : decode jdk_65_method_132_code 6 = .ok (.arraylength, 1) := by decide +kernel
theorem d9_7 : decode jdk_65_method_132_code 7 = .ok (.if_icmp .eq 10, 3) := by decide +kernel
theorem d9_17 : decode jdk_65_method_132_code 17 = .ok (.aload_n 0, 1) := by decide +kernel
theorem d9_18 : decode jdk_65_method_132_code 18 = .ok (.invokevirtual 310, 3) := by decide +kernel
theorem d9_21 : decode jdk_65_method_132_code 21 = .ok (.checkcast 311, 3) := by decide +kernel
theorem d9_24 : decode jdk_65_method_132_code 24 = .ok (.areturn, 1) := by decide +kernel
theorem d9_10 : decode jdk_65_method_132_code 10 = .ok (.aload_n 0, 1) := by decide +kernel
theorem d9_11 : decode jdk_65_method_132_code 11 = .ok (.iload_n 1, 1) := by decide +kernel
theorem d9_12 : decode jdk_65_method_132_code 12 = .ok (.iload_n 2, 1) := by decide +kernel
theorem d9_13 : decode jdk_65_method_132_code 13 = .ok (.invokestatic 339, 3) := by decide +kernel
theorem pd_8 : parseMethodDescriptor "([BII)[B" = some ⟨[(.array .byte), .int, .int], some (.array .byte)⟩ := by decide +kernel
theorem d9_16 : decode jdk_65_method_132_code 16 = .ok (.areturn, 1) := by decide +kernel
def Q_rmCR (Z : State) (r0 : Addr) (p1 : Int32) (p2 : Int32) (kb : ClassId) (zb : Int32) (vs : List Value) (dv : Value) (h0 : Heap) (n0 : Nat) (v : Option Value) (h : Heap) (L : List Loc) : Prop := ∃ (nb : Addr), (v = some (.ref nb) ∧ Fr n0 L ∧ Keep h0 h [] ∧ h0.size ≤ nb)
set_option maxRecDepth 65536 in
set_option maxHeartbeats 40000000 in
theorem rmCR (l : Launch) (Z : State) (a0 : Array Value) (hw : ∀ d ∈ tables_1, d.before a0 Z = true) (ws : List Jvm.Cond) (r0 : Addr) (p1 : Int32) (p2 : Int32) (kb : ClassId) (zb : Int32) (vs : List Value) (dv : Value) (h0 : Heap) (n0 : Nat) (Z0 : n0 ≤ h0.size) (uE : Exa Z h0 r0 "[B") (uV : Arv Z h0 r0 kb .byte zb vs dv) (u0 : 0 ≤ p1.toInt) (u1 : p1.toInt ≤ p2.toInt) (u2 : p2.toInt ≤ zb.toInt) (u3 : zb.toInt ≤ 8) :
    MetFree l (⟨"java/util/Arrays", "copyOfRange", "([BII)[B"⟩ : MethodName) (head1 (Jvm.Cond.code (⟨"java/util/Arrays", "copyOfRange", "([BII)[B"⟩ : MethodName) jdk_65_method_132_code 3 (some (.array .byte)) :: ws) ({ frames := 2, cells := 1, slots := 8, locals := 34 } : Room)) (fun a U => a = #[(.ref r0), (.int p1), (.int p2)] ∧ Z.Warmed39 U.vm ∧ U.heap = h0) (fun _ _ _ _ _ => True) (fun _ U o U' => ∃ v L, o = .returned v ∧ Q_rmCR Z r0 p1 p2 kb zb vs dv h0 n0 v U'.heap L ∧ FrameEnd U o U' L ({ frames := 2, cells := 1, slots := 8, locals := 34 } : Room).cells ({ frames := 2, cells := 1, slots := 8, locals := 34 } : Room).slots) := by
  refine MetFree.of_bodySF (plainFor_of_name pn_3) hisR ?_
  intro p e s m args below meth c s₁ Bd hml0 hP hK
  obtain ⟨rfl, hZ, hh⟩ := hP
  have hx := Bd.exec
  have hby := Bd.bytes
  have hml : c.maxLocals = 3 := hml0
  have hown : s.vm.findClass "java/util/Arrays" = some m.cls := findClass_of_methodNamed Bd.named
  have hnm := (name_of_methodNamed Bd.named Bd.method).1
  have X0 : Stand p l e ({ frames := 2, cells := 1, slots := 8, locals := 34 } : Room) s m #[(.ref r0), (.int p1), (.int p2)] below meth c s₁ [] 0 0 := Stand.of_body Bd
  have e0 : s₁.heap = h0 := by rw [← hh, Bd.state]; rfl
  have N0 := Fr.nil n0
  have pre0 : ∀ t, Steps p.tables e below (s₁.setTop (mkF m 0 #[vr r0, vi p1, vi p2] [])) t → Steps p.tables e below (s₁.setTop (entryFrame m #[(.ref r0), (.int p1), (.int p2)] 3)) t := fun t k => castTop (ef_18 m r0 p1 p2) k
  by_cases hc1 : p1 = (0 : Int32)
  · obtain ⟨cl1, Ar1, q1, S1, Nn1, H1, G1⟩ := (id uV)
    have sg2 : ∀ target, SS p e below s₁ (mkF m 7 #[vr r0, vi p1, vi p2] [(.int zb), (.int p2)]) target → SS p e below s₁ (mkF m 0 #[vr r0, vi p1, vi p2] []) target := by
      intro target kt
      show SS p e below s₁ (mkF m 0 #[vr r0, vi p1, vi p2] []) _
      refine XS.iloadN X0.here hx rfl (hb hby d9_0) rfl ?_
      show SS p e below s₁ (mkF m 1 #[vr r0, vi p1, vi p2] [(.int p1)]) _
      refine XS.ifNo X0.here hx rfl (hb hby d9_1) rfl ((if0 _ _).trans (teq (hc1 : p1 = (0 : Int32))).2) ?_
      show SS p e below s₁ (mkF m 4 #[vr r0, vi p1, vi p2] []) _
      refine XS.iloadN X0.here hx rfl (hb hby d9_4) rfl ?_
      show SS p e below s₁ (mkF m 5 #[vr r0, vi p1, vi p2] [(.int p2)]) _
      refine XS.aloadN X0.here hx rfl (hb hby d9_5) rfl rfl ?_
      show SS p e below s₁ (mkF m 6 #[vr r0, vi p1, vi p2] [(.ref r0), (.int p2)]) _
      refine X0.arraylength hx (own_at e0 Ar1.1) (State.isArrayOf_alike hZ.alike Ar1.2.1) (g := (mkF m 6 #[vr r0, vi p1, vi p2] [(.ref r0), (.int p2)])) rfl rfl (hb hby d9_6) _ ?_
      rw [len_of S1 Nn1]
      exact kt
    by_cases hc7 : p2 = zb
    · obtain ⟨T3, h3, X3, e3, E3, V3, A3, st3⟩ := cloneH X0 hx hZ hown (wd hw 58 rfl) (wd hw 59 rfl) (wd hw 63 rfl) (wd hw 61 rfl) (wd hw 62 rfl) (wd hw 64 rfl) e0 (Arv.arh uV) uE (g := (mkF m 18 #[vr r0, vi p1, vi p2] [(.ref r0)])) rfl (by rw [hml]; rfl) rfl (hb hby d9_18) (by decide) (W := 0) (cap := 8) (by show 2 * 0 + _ ≤ _; exact Nat.le_of_eq rfl) (by decide) (own_cap u0 u1 u2 u3) (by decide) (by decide)
      obtain ⟨b3, g3⟩ : ∃ z, z = h0.size := ⟨_, rfl⟩
      rw [← g3] at V3 A3 st3
      have ne_r0_b3 : r0 ≠ b3 := Nat.ne_of_lt (Nat.lt_of_lt_of_le uE.lt (Nat.le_of_eq g3.symm))
      have Va3 : Arv Z h3 b3 kb .byte zb vs dv := V3
      have g_b3 : n0 ≤ b3 := Nat.le_trans Z0 (Nat.le_of_eq g3.symm)
      have sz_b3 : h0.size ≤ b3 := Nat.le_trans (Keep.refl h0 []).1 (Nat.le_of_eq g3.symm)
      have K3 : Keep h0 h3 [] := (Keep.refl h0 []).ext E3
      have Z3 : n0 ≤ h3.size := Nat.le_trans Z0 E3.1
      obtain ⟨T4, X4, e4, st4⟩ := castY X3 hx hZ hown (wd hw 65 rfl) e3 (Ins.self A3) (g := (mkF m 21 #[vr r0, vi p1, vi p2] [(.ref b3)])) rfl rfl (hb hby d9_21)
      obtain ⟨fs, hr, hrun, hended, hW, hsame⟩ := X4.leave (v := some (.ref b3)) (fun h => by rw [Bd.returns] at h; cases h)
      refine ⟨_, _, pre0 _ ?_, hrun, hended, _, _, rfl, ?_, ⟨_, rfl⟩, hW, hsame.mono (by decide) (by decide)⟩
      · refine sg2 _ ?_
        show SS p e below s₁ (mkF m 7 #[vr r0, vi p1, vi p2] [(.int zb), (.int p2)]) _
        refine XS.icmpYes X0.here hx rfl (pc0 := 7) (pc' := 17) rfl (hb hby d9_7) rfl (teq (hc7 : p2 = zb)).1 (by decide) (by decide) ?_
        show SS p e below s₁ (mkF m 17 #[vr r0, vi p1, vi p2] []) _
        refine XS.aloadN X0.here hx rfl (hb hby d9_17) rfl rfl ?_
        show SS p e below s₁ (mkF m 18 #[vr r0, vi p1, vi p2] [(.ref r0)]) _
        refine st3 _ ?_
        show SS p e below T3 (mkF m 21 #[vr r0, vi p1, vi p2] [(.ref b3)]) _
        refine st4 _ ?_
        show SS p e below T4 (mkF m 24 #[vr r0, vi p1, vi p2] [(.ref b3)]) _
        exact retOut X4 hx Bd.returns rfl (Or.inr (Or.inr (Or.inr (Or.inr ⟨rfl, rfl, rfl⟩)))) (hb hby d9_24) hr
      · show Q_rmCR Z r0 p1 p2 kb zb vs dv h0 n0 _ T4.heap _
        rw [e4]
        exact ⟨b3, rfl, N0, K3, sz_b3⟩
    · obtain ⟨_, _, ⟨T5, Lw5, kw5, nw5⟩, -, X5, ⟨Lc5, hQ5, lq5, yq5, zq5⟩, st5⟩ := Jvm.LawKit.callS X0 hx (y := (⟨"java/util/Arrays", "copyOfRangeByte", "([BII)[B"⟩ : MethodName)) hown (mvT hZ (wd hw 225 rfl)) (mvT hZ (wd hw 226 rfl)) (mvT hZ (wd hw 56 rfl)) (mvT hZ (wd hw 227 rfl)) (by decide) (backOf (W := 0) (rmCB l Z a0 hw [] r0 p1 p2 kb zb vs dv h0 n0 Z0 uE uV u0 u1 u2 u3) hZ (wd hw 227 rfl) (wd hw 56 rfl) (by decide) (by decide)) (g := (mkF m 13 #[vr r0, vi p1, vi p2] [(.int p2), (.int p1), (.ref r0)])) rfl (by rw [hml]; rfl) (argsL := [(.ref r0), (.int p1), (.int p2)]) (rest := []) (lenOf pd_8 rfl) rfl (by show 2 * 0 + _ ≤ _; exact Nat.le_of_eq rfl) (hb hby d9_13) (fun _ _ => ⟨rfl, e0, (by decide : 0 + 1 ≤ _), (by decide : 0 + 8 ≤ _)⟩)
      dsimp only [Pt.U, Pt.locs, Pt.cells, Pt.slots] at X5 lq5 yq5 zq5 st5 hQ5
      have X5 := own_reb X5 lq5 yq5 zq5
      obtain ⟨nb_5, rfl, Nq5, Kq5, f5_0⟩ := hQ5
      have N5 := Fr.app N0 Nq5
      have ne_r0_nb_5 : r0 ≠ nb_5 := Nat.ne_of_lt (Nat.lt_of_lt_of_le uE.lt f5_0)
      have g_nb_5 : n0 ≤ nb_5 := Nat.le_trans Z0 f5_0
      have sz_nb_5 : h0.size ≤ nb_5 := Nat.le_trans (Keep.refl h0 []).1 f5_0
      have K5 : Keep h0 T5.heap [] := (Keep.refl h0 []).trans Kq5 all0
      have Z5 : n0 ≤ T5.heap.size := Nat.le_trans Z0 Kq5.1
      obtain ⟨fs, hr, hrun, hended, hW, hsame⟩ := X5.leave (v := some (.ref nb_5)) (fun h => by rw [Bd.returns] at h; cases h)
      refine ⟨_, _, pre0 _ ?_, hrun, hended, _, _, rfl, ?_, ⟨_, rfl⟩, hW, hsame.mono (by decide) (by decide)⟩
      · refine sg2 _ ?_
        show SS p e below s₁ (mkF m 7 #[vr r0, vi p1, vi p2] [(.int zb), (.int p2)]) _
        refine XS.icmpNo X0.here hx rfl (hb hby d9_7) rfl (feq (hc7 : ¬ (p2 = zb))).1 ?_
        show SS p e below s₁ (mkF m 10 #[vr r0, vi p1, vi p2] []) _
        refine XS.aloadN X0.here hx rfl (hb hby d9_10) rfl rfl ?_
        show SS p e below s₁ (mkF m 11 #[vr r0, vi p1, vi p2] [(.ref r0)]) _
        refine XS.iloadN X0.here hx rfl (hb hby d9_11) rfl ?_
        show SS p e below s₁ (mkF m 12 #[vr r0, vi p1, vi p2] [(.int p1), (.ref r0)]) _
        refine XS.iloadN X0.here hx rfl (hb hby d9_12) rfl ?_
        show SS p e below s₁ (mkF m 13 #[vr r0, vi p1, vi p2] [(.int p2), (.int p1), (.ref r0)]) _
        refine st5 _ ?_
        show SS p e below T5 (mkF m 16 #[vr r0, vi p1, vi p2] [(.ref nb_5)]) _
        exact retOut X5 hx Bd.returns rfl (Or.inr (Or.inr (Or.inr (Or.inr ⟨rfl, rfl, rfl⟩)))) (hb hby d9_16) hr
      · show Q_rmCR Z r0 p1 p2 kb zb vs dv h0 n0 _ T5.heap _
        exact ⟨nb_5, rfl, N5, K5, sz_nb_5⟩
  · obtain ⟨_, _, ⟨T6, Lw6, kw6, nw6⟩, -, X6, ⟨Lc6, hQ6, lq6, yq6, zq6⟩, st6⟩ := Jvm.LawKit.callS X0 hx (y := (⟨"java/util/Arrays", "copyOfRangeByte", "([BII)[B"⟩ : MethodName)) hown (mvT hZ (wd hw 225 rfl)) (mvT hZ (wd hw 226 rfl)) (mvT hZ (wd hw 56 rfl)) (mvT hZ (wd hw 227 rfl)) (by decide) (backOf (W := 0) (rmCB l Z a0 hw [] r0 p1 p2 kb zb vs dv h0 n0 Z0 uE uV u0 u1 u2 u3) hZ (wd hw 227 rfl) (wd hw 56 rfl) (by decide) (by decide)) (g := (mkF m 13 #[vr r0, vi p1, vi p2] [(.int p2), (.int p1), (.ref r0)])) rfl (by rw [hml]; rfl) (argsL := [(.ref r0), (.int p1), (.int p2)]) (rest := []) (lenOf pd_8 rfl) rfl (by show 2 * 0 + _ ≤ _; exact Nat.le_of_eq rfl) (hb hby d9_13) (fun _ _ => ⟨rfl, e0, (by decide : 0 + 1 ≤ _), (by decide : 0 + 8 ≤ _)⟩)
    dsimp only [Pt.U, Pt.locs, Pt.cells, Pt.slots] at X6 lq6 yq6 zq6 st6 hQ6
    have X6 := own_reb X6 lq6 yq6 zq6
    obtain ⟨nb_6, rfl, Nq6, Kq6, f6_0⟩ := hQ6
    have N6 := Fr.app N0 Nq6
    have ne_r0_nb_6 : r0 ≠ nb_6 := Nat.ne_of_lt (Nat.lt_of_lt_of_le uE.lt f6_0)
    have g_nb_6 : n0 ≤ nb_6 := Nat.le_trans Z0 f6_0
    have sz_nb_6 : h0.size ≤ nb_6 := Nat.le_trans (Keep.refl h0 []).1 f6_0
    have K6 : Keep h0 T6.heap [] := (Keep.refl h0 []).trans Kq6 all0
    have Z6 : n0 ≤ T6.heap.size := Nat.le_trans Z0 Kq6.1
    obtain ⟨fs, hr, hrun, hended, hW, hsame⟩ := X6.leave (v := some (.ref nb_6)) (fun h => by rw [Bd.returns] at h; cases h)
    refine ⟨_, _, pre0 _ ?_, hrun, hended, _, _, rfl, ?_, ⟨_, rfl⟩, hW, hsame.mono (by decide) (by decide)⟩
    · show SS p e below s₁ (mkF m 0 #[vr r0, vi p1, vi p2] []) _
      refine XS.iloadN X0.here hx rfl (hb hby d9_0) rfl ?_
      show SS p e below s₁ (mkF m 1 #[vr r0, vi p1, vi p2] [(.int p1)]) _
      refine XS.ifYes X0.here hx rfl (pc0 := 1) (pc' := 10) rfl (hb hby d9_1) rfl ((if0 _ _).trans (feq (hc1 : ¬ (p1 = (0 : Int32)))).2) (by decide) (by decide) ?_
      show SS p e below s₁ (mkF m 10 #[vr r0, vi p1, vi p2] []) _
      refine XS.aloadN X0.here hx rfl (hb hby d9_10) rfl rfl ?_
      show SS p e below s₁ (mkF m 11 #[vr r0, vi p1, vi p2] [(.ref r0)]) _
      refine XS.iloadN X0.here hx rfl (hb hby d9_11) rfl ?_
      show SS p e below s₁ (mkF m 12 #[vr r0, vi p1, vi p2] [(.int p1), (.ref r0)]) _
      refine XS.iloadN X0.here hx rfl (hb hby d9_12) rfl ?_
      show SS p e below s₁ (mkF m 13 #[vr r0, vi p1, vi p2] [(.int p2), (.int p1), (.ref r0)]) _
      refine st6 _ ?_
      show SS p e below T6 (mkF m 16 #[vr r0, vi p1, vi p2] [(.ref nb_6)]) _
      exact retOut X6 hx Bd.returns rfl (Or.inr (Or.inr (Or.inr (Or.inr ⟨rfl, rfl, rfl⟩)))) (hb hby d9_16) hr
    · show Q_rmCR Z r0 p1 p2 kb zb vs dv h0 n0 _ T6.heap _
      exact ⟨nb_6, rfl, N6, K6, sz_nb_6⟩
theorem ef_19 (m : MethodId) (x0 : Addr) (x1 : Int32) (x2 : Addr) : entryFrame m #[(.ref x0), (.int x1), (.ref x2)] 4 = mkF m 0 #[vr x0, vi x1, vr x2, uu] [] := by first | (simp [entryFrame, mkF, argsToLocals, Value.category]; done) | rfl
theorem d7_0 : decode prog_14_method_17_code 0 = .ok (.aload_n 0, 1) := by decide +kernel
theorem d7_1 : decode prog_14_method_17_code 1 = .ok (.iload_n 1, 1) := by decide +kernel
theorem d7_2 : decode prog_14_method_17_code 2 = .ok (.i2l, 1) := by decide +kernel
theorem d7_3 : decode prog_14_method_17_code 3 = .ok (.aload_n 2, 1) := by decide +kernel
theorem d7_4 : decode prog_14_method_17_code 4 = .ok (.invokevirtual 101, 3) := by decide +kernel
theorem pd_9 : parseMethodDescriptor "(JLjava/lang/String;)V" = some ⟨[.long, (.object "java/lang/String")], none⟩ := by decide +kernel
theorem d7_7 : decode prog_14_method_17_code 7 = .ok (.aload_n 0, 1) := by decide +kernel
theorem d7_8 : decode prog_14_method_17_code 8 = .ok (.getfield 24, 3) := by decide +kernel
theorem d7_11 : decode prog_14_method_17_code 11 = .ok (.aload_n 0, 1) := by decide +kernel
theorem d7_12 : decode prog_14_method_17_code 12 = .ok (.getfield 34, 3) := by decide +kernel
theorem d7_15 : decode prog_14_method_17_code 15 = .ok (.aload_n 0, 1) := by decide +kernel
theorem d7_16 : decode prog_14_method_17_code 16 = .ok (.getfield 34, 3) := by decide +kernel
theorem d7_19 : decode prog_14_method_17_code 19 = .ok (.iload_n 1, 1) := by decide +kernel
theorem d7_20 : decode prog_14_method_17_code 20 = .ok (.iadd, 1) := by decide +kernel
theorem d7_21 : decode prog_14_method_17_code 21 = .ok (.invokestatic 111, 3) := by decide +kernel
theorem d7_24 : decode prog_14_method_17_code 24 = .ok (.astore_n 3, 1) := by decide +kernel
theorem d7_25 : decode prog_14_method_17_code 25 = .ok (.aload_n 0, 1) := by decide +kernel
theorem d7_26 : decode prog_14_method_17_code 26 = .ok (.dup, 1) := by decide +kernel
theorem d7_27 : decode prog_14_method_17_code 27 = .ok (.getfield 34, 3) := by decide +kernel
theorem d7_30 : decode prog_14_method_17_code 30 = .ok (.iload_n 1, 1) := by decide +kernel
theorem d7_31 : decode prog_14_method_17_code 31 = .ok (.iadd, 1) := by decide +kernel
theorem d7_32 : decode prog_14_method_17_code 32 = .ok (.putfield 34, 3) := by decide +kernel
theorem d7_35 : decode prog_14_method_17_code 35 = .ok (.aload_n 3, 1) := by decide +kernel
theorem d7_36 : decode prog_14_method_17_code 36 = .ok (.areturn, 1) := by decide +kernel
def Q_rmB (Z : State) (r0 : Addr) (p1 : Int32) (r2 : Addr) (rb : Addr) (ps : Int32) (kb : ClassId) (zb : Int32) (vs : List Value) (dv : Value) (st : Int32) (h0 : Heap) (n0 : Nat) (v : Option Value) (h : Heap) (L : List Loc) : Prop := ∃ (nb : Addr), (v = some (.ref nb) ∧ Fr n0 L ∧ Keep h0 h [r0] ∧ Fld Z h r0 "com/example/wireform/wireform/amf3/AmfInput" "bytes" "[B" (.ref rb) ∧ Fld Z h r0 "com/example/wireform/wireform/amf3/AmfInput" "position" "I" (.int (ps + p1)) ∧ Fld Z h r0 "com/example/wireform/wireform/amf3/AmfInput" "valueStart" "I" (.int st))
set_option maxRecDepth 65536 in
set_option maxHeartbeats 40000000 in
theorem rmB (l : Launch) (Z : State) (a0 : Array Value) (hw : ∀ d ∈ tables_1, d.before a0 Z = true) (ws : List Jvm.Cond) (r0 : Addr) (p1 : Int32) (r2 : Addr) (rb : Addr) (ps : Int32) (kb : ClassId) (zb : Int32) (vs : List Value) (dv : Value) (st : Int32) (h0 : Heap) (n0 : Nat) (Z0 : n0 ≤ h0.size) (uE : Exa Z h0 r0 "com/example/wireform/wireform/amf3/AmfInput") (uEb : Exa Z h0 rb "[B") (ub : Fld Z h0 r0 "com/example/wireform/wireform/amf3/AmfInput" "bytes" "[B" (.ref rb)) (up : Fld Z h0 r0 "com/example/wireform/wireform/amf3/AmfInput" "position" "I" (.int ps)) (uV : Arv Z h0 rb kb .byte zb vs dv) (uvs : Fld Z h0 r0 "com/example/wireform/wireform/amf3/AmfInput" "valueStart" "I" (.int st)) (ug : n0 ≤ r0) (u0 : 0 ≤ ps.toInt) (u1 : 0 ≤ p1.toInt) (u2 : ps.toInt + p1.toInt ≤ zb.toInt) (u3 : zb.toInt ≤ 8) :
    MetFree l (⟨"com/example/wireform/wireform/amf3/AmfInput", "readBytes", "(ILjava/lang/String;)[B"⟩ : MethodName) (head1 (Jvm.Cond.code (⟨"com/example/wireform/wireform/amf3/AmfInput", "readBytes", "(ILjava/lang/String;)[B"⟩ : MethodName) prog_14_method_17_code 4 (some (.array .byte)) :: ws) ({ frames := 3, cells := 1, slots := 8, locals := 48 } : Room)) (fun a U => a = #[(.ref r0), (.int p1), (.ref r2)] ∧ Z.Warmed39 U.vm ∧ U.heap = h0) (fun _ _ _ _ _ => True) (fun _ U o U' => ∃ v L, o = .returned v ∧ Q_rmB Z r0 p1 r2 rb ps kb zb vs dv st h0 n0 v U'.heap L ∧ FrameEnd U o U' L ({ frames := 3, cells := 1, slots := 8, locals := 48 } : Room).cells ({ frames := 3, cells := 1, slots := 8, locals := 48 } : Room).slots) := by
  refine MetFree.of_bodySF (plainFor_of_name pn_6) hisR ?_
  intro p e s m args below meth c s₁ Bd hml0 hP hK
  obtain ⟨rfl, hZ, hh⟩ := hP
  have hx := Bd.exec
  have hby := Bd.bytes
  have hml : c.maxLocals = 4 := hml0
  have hown : s.vm.findClass "com/example/wireform/wireform/amf3/AmfInput" = some m.cls := findClass_of_methodNamed Bd.named
  have hnm := (name_of_methodNamed Bd.named Bd.method).1
  have X0 : Stand p l e ({ frames := 3, cells := 1, slots := 8, locals := 48 } : Room) s m #[(.ref r0), (.int p1), (.ref r2)] below meth c s₁ [] 0 0 := Stand.of_body Bd
  have e0 : s₁.heap = h0 := by rw [← hh, Bd.state]; rfl
  have N0 := Fr.nil n0
  have pre0 : ∀ t, Steps p.tables e below (s₁.setTop (mkF m 0 #[vr r0, vi p1, vr r2, uu] [])) t → Steps p.tables e below (s₁.setTop (entryFrame m #[(.ref r0), (.int p1), (.ref r2)] 4)) t := fun t k => castTop (ef_19 m r0 p1 r2) k
  have ob := own_rb u0 u1 u2 u3
  obtain ⟨cq1, kq1, q1a, q1b, q1c⟩ := isOf hZ e0 uE
  obtain ⟨_, _, ⟨T1, Lw1, kw1, nw1⟩, -, X1, ⟨Lc1, hQ1, lq1, yq1, zq1⟩, st1⟩ := X0.virtualBack hx (y := (⟨"com/example/wireform/wireform/amf3/AmfInput", "require", "(JLjava/lang/String;)V"⟩ : MethodName)) (z := (⟨"com/example/wireform/wireform/amf3/AmfInput", "require", "(JLjava/lang/String;)V"⟩ : MethodName)) hown (mvT hZ (wd hw 49 rfl)) (mvT hZ (wd hw 50 rfl)) (notFace_of_selects (args := #[]) (mvT hZ (wd hw 52 rfl))) (mvT hZ (wd hw 52 rfl)) (mvT hZ (wd hw 51 rfl)) (by decide) (backOf (W := 0) (rmQ l Z a0 hw [] r0 (p1.toInt64) r2 rb ps kb zb vs dv h0 n0 Z0 ub up uV ob.1) hZ (wd hw 53 rfl) (wd hw 2 rfl) (by decide) (by decide)) q1a q1c (g := (mkF m 4 #[vr r0, vi p1, vr r2, uu] [(.ref r2), (.long (p1.toInt64)), (.ref r0)])) rfl (by rw [hml]; rfl) (Steps.refl _) (argsL := [(.long (p1.toInt64)), (.ref r2)]) (rest := []) (lenOf pd_9 rfl) rfl (by show 2 * 0 + _ ≤ _; exact Nat.le_of_eq rfl) (hb hby d7_4) (fun _ _ => ⟨rfl, e0, (by decide : 0 + 0 ≤ _), (by decide : 0 + 0 ≤ _)⟩)
  dsimp only [Pt.U, Pt.locs, Pt.cells, Pt.slots] at X1 lq1 yq1 zq1 st1 hQ1
  have X1 := own_reb X1 lq1 yq1 zq1
  obtain ⟨rfl, Nq1, eh1⟩ := hQ1
  have N1 := Fr.app N0 Nq1
  obtain ⟨T2, X2, e2, st2⟩ := getF X1 hx hZ hown (host := "") (Or.inl (wd hw 26 rfl)) Via.refl eh1 ub (g := (mkF m 8 #[vr r0, vi p1, vr r2, uu] [(.ref r0)])) rfl rfl (hb hby d7_8)
  obtain ⟨T3, X3, e3, st3⟩ := getF X2 hx hZ hown (host := "") (Or.inl (wd hw 41 rfl)) Via.refl e2 up (g := (mkF m 12 #[vr r0, vi p1, vr r2, uu] [(.ref r0), (.ref rb)])) rfl rfl (hb hby d7_12)
  obtain ⟨T4, X4, e4, st4⟩ := getF X3 hx hZ hown (host := "") (Or.inl (wd hw 41 rfl)) Via.refl e3 up (g := (mkF m 16 #[vr r0, vi p1, vr r2, uu] [(.ref r0), (.int ps), (.ref rb)])) rfl rfl (hb hby d7_16)
  obtain ⟨_, _, ⟨T5, Lw5, kw5, nw5⟩, -, X5, ⟨Lc5, hQ5, lq5, yq5, zq5⟩, st5⟩ := Jvm.LawKit.callS X4 hx (y := (⟨"java/util/Arrays", "copyOfRange", "([BII)[B"⟩ : MethodName)) hown (mvT hZ (wd hw 54 rfl)) (mvT hZ (wd hw 55 rfl)) (mvT hZ (wd hw 56 rfl)) (mvT hZ (wd hw 57 rfl)) (by decide) (backOf (W := 0) (rmCR l Z a0 hw [] rb ps (ps + p1) kb zb vs dv h0 n0 Z0 uEb uV u0 ob.2.1 ob.2.2 u3) hZ (wd hw 57 rfl) (wd hw 56 rfl) (by decide) (by decide)) (g := (mkF m 21 #[vr r0, vi p1, vr r2, uu] [(.int (ps + p1)), (.int ps), (.ref rb)])) rfl (by rw [hml]; rfl) (argsL := [(.ref rb), (.int ps), (.int (ps + p1))]) (rest := []) (lenOf pd_8 rfl) rfl (by show 2 * 0 + _ ≤ _; exact Nat.le_of_eq rfl) (hb hby d7_21) (fun _ _ => ⟨rfl, e4, (by decide : 0 + 1 ≤ _), (by decide : 0 + 8 ≤ _)⟩)
  dsimp only [Pt.U, Pt.locs, Pt.cells, Pt.slots] at X5 lq5 yq5 zq5 st5 hQ5
  have X5 := own_reb X5 lq5 yq5 zq5
  obtain ⟨nb_5, rfl, Nq5, Kq5, f5_0⟩ := hQ5
  have N5 := Fr.app N1 Nq5
  have ne_r0_nb_5 : r0 ≠ nb_5 := Nat.ne_of_lt (Nat.lt_of_lt_of_le uE.lt f5_0)
  have ne_rb_nb_5 : rb ≠ nb_5 := Nat.ne_of_lt (Nat.lt_of_lt_of_le uEb.lt f5_0)
  have g_nb_5 : n0 ≤ nb_5 := Nat.le_trans Z0 f5_0
  have sz_nb_5 : h0.size ≤ nb_5 := Nat.le_trans (Keep.refl h0 [r0]).1 f5_0
  have K5 : Keep h0 T5.heap [r0] := (Keep.refl h0 [r0]).trans Kq5 all0
  have Z5 : n0 ≤ T5.heap.size := Nat.le_trans Z0 Kq5.1
  have c7 := (up.keep Kq5 nin0)
  obtain ⟨T6, X6, e6, st6⟩ := getF X5 hx hZ hown (host := "") (Or.inl (wd hw 41 rfl)) Via.refl rfl c7 (g := (mkF m 27 #[vr r0, vi p1, vr r2, vr nb_5] [(.ref r0), (.ref r0)])) rfl rfl (hb hby d7_27)
  have c9 := (uE.keep Kq5)
  obtain ⟨T8, h8, X8, e8, W8, st8⟩ := putF X6 hx hZ hown (host := "") (Or.inl (wd hw 41 rfl)) Via.refl e6 c7 c9 (Or.inl (wd hw 42 rfl)) (wd hw 1 rfl) (ty := .int) (by decide) rfl rfl (g := (mkF m 32 #[vr r0, vi p1, vr r2, vr nb_5] [(.int (ps + p1)), (.ref r0)])) rfl rfl (hb hby d7_32)
  have Fw8 := c7.same W8
  have N8 := Fr.snoc X8 N5 ug
  have K8 : Keep h0 h8 [r0] := K5.wr W8 (Or.inl (List.mem_of_getElem? (i := 0) rfl))
  have Z8 : n0 ≤ h8.size := by rw [W8.size]; exact Z5
  have c10 := ((ub.keep Kq5 nin0).other W8 (Or.inr (slot_ne (Or.inr (wd hw 27 rfl)) (Or.inl (wd hw 42 rfl)) (by decide) (t := (.array .byte)) (t' := .int) (by decide) (by decide))))
  have c11 := ((uvs.keep Kq5 nin0).other W8 (Or.inr (slot_ne (Or.inl (wd hw 40 rfl)) (Or.inl (wd hw 42 rfl)) (by decide) (t := .int) (t' := .int) (by decide) (by decide))))
  obtain ⟨fs, hr, hrun, hended, hW, hsame⟩ := X8.leave (v := some (.ref nb_5)) (fun h => by rw [Bd.returns] at h; cases h)
  refine ⟨_, _, pre0 _ ?_, hrun, hended, _, _, rfl, ?_, ⟨_, rfl⟩, hW, hsame.mono (by decide) (by decide)⟩
  · show SS p e below s₁ (mkF m 0 #[vr r0, vi p1, vr r2, uu] []) _
    refine XS.aloadN X0.here hx rfl (hb hby d7_0) rfl rfl ?_
    show SS p e below s₁ (mkF m 1 #[vr r0, vi p1, vr r2, uu] [(.ref r0)]) _
    refine XS.iloadN X0.here hx rfl (hb hby d7_1) rfl ?_
    show SS p e below s₁ (mkF m 2 #[vr r0, vi p1, vr r2, uu] [(.int p1), (.ref r0)]) _
    refine XS.i2l X0.here hx rfl (hb hby d7_2) rfl ?_
    show SS p e below s₁ (mkF m 3 #[vr r0, vi p1, vr r2, uu] [(.long (p1.toInt64)), (.ref r0)]) _
    refine XS.aloadN X0.here hx rfl (hb hby d7_3) rfl rfl ?_
    show SS p e below s₁ (mkF m 4 #[vr r0, vi p1, vr r2, uu] [(.ref r2), (.long (p1.toInt64)), (.ref r0)]) _
    refine st1.trans ?_
    show SS p e below T1 (mkF m 7 #[vr r0, vi p1, vr r2, uu] []) _
    refine XS.aloadN X1.here hx rfl (hb hby d7_7) rfl rfl ?_
    show SS p e below T1 (mkF m 8 #[vr r0, vi p1, vr r2, uu] [(.ref r0)]) _
    refine st2 _ ?_
    show SS p e below T2 (mkF m 11 #[vr r0, vi p1, vr r2, uu] [(.ref rb)]) _
    refine XS.aloadN X2.here hx rfl (hb hby d7_11) rfl rfl ?_
    show SS p e below T2 (mkF m 12 #[vr r0, vi p1, vr r2, uu] [(.ref r0), (.ref rb)]) _
    refine st3 _ ?_
    show SS p e below T3 (mkF m 15 #[vr r0, vi p1, vr r2, uu] [(.int ps), (.ref rb)]) _
    refine XS.aloadN X3.here hx rfl (hb hby d7_15) rfl rfl ?_
    show SS p e below T3 (mkF m 16 #[vr r0, vi p1, vr r2, uu] [(.ref r0), (.int ps), (.ref rb)]) _
    refine st4 _ ?_
    show SS p e below T4 (mkF m 19 #[vr r0, vi p1, vr r2, uu] [(.int ps), (.int ps), (.ref rb)]) _
    refine XS.iloadN X4.here hx rfl (hb hby d7_19) rfl ?_
    show SS p e below T4 (mkF m 20 #[vr r0, vi p1, vr r2, uu] [(.int p1), (.int ps), (.int ps), (.ref rb)]) _
    refine XS.iadd X4.here hx rfl (hb hby d7_20) rfl ?_
    show SS p e below T4 (mkF m 21 #[vr r0, vi p1, vr r2, uu] [(.int (ps + p1)), (.int ps), (.ref rb)]) _
    refine st5 _ ?_
    show SS p e below T5 (mkF m 24 #[vr r0, vi p1, vr r2, uu] [(.ref nb_5)]) _
    refine XS.astoreN X5.here hx rfl (hb hby d7_24) rfl rfl (l' := #[vr r0, vi p1, vr r2, vr nb_5]) rfl ?_
    show SS p e below T5 (mkF m 25 #[vr r0, vi p1, vr r2, vr nb_5] []) _
    refine XS.aloadN X5.here hx rfl (hb hby d7_25) rfl rfl ?_
    show SS p e below T5 (mkF m 26 #[vr r0, vi p1, vr r2, vr nb_5] [(.ref r0)]) _
    refine XS.dup X5.here hx rfl (hb hby d7_26) rfl rfl ?_
    show SS p e below T5 (mkF m 27 #[vr r0, vi p1, vr r2, vr nb_5] [(.ref r0), (.ref r0)]) _
    refine st6 _ ?_
    show SS p e below T6 (mkF m 30 #[vr r0, vi p1, vr r2, vr nb_5] [(.int ps), (.ref r0)]) _
    refine XS.iloadN X6.here hx rfl (hb hby d7_30) rfl ?_
    show SS p e below T6 (mkF m 31 #[vr r0, vi p1, vr r2, vr nb_5] [(.int p1), (.int ps), (.ref r0)]) _
    refine XS.iadd X6.here hx rfl (hb hby d7_31) rfl ?_
    show SS p e below T6 (mkF m 32 #[vr r0, vi p1, vr r2, vr nb_5] [(.int (ps + p1)), (.ref r0)]) _
    refine st8 _ ?_
    show SS p e below T8 (mkF m 35 #[vr r0, vi p1, vr r2, vr nb_5] []) _
    refine XS.aloadN X8.here hx rfl (hb hby d7_35) rfl rfl ?_
    show SS p e below T8 (mkF m 36 #[vr r0, vi p1, vr r2, vr nb_5] [(.ref nb_5)]) _
    exact retOut X8 hx Bd.returns rfl (Or.inr (Or.inr (Or.inr (Or.inr ⟨rfl, rfl, rfl⟩)))) (hb hby d7_36) hr
  · show Q_rmB Z r0 p1 r2 rb ps kb zb vs dv st h0 n0 _ T8.heap _
    rw [e8]
    exact ⟨nb_5, rfl, N8, K8, c10, Fw8, c11⟩
theorem ef_20 (m : MethodId) (x0 : Addr) : entryFrame m #[(.ref x0)] 2 = mkF m 0 #[vr x0, uu] [] := by first | (simp [entryFrame, mkF, argsToLocals, Value.category]; done) | rfl
theorem d6_0 : decode prog_14_method_8_code 0 = .ok (.aload_n 0, 1) := by decide +kernel
theorem d6_1 : decode prog_14_method_8_code 1 = .ok (.getfield 39, 3) := by decide +kernel
theorem d6_4 : decode prog_14_method_8_code 4 = .ok (.istore_n 1, 1) := by decide +kernel
theorem d6_5 : decode prog_14_method_8_code 5 = .ok (.aload_n 0, 1) := by decide +kernel
theorem d6_6 : decode prog_14_method_8_code 6 = .ok (.aload_n 0, 1) := by decide +kernel
theorem d6_7 : decode prog_14_method_8_code 7 = .ok (.getfield 34, 3) := by decide +kernel
theorem d6_10 : decode prog_14_method_8_code 10 = .ok (.putfield 39, 3) := by decide +kernel
theorem d6_13 : decode prog_14_method_8_code 13 = .ok (.iload_n 1, 1) := by decide +kernel
theorem d6_14 : decode prog_14_method_8_code 14 = .ok (.ireturn, 1) := by decide +kernel
def Q_rmS (Z : State) (r0 : Addr) (rb : Addr) (ps : Int32) (st : Int32) (h0 : Heap) (n0 : Nat) (v : Option Value) (h : Heap) (L : List Loc) : Prop := (v = some (.int st) ∧ Fr n0 L ∧ Keep h0 h [r0] ∧ Fld Z h r0 "com/example/wireform/wireform/amf3/AmfInput" "bytes" "[B" (.ref rb) ∧ Fld Z h r0 "com/example/wireform/wireform/amf3/AmfInput" "position" "I" (.int ps) ∧ Fld Z h r0 "com/example/wireform/wireform/amf3/AmfInput" "valueStart" "I" (.int ps))
set_option maxRecDepth 65536 in
set_option maxHeartbeats 40000000 in
theorem rmS (l : Launch) (Z : State) (a0 : Array Value) (hw : ∀ d ∈ tables_1, d.before a0 Z = true) (ws : List Jvm.Cond) (r0 : Addr) (rb : Addr) (ps : Int32) (st : Int32) (h0 : Heap) (n0 : Nat) (Z0 : n0 ≤ h0.size) (uE : Exa Z h0 r0 "com/example/wireform/wireform/amf3/AmfInput") (ub : Fld Z h0 r0 "com/example/wireform/wireform/amf3/AmfInput" "bytes" "[B" (.ref rb)) (up : Fld Z h0 r0 "com/example/wireform/wireform/amf3/AmfInput" "position" "I" (.int ps)) (uvs : Fld Z h0 r0 "com/example/wireform/wireform/amf3/AmfInput" "valueStart" "I" (.int st)) (ug : n0 ≤ r0) :
    MetFree l (⟨"com/example/wireform/wireform/amf3/AmfInput", "startValue", "()I"⟩ : MethodName) (head1 (Jvm.Cond.code (⟨"com/example/wireform/wireform/amf3/AmfInput", "startValue", "()I"⟩ : MethodName) prog_14_method_8_code 2 (some .int) :: ws) ({ frames := 0, cells := 0, slots := 0, locals := 0 } : Room)) (fun a U => a = #[(.ref r0)] ∧ Z.Warmed39 U.vm ∧ U.heap = h0) (fun _ _ _ _ _ => True) (fun _ U o U' => ∃ v L, o = .returned v ∧ Q_rmS Z r0 rb ps st h0 n0 v U'.heap L ∧ FrameEnd U o U' L ({ frames := 0, cells := 0, slots := 0, locals := 0 } : Room).cells ({ frames := 0, cells := 0, slots := 0, locals := 0 } : Room).slots) := by
  refine MetFree.of_bodySF (plainFor_of_name pn_6) hisR ?_
  intro p e s m args below meth c s₁ Bd hml0 hP hK
  obtain ⟨rfl, hZ, hh⟩ := hP
  have hx := Bd.exec
  have hby := Bd.bytes
  have hml : c.maxLocals = 2 := hml0
  have hown : s.vm.findClass "com/example/wireform/wireform/amf3/AmfInput" = some m.cls := findClass_of_methodNamed Bd.named
  have hnm := (name_of_methodNamed Bd.named Bd.method).1
  have X0 : Stand p l e ({ frames := 0, cells := 0, slots := 0, locals := 0 } : Room) s m #[(.ref r0)] below meth c s₁ [] 0 0 := Stand.of_body Bd
  have e0 : s₁.heap = h0 := by rw [← hh, Bd.state]; rfl
  have N0 := Fr.nil n0
  have pre0 : ∀ t, Steps p.tables e below (s₁.setTop (mkF m 0 #[vr r0, uu] [])) t → Steps p.tables e below (s₁.setTop (entryFrame m #[(.ref r0)] 2)) t := fun t k => castTop (ef_20 m r0) k
  obtain ⟨T1, X1, e1, st1⟩ := getF X0 hx hZ hown (host := "") (Or.inl (wd hw 39 rfl)) Via.refl e0 uvs (g := (mkF m 1 #[vr r0, uu] [(.ref r0)])) rfl rfl (hb hby d6_1)
  obtain ⟨T2, X2, e2, st2⟩ := getF X1 hx hZ hown (host := "") (Or.inl (wd hw 41 rfl)) Via.refl e1 up (g := (mkF m 7 #[vr r0, vi st] [(.ref r0), (.ref r0)])) rfl rfl (hb hby d6_7)
  obtain ⟨T3, h3, X3, e3, W3, st3⟩ := putF X2 hx hZ hown (host := "") (Or.inl (wd hw 39 rfl)) Via.refl e2 uvs uE (Or.inl (wd hw 40 rfl)) (wd hw 1 rfl) (ty := .int) (by decide) rfl rfl (g := (mkF m 10 #[vr r0, vi st] [(.int ps), (.ref r0)])) rfl rfl (hb hby d6_10)
  have Fw3 := uvs.same W3
  have N3 := Fr.snoc X3 N0 ug
  have K3 : Keep h0 h3 [r0] := (Keep.refl h0 [r0]).wr W3 (Or.inl (List.mem_of_getElem? (i := 0) rfl))
  have Z3 : n0 ≤ h3.size := by rw [W3.size]; exact Z0
  have c4 := (ub.other W3 (Or.inr (slot_ne (Or.inr (wd hw 27 rfl)) (Or.inl (wd hw 40 rfl)) (by decide) (t := (.array .byte)) (t' := .int) (by decide) (by decide))))
  have c5 := (up.other W3 (Or.inr (slot_ne (Or.inl (wd hw 42 rfl)) (Or.inl (wd hw 40 rfl)) (by decide) (t := .int) (t' := .int) (by decide) (by decide))))
  obtain ⟨fs, hr, hrun, hended, hW, hsame⟩ := X3.leave (v := some (.int st)) (fun h => by rw [Bd.returns] at h; cases h)
  refine ⟨_, _, pre0 _ ?_, hrun, hended, _, _, rfl, ?_, ⟨_, rfl⟩, hW, hsame.mono (by decide) (by decide)⟩
  · show SS p e below s₁ (mkF m 0 #[vr r0, uu] []) _
    refine XS.aloadN X0.here hx rfl (hb hby d6_0) rfl rfl ?_
    show SS p e below s₁ (mkF m 1 #[vr r0, uu] [(.ref r0)]) _
    refine st1 _ ?_
    show SS p e below T1 (mkF m 4 #[vr r0, uu] [(.int st)]) _
    refine XS.istoreN X1.here hx rfl (hb hby d6_4) rfl (l' := #[vr r0, vi st]) rfl ?_
    show SS p e below T1 (mkF m 5 #[vr r0, vi st] []) _
    refine XS.aloadN X1.here hx rfl (hb hby d6_5) rfl rfl ?_
    show SS p e below T1 (mkF m 6 #[vr r0, vi st] [(.ref r0)]) _
    refine XS.aloadN X1.here hx rfl (hb hby d6_6) rfl rfl ?_
    show SS p e below T1 (mkF m 7 #[vr r0, vi st] [(.ref r0), (.ref r0)]) _
    refine st2 _ ?_
    show SS p e below T2 (mkF m 10 #[vr r0, vi st] [(.int ps), (.ref r0)]) _
    refine st3 _ ?_
    show SS p e below T3 (mkF m 13 #[vr r0, vi st] []) _
    refine XS.iloadN X3.here hx rfl (hb hby d6_13) rfl ?_
    show SS p e below T3 (mkF m 14 #[vr r0, vi st] [(.int st)]) _
    exact retI X3 hx Bd.returns (hb hby d6_14) hr
  · show Q_rmS Z r0 rb ps st h0 n0 _ T3.heap _
    rw [e3]
    exact ⟨rfl, N3, K3, c4, c5, Fw3⟩
theorem ef_21 (m : MethodId) (x0 : Addr) (x1 : Int32) : entryFrame m #[(.ref x0), (.int x1)] 2 = mkF m 0 #[vr x0, vi x1] [] := by first | (simp [entryFrame, mkF, argsToLocals, Value.category]; done) | rfl
theorem d10_0 : decode prog_14_method_9_code 0 = .ok (.aload_n 0, 1) := by decide +kernel
theorem d10_1 : decode prog_14_method_9_code 1 = .ok (.iload_n 1, 1) := by decide +kernel
theorem d10_2 : decode prog_14_method_9_code 2 = .ok (.putfield 39, 3) := by decide +kernel
theorem d10_5 : decode prog_14_method_9_code 5 = .ok (.return_, 1) := by decide +kernel
def Q_rmE (Z : State) (r0 : Addr) (p1 : Int32) (rb : Addr) (ps : Int32) (st : Int32) (h0 : Heap) (n0 : Nat) (v : Option Value) (h : Heap) (L : List Loc) : Prop := (v = none ∧ Fr n0 L ∧ Keep h0 h [r0] ∧ Fld Z h r0 "com/example/wireform/wireform/amf3/AmfInput" "bytes" "[B" (.ref rb) ∧ Fld Z h r0 "com/example/wireform/wireform/amf3/AmfInput" "position" "I" (.int ps) ∧ Fld Z h r0 "com/example/wireform/wireform/amf3/AmfInput" "valueStart" "I" (.int p1))
set_option maxRecDepth 65536 in
set_option maxHeartbeats 40000000 in
theorem rmE (l : Launch) (Z : State) (a0 : Array Value) (hw : ∀ d ∈ tables_1, d.before a0 Z = true) (ws : List Jvm.Cond) (r0 : Addr) (p1 : Int32) (rb : Addr) (ps : Int32) (st : Int32) (h0 : Heap) (n0 : Nat) (Z0 : n0 ≤ h0.size) (uE : Exa Z h0 r0 "com/example/wireform/wireform/amf3/AmfInput") (ub : Fld Z h0 r0 "com/example/wireform/wireform/amf3/AmfInput" "bytes" "[B" (.ref rb)) (up : Fld Z h0 r0 "com/example/wireform/wireform/amf3/AmfInput" "position" "I" (.int ps)) (uvs : Fld Z h0 r0 "com/example/wireform/wireform/amf3/AmfInput" "valueStart" "I" (.int st)) (ug : n0 ≤ r0) :
    MetFree l (⟨"com/example/wireform/wireform/amf3/AmfInput", "endValue", "(I)V"⟩ : MethodName) (head1 (Jvm.Cond.code (⟨"com/example/wireform/wireform/amf3/AmfInput", "endValue", "(I)V"⟩ : MethodName) prog_14_method_9_code 2 none :: ws) ({ frames := 0, cells := 0, slots := 0, locals := 0 } : Room)) (fun a U => a = #[(.ref r0), (.int p1)] ∧ Z.Warmed39 U.vm ∧ U.heap = h0) (fun _ _ _ _ _ => True) (fun _ U o U' => ∃ v L, o = .returned v ∧ Q_rmE Z r0 p1 rb ps st h0 n0 v U'.heap L ∧ FrameEnd U o U' L ({ frames := 0, cells := 0, slots := 0, locals := 0 } : Room).cells ({ frames := 0, cells := 0, slots := 0, locals := 0 } : Room).slots) := by
  refine MetFree.of_bodySF (plainFor_of_name pn_6) hisR ?_
  intro p e s m args below meth c s₁ Bd hml0 hP hK
  obtain ⟨rfl, hZ, hh⟩ := hP
  have hx := Bd.exec
  have hby := Bd.bytes
  have hml : c.maxLocals = 2 := hml0
  have hown : s.vm.findClass "com/example/wireform/wireform/amf3/AmfInput" = some m.cls := findClass_of_methodNamed Bd.named
  have hnm := (name_of_methodNamed Bd.named Bd.method).1
  have X0 : Stand p l e ({ frames := 0, cells := 0, slots := 0, locals := 0 } : Room) s m #[(.ref r0), (.int p1)] below meth c s₁ [] 0 0 := Stand.of_body Bd
  have e0 : s₁.heap = h0 := by rw [← hh, Bd.state]; rfl
  have N0 := Fr.nil n0
  have pre0 : ∀ t, Steps p.tables e below (s₁.setTop (mkF m 0 #[vr r0, vi p1] [])) t → Steps p.tables e below (s₁.setTop (entryFrame m #[(.ref r0), (.int p1)] 2)) t := fun t k => castTop (ef_21 m r0 p1) k
  obtain ⟨T1, h1, X1, e1, W1, st1⟩ := putF X0 hx hZ hown (host := "") (Or.inl (wd hw 39 rfl)) Via.refl e0 uvs uE (Or.inl (wd hw 40 rfl)) (wd hw 1 rfl) (ty := .int) (by decide) rfl rfl (g := (mkF m 2 #[vr r0, vi p1] [(.int p1), (.ref r0)])) rfl rfl (hb hby d10_2)
  have Fw1 := uvs.same W1
  have N1 := Fr.snoc X1 N0 ug
  have K1 : Keep h0 h1 [r0] := (Keep.refl h0 [r0]).wr W1 (Or.inl (List.mem_of_getElem? (i := 0) rfl))
  have Z1 : n0 ≤ h1.size := by rw [W1.size]; exact Z0
  have c2 := (ub.other W1 (Or.inr (slot_ne (Or.inr (wd hw 27 rfl)) (Or.inl (wd hw 40 rfl)) (by decide) (t := (.array .byte)) (t' := .int) (by decide) (by decide))))
  have c3 := (up.other W1 (Or.inr (slot_ne (Or.inl (wd hw 42 rfl)) (Or.inl (wd hw 40 rfl)) (by decide) (t := .int) (t' := .int) (by decide) (by decide))))
  obtain ⟨fs, hr, hrun, hended, hW, hsame⟩ := X1.leave (v := none) (fun _ => rfl)
  refine ⟨_, _, pre0 _ ?_, hrun, hended, _, _, rfl, ?_, ⟨_, rfl⟩, hW, hsame.mono (by decide) (by decide)⟩
  · show SS p e below s₁ (mkF m 0 #[vr r0, vi p1] []) _
    refine XS.aloadN X0.here hx rfl (hb hby d10_0) rfl rfl ?_
    show SS p e below s₁ (mkF m 1 #[vr r0, vi p1] [(.ref r0)]) _
    refine XS.iloadN X0.here hx rfl (hb hby d10_1) rfl ?_
    show SS p e below s₁ (mkF m 2 #[vr r0, vi p1] [(.int p1), (.ref r0)]) _
    refine st1 _ ?_
    show SS p e below T1 (mkF m 5 #[vr r0, vi p1] []) _
    exact X1.returnOut hx Bd.returns (hb hby d10_5) hr
  · show Q_rmE Z r0 p1 rb ps st h0 n0 _ T1.heap _
    rw [e1]
    exact ⟨rfl, N1, K1, c2, c3, Fw1⟩
theorem ef_22 (m : MethodId) (x0 : Addr) (x1 : Addr) : entryFrame m #[(.ref x0), (.ref x1)] 2 = mkF m 0 #[vr x0, vr x1] [] := by first | (simp [entryFrame, mkF, argsToLocals, Value.category]; done) | rfl
theorem pn_7 : plainName "java/lang/Throwable" = true := by first | (simp [plainName, overriddenIn]; done) | decide +kernel
theorem d44_0 : decode jdk_78_method_2_code 0 = .ok (.aload_n 0, 1) := by decide +kernel
theorem d44_1 : decode jdk_78_method_2_code 1 = .ok (.invokespecial 1, 3) := by decide +kernel
theorem d44_4 : decode jdk_78_method_2_code 4 = .ok (.aload_n 0, 1) := by decide +kernel
theorem d44_5 : decode jdk_78_method_2_code 5 = .ok (.aload_n 0, 1) := by decide +kernel
theorem d44_6 : decode jdk_78_method_2_code 6 = .ok (.putfield 7, 3) := by decide +kernel
theorem d44_9 : decode jdk_78_method_2_code 9 = .ok (.aload_n 0, 1) := by decide +kernel
theorem d44_10 : decode jdk_78_method_2_code 10 = .ok (.getstatic 13, 3) := by decide +kernel
theorem d44_13 : decode jdk_78_method_2_code 13 = .ok (.putfield 17, 3) := by decide +kernel
theorem d44_16 : decode jdk_78_method_2_code 16 = .ok (.aload_n 0, 1) := by decide +kernel
theorem d44_17 : decode jdk_78_method_2_code 17 = .ok (.getstatic 20, 3) := by decide +kernel
theorem d44_20 : decode jdk_78_method_2_code 20 = .ok (.putfield 24, 3) := by decide +kernel
theorem d44_23 : decode jdk_78_method_2_code 23 = .ok (.aload_n 0, 1) := by decide +kernel
theorem d44_24 : decode jdk_78_method_2_code 24 = .ok (.invokevirtual 27, 3) := by decide +kernel
theorem own_xi0 : ∀ d ∈ own_xw "com/example/wireform/wireform/amf3/AmfDecodeException", d ∈ tables_1 := by decide +kernel
theorem own_xin {Z : State} {a0 : Array Value} (hw : ∀ d ∈ tables_1, d.before a0 Z = true) : ∀ d ∈ own_xw "com/example/wireform/wireform/amf3/AmfDecodeException", d.before a0 Z = true := fun d hd => hw d (own_xi0 d hd)
theorem d44_27 : decode jdk_78_method_2_code 27 = .ok (.pop, 1) := by decide +kernel
theorem d44_28 : decode jdk_78_method_2_code 28 = .ok (.aload_n 0, 1) := by decide +kernel
theorem d44_29 : decode jdk_78_method_2_code 29 = .ok (.aload_n 1, 1) := by decide +kernel
theorem d44_30 : decode jdk_78_method_2_code 30 = .ok (.putfield 31, 3) := by decide +kernel
theorem d44_33 : decode jdk_78_method_2_code 33 = .ok (.return_, 1) := by decide +kernel
def Q_rmThr (Z : State) (r0 : Addr) (r1 : Addr) (zc : Int32) (vu : Value) (vq : Value) (h0 : Heap) (n0 : Nat) (v : Option Value) (h : Heap) (L : List Loc) : Prop := (v = none ∧ Fr n0 L ∧ Keep h0 h [r0] ∧ Fld Z h r0 "java/lang/Throwable" "detailMessage" "Ljava/lang/String;" (.ref r1) ∧ Fld Z h r0 "com/example/wireform/wireform/mapping/DecodeException" "offset" "I" (.int (0 : Int32)))
set_option maxRecDepth 65536 in
set_option maxHeartbeats 40000000 in
theorem rmThr (l : Launch) (Z : State) (a0 : Array Value) (hw : ∀ d ∈ tables_1, d.before a0 Z = true) (ws : List Jvm.Cond) (r0 : Addr) (r1 : Addr) (zc : Int32) (vu : Value) (vq : Value) (h0 : Heap) (n0 : Nat) (Z0 : n0 ≤ h0.size) (uO : Old Z n0 h0) (uS : Sta Z Z.heap "java/lang/String" "COMPACT_STRINGS" "Z" (.int zc)) (uP : ¬ zc = 0) (uLt : l.stackTraces = true) (uZu : Sta Z Z.heap "java/lang/Throwable" "UNASSIGNED_STACK" "[Ljava/lang/StackTraceElement;" vu) (uRu : vu.isRef = true) (uZs : Sta Z Z.heap "java/lang/Throwable" "SUPPRESSED_SENTINEL" "Ljava/util/List;" vq) (uRs : vq.isRef = true) (uE : Exa Z h0 r0 "com/example/wireform/wireform/amf3/AmfDecodeException") (uU : Unt h0 r0) (uca : Fld Z h0 r0 "java/lang/Throwable" "cause" "Ljava/lang/Throwable;" .null) (ust : Fld Z h0 r0 "java/lang/Throwable" "stackTrace" "[Ljava/lang/StackTraceElement;" .null) (usu : Fld Z h0 r0 "java/lang/Throwable" "suppressedExceptions" "Ljava/util/List;" .null) (ubt : Fld Z h0 r0 "java/lang/Throwable" "backtrace" "Ljava/lang/Object;" .null) (udm : Fld Z h0 r0 "java/lang/Throwable" "detailMessage" "Ljava/lang/String;" .null) (ux0 : Fld Z h0 r0 "com/example/wireform/wireform/mapping/DecodeException" "offset" "I" (.int (0 : Int32))) (ug : n0 ≤ r0) :
    MetFree l (⟨"java/lang/Throwable", "<init>", "(Ljava/lang/String;)V"⟩ : MethodName) (head1 (Jvm.Cond.code (⟨"java/lang/Throwable", "<init>", "(Ljava/lang/String;)V"⟩ : MethodName) jdk_78_method_2_code 2 none :: ws) ({ frames := 3, cells := 1, slots := 2752, locals := 42 } : Room)) (fun a U => a = #[(.ref r0), (.ref r1)] ∧ Z.Warmed39 U.vm ∧ U.heap = h0 ∧ CHv Z own_EL U.vm h0) (fun _ _ bl s _ => s.vm.MethodsKnown ∧ s.vm.FramesKnown bl) (fun _ U o U' => ∃ v L, o = .returned v ∧ Q_rmThr Z r0 r1 zc vu vq h0 n0 v U'.heap L ∧ CHr Z own_EL U.vm U.heap U'.vm U'.heap ∧ ReturnedEndW U o U' L ({ frames := 3, cells := 1, slots := 2752, locals := 42 } : Room).cells ({ frames := 3, cells := 1, slots := 2752, locals := 42 } : Room).slots) := by
  refine MetFree.of_bodySF (plainFor_of_name pn_7) hisR ?_
  intro p e s m args below meth c s₁ Bd hml0 hP hK
  obtain ⟨rfl, hZ, hh, hC0⟩ := hP
  have hx := Bd.exec
  have hby := Bd.bytes
  have hml : c.maxLocals = 2 := hml0
  have hown : s.vm.findClass "java/lang/Throwable" = some m.cls := findClass_of_methodNamed Bd.named
  have hnm := (name_of_methodNamed Bd.named Bd.method).1
  have X0 : Stand p l e ({ frames := 3, cells := 1, slots := 2752, locals := 42 } : Room) (s.setVm s.vm) m #[(.ref r0), (.ref r1)] below meth c s₁ [] 0 0 := Stand.of_body Bd
  have e0 : s₁.heap = h0 := by rw [← hh, Bd.state]; rfl
  have N0 := Fr.nil n0
  have pre0 : ∀ t, Steps p.tables e below (s₁.setTop (mkF m 0 #[vr r0, vr r1] [])) t → Steps p.tables e below (s₁.setTop (entryFrame m #[(.ref r0), (.ref r1)] 2)) t := fun t k => castTop (ef_22 m r0 r1) k
  have hS0 : s.Since s.vm 0 := (State.WarmedH.refl s).since _
  have hk0 : 0 ≤ h0.size := Nat.zero_le _
  have R0 := CHr.refl hC0
  obtain ⟨T1, X1, e1, st1⟩ := initO X0 hx hZ hown (wd hw 253 rfl) (wd hw 11 rfl) (wd hw 12 rfl) e0 (g := (mkF m 1 #[vr r0, vr r1] [(.ref r0)])) rfl (by rw [hml]; rfl) rfl (hb hby d44_1) (by decide) (W := 0) (by show 2 * 0 + _ ≤ _; exact Nat.le_of_eq rfl) (by decide)
  obtain ⟨T2, h2, X2, e2, W2, st2⟩ := putF X1 hx hZ hown (host := "") (Or.inl (wd hw 254 rfl)) Via.refl e1 uca uE (Or.inl (wd hw 255 rfl)) (wd hw 77 rfl) (ty := (.object "java/lang/Throwable")) (by decide) rfl rfl (g := (mkF m 6 #[vr r0, vr r1] [(.ref r0), (.ref r0)])) rfl rfl (hb hby d44_6)
  have Re3 := R0.trans (CHr.wr W2 (Safe.exa hZ.alike uE (by decide) (by decide)) hC0)
  have hCe3 := Re3.1
  have Fw2 := uca.same W2
  have N2 := Fr.snoc X2 N0 ug
  have K2 : Keep h0 h2 [r0] := (Keep.refl h0 [r0]).wr W2 (Or.inl (List.mem_of_getElem? (i := 0) rfl))
  have Z2 : n0 ≤ h2.size := by rw [W2.size]; exact Z0
  have hk2 := own_szW W2 hk0
  have c5 := (uO.wr W2 ug)
  obtain ⟨T4, X4, e4, st4⟩ := getS2 X2 hx hZ hown (host := "") (Or.inl (wd hw 256 rfl)) Via.refl e2 (uZu.ext c5.2) (g := (mkF m 10 #[vr r0, vr r1] [(.ref r0)])) rfl (hb hby d44_10)
  have c7 := (uE.wr W2)
  have c8 := (ust.other W2 (Or.inr (slot_ne (Or.inl (wd hw 258 rfl)) (Or.inl (wd hw 255 rfl)) (by decide) (t := (.array (.object "java/lang/StackTraceElement"))) (t' := (.object "java/lang/Throwable")) (by decide) (by decide))))
  obtain ⟨T6, h6, X6, e6, W6, st6⟩ := putF X4 hx hZ hown (host := "") (Or.inl (wd hw 257 rfl)) Via.refl e4 c8 c7 (Or.inl (wd hw 258 rfl)) (wd hw 77 rfl) (ty := (.array (.object "java/lang/StackTraceElement"))) (by decide) (own_nA uRu) (own_fA uRu) (g := (mkF m 13 #[vr r0, vr r1] [vu, (.ref r0)])) rfl rfl (hb hby d44_13)
  have Re9 := Re3.trans (CHr.wr W6 (Safe.exa hZ.alike c7 (by decide) (by decide)) hCe3)
  have hCe9 := Re9.1
  have Fw6 := c8.same W6
  have N6 := Fr.snoc X6 N2 ug
  have K6 : Keep h0 h6 [r0] := K2.wr W6 (Or.inl (List.mem_of_getElem? (i := 0) rfl))
  have Z6 : n0 ≤ h6.size := by rw [W6.size]; exact Z2
  have hk6 := own_szW W6 hk2
  have c11 := (c5.wr W6 ug)
  obtain ⟨T10, X10, e10, st10⟩ := getS2 X6 hx hZ hown (host := "") (Or.inl (wd hw 259 rfl)) Via.refl e6 (uZs.ext c11.2) (g := (mkF m 17 #[vr r0, vr r1] [(.ref r0)])) rfl (hb hby d44_17)
  have c13 := (c7.wr W6)
  have c14 := ((usu.other W2 (Or.inr (slot_ne (Or.inl (wd hw 261 rfl)) (Or.inl (wd hw 255 rfl)) (by decide) (t := (.object "java/util/List")) (t' := (.object "java/lang/Throwable")) (by decide) (by decide)))).other W6 (Or.inr (slot_ne (Or.inl (wd hw 261 rfl)) (Or.inl (wd hw 258 rfl)) (by decide) (t := (.object "java/util/List")) (t' := (.array (.object "java/lang/StackTraceElement"))) (by decide) (by decide))))
  obtain ⟨T12, h12, X12, e12, W12, st12⟩ := putF X10 hx hZ hown (host := "") (Or.inl (wd hw 260 rfl)) Via.refl e10 c14 c13 (Or.inl (wd hw 261 rfl)) (wd hw 77 rfl) (ty := (.object "java/util/List")) (by decide) (own_nO uRs) (own_fO uRs) (g := (mkF m 20 #[vr r0, vr r1] [vq, (.ref r0)])) rfl rfl (hb hby d44_20)
  have Re15 := Re9.trans (CHr.wr W12 (Safe.exa hZ.alike c13 (by decide) (by decide)) hCe9)
  have hCe15 := Re15.1
  have Fw12 := c14.same W12
  have N12 := Fr.snoc X12 N6 ug
  have K12 : Keep h0 h12 [r0] := K6.wr W12 (Or.inl (List.mem_of_getElem? (i := 0) rfl))
  have Z12 : n0 ≤ h12.size := by rw [W12.size]; exact Z6
  have hk12 := own_szW W12 hk6
  have c17 := (c13.wr W12)
  have c18 := (((uU.wr W2).wr W6).wr W12)
  have c19 := (Fw6.other W12 (Or.inr (slot_ne (Or.inl (wd hw 258 rfl)) (Or.inl (wd hw 261 rfl)) (by decide) (t := (.array (.object "java/lang/StackTraceElement"))) (t' := (.object "java/util/List")) (by decide) (by decide))))
  have c20 := (c11.wr W12 ug)
  have c21 := (((ubt.other W2 (Or.inr (slot_ne (Or.inl (wd hw 286 rfl)) (Or.inl (wd hw 255 rfl)) (by decide) (t := (.object "java/lang/Object")) (t' := (.object "java/lang/Throwable")) (by decide) (by decide)))).other W6 (Or.inr (slot_ne (Or.inl (wd hw 286 rfl)) (Or.inl (wd hw 258 rfl)) (by decide) (t := (.object "java/lang/Object")) (t' := (.array (.object "java/lang/StackTraceElement"))) (by decide) (by decide)))).other W12 (Or.inr (slot_ne (Or.inl (wd hw 286 rfl)) (Or.inl (wd hw 261 rfl)) (by decide) (t := (.object "java/lang/Object")) (t' := (.object "java/util/List")) (by decide) (by decide))))
  have c22 := (((udm.other W2 (Or.inr (slot_ne (Or.inl (wd hw 285 rfl)) (Or.inl (wd hw 255 rfl)) (by decide) (t := (.object "java/lang/String")) (t' := (.object "java/lang/Throwable")) (by decide) (by decide)))).other W6 (Or.inr (slot_ne (Or.inl (wd hw 285 rfl)) (Or.inl (wd hw 258 rfl)) (by decide) (t := (.object "java/lang/String")) (t' := (.array (.object "java/lang/StackTraceElement"))) (by decide) (by decide)))).other W12 (Or.inr (slot_ne (Or.inl (wd hw 285 rfl)) (Or.inl (wd hw 261 rfl)) (by decide) (t := (.object "java/lang/String")) (t' := (.object "java/util/List")) (by decide) (by decide))))
  obtain ⟨T16, h16, Lf16, X16, e16, hlf16, Kpz16, fM16, st16⟩ := own_fill X12 hx uLt hZ hown (own_xin hw) (wd hw 77 rfl) (by show ThS Z s.heap; rw [hh]; exact ThS.ext uO.2 ThS.start) (Vm.MethodsKnown.alikeC hS0.1.alike hK.1) (Vm.FramesKnown.alikeC hS0.1.alike hK.2) e12 c17 c18 uRu c19 (uZu.ext c20.2) c21 c22 own_l3 (g := (mkF m 24 #[vr r0, vr r1] [(.ref r0)])) rfl (by rw [hml]; rfl) (rest := []) rfl (hb hby d44_24) (by decide) (by show 2 * 0 + 0 + 42 ≤ _; decide) (by decide) (by decide)
  have Kp16 : Kp Z h0 h16 r0 := by rw [← hh]; exact Kpz16
  have Kq16 := keep_of_kp Kp16
  have N16 := own_frsix hlf16 ug
  have fk16_offset := Fld.kp Kp16 ux0 (Or.inr (own_six (own_xin hw) (Or.inr (wd hw 291 rfl)) (ty := .int) (by decide) (by decide)))
  have fU16 := Unt.kp Kp16 uU
  have Re23 := R0.trans (CHr.keep Kq16 (allS (Safe.exa hZ.alike uE (by decide) (by decide)) all0) hC0)
  have hCe23 := Re23.1
  have Z16 : n0 ≤ h16.size := Nat.le_trans Z0 Kq16.1
  have hk16 : _ ≤ h16.size := Nat.le_trans hk0 Kq16.1
  have c25 := (uE.keep Kq16)
  obtain ⟨T24, h24, X24, e24, W24, st24⟩ := putF X16 hx hZ hown (host := "") (Or.inl (wd hw 289 rfl)) Via.refl e16 fM16 c25 (Or.inl (wd hw 285 rfl)) (wd hw 77 rfl) (ty := (.object "java/lang/String")) (by decide) rfl rfl (g := (mkF m 30 #[vr r0, vr r1] [(.ref r1), (.ref r0)])) rfl rfl (hb hby d44_30)
  have Re26 := Re23.trans (CHr.wr W24 (Safe.exa hZ.alike c25 (by decide) (by decide)) hCe23)
  have hCe26 := Re26.1
  have Fw24 := fM16.same W24
  have N24 := Fr.snoc X24 N16 ug
  have K24 : Keep h0 h24 [r0] := Kq16.wr W24 (Or.inl (List.mem_of_getElem? (i := 0) rfl))
  have Z24 : n0 ≤ h24.size := by rw [W24.size]; exact Z16
  have hk24 := own_szW W24 hk16
  have c27 := (fk16_offset.other W24 (Or.inr (slot_ne (Or.inr (wd hw 291 rfl)) (Or.inl (wd hw 285 rfl)) (by decide) (t := .int) (t' := (.object "java/lang/String")) (by decide) (by decide))))
  obtain ⟨fs, hr, hrun, hended, en1, en2, en3, en4⟩ := X24.leaveW hS0 (own_hk e24 hk24) (v := none) (fun _ => rfl)
  refine ⟨_, _, pre0 _ ?_, hrun, hended, _, _, rfl, ?_, own_chr (T := T24) hh e24 (Re26.trans (CHv.at X24 hZ (own_EW hw) hCe26)), en1, en2, en3, en4.mono (by decide) (by decide)⟩
  · show SS p e below s₁ (mkF m 0 #[vr r0, vr r1] []) _
    refine XS.aloadN X0.here hx rfl (hb hby d44_0) rfl rfl ?_
    show SS p e below s₁ (mkF m 1 #[vr r0, vr r1] [(.ref r0)]) _
    refine st1 _ ?_
    show SS p e below T1 (mkF m 4 #[vr r0, vr r1] []) _
    refine XS.aloadN X1.here hx rfl (hb hby d44_4) rfl rfl ?_
    show SS p e below T1 (mkF m 5 #[vr r0, vr r1] [(.ref r0)]) _
    refine XS.aloadN X1.here hx rfl (hb hby d44_5) rfl rfl ?_
    show SS p e below T1 (mkF m 6 #[vr r0, vr r1] [(.ref r0), (.ref r0)]) _
    refine st2 _ ?_
    show SS p e below T2 (mkF m 9 #[vr r0, vr r1] []) _
    refine XS.aloadN X2.here hx rfl (hb hby d44_9) rfl rfl ?_
    show SS p e below T2 (mkF m 10 #[vr r0, vr r1] [(.ref r0)]) _
    refine st4 _ ?_
    show SS p e below T4 (mkF m 13 #[vr r0, vr r1] [vu, (.ref r0)]) _
    refine st6 _ ?_
    show SS p e below T6 (mkF m 16 #[vr r0, vr r1] []) _
    refine XS.aloadN X6.here hx rfl (hb hby d44_16) rfl rfl ?_
    show SS p e below T6 (mkF m 17 #[vr r0, vr r1] [(.ref r0)]) _
    refine st10 _ ?_
    show SS p e below T10 (mkF m 20 #[vr r0, vr r1] [vq, (.ref r0)]) _
    refine st12 _ ?_
    show SS p e below T12 (mkF m 23 #[vr r0, vr r1] []) _
    refine XS.aloadN X12.here hx rfl (hb hby d44_23) rfl rfl ?_
    show SS p e below T12 (mkF m 24 #[vr r0, vr r1] [(.ref r0)]) _
    refine st16 _ ?_
    show SS p e below T16 (mkF m 27 #[vr r0, vr r1] [(.ref r0)]) _
    refine XS.pop X16.here hx rfl (hb hby d44_27) rfl rfl ?_
    show SS p e below T16 (mkF m 28 #[vr r0, vr r1] []) _
    refine XS.aloadN X16.here hx rfl (hb hby d44_28) rfl rfl ?_
    show SS p e below T16 (mkF m 29 #[vr r0, vr r1] [(.ref r0)]) _
    refine XS.aloadN X16.here hx rfl (hb hby d44_29) rfl rfl ?_
    show SS p e below T16 (mkF m 30 #[vr r0, vr r1] [(.ref r1), (.ref r0)]) _
    refine st24 _ ?_
    show SS p e below T24 (mkF m 33 #[vr r0, vr r1] []) _
    exact X24.returnOut hx Bd.returns (hb hby d44_33) hr
  · show Q_rmThr Z r0 r1 zc vu vq h0 n0 _ T24.heap _
    rw [e24]
    exact ⟨rfl, N24, K24, Fw24, c27⟩
theorem ef_23 (m : MethodId) (x0 : Addr) (x1 : Addr) : entryFrame m #[(.ref x0), (.ref x1)] 2 = mkF m 0 #[vr x0, vr x1] [] := by first | (simp [entryFrame, mkF, argsToLocals, Value.category]; done) | rfl
theorem pn_8 : plainName "java/lang/Exception" = true := by first | (simp [plainName, overriddenIn]; done) | decide +kernel
theorem d43_0 : decode jdk_59_method_2_code 0 = .ok (.aload_n 0, 1) := by decide +kernel
theorem d43_1 : decode jdk_59_method_2_code 1 = .ok (.aload_n 1, 1) := by decide +kernel
theorem d43_2 : decode jdk_59_method_2_code 2 = .ok (.invokespecial 7, 3) := by decide +kernel
theorem pd_10 : parseMethodDescriptor "(Ljava/lang/String;)V" = some ⟨[(.object "java/lang/String")], none⟩ := by decide +kernel
theorem d43_5 : decode jdk_59_method_2_code 5 = .ok (.return_, 1) := by decide +kernel
def Q_rmException (Z : State) (r0 : Addr) (r1 : Addr) (zc : Int32) (vu : Value) (vq : Value) (h0 : Heap) (n0 : Nat) (v : Option Value) (h : Heap) (L : List Loc) : Prop := (v = none ∧ Fr n0 L ∧ Keep h0 h [r0] ∧ Fld Z h r0 "java/lang/Throwable" "detailMessage" "Ljava/lang/String;" (.ref r1) ∧ Fld Z h r0 "com/example/wireform/wireform/mapping/DecodeException" "offset" "I" (.int (0 : Int32)))
set_option maxRecDepth 65536 in
set_option maxHeartbeats 40000000 in
theorem rmException (l : Launch) (Z : State) (a0 : Array Value) (hw : ∀ d ∈ tables_1, d.before a0 Z = true) (ws : List Jvm.Cond) (r0 : Addr) (r1 : Addr) (zc : Int32) (vu : Value) (vq : Value) (h0 : Heap) (n0 : Nat) (Z0 : n0 ≤ h0.size) (uO : Old Z n0 h0) (uS : Sta Z Z.heap "java/lang/String" "COMPACT_STRINGS" "Z" (.int zc)) (uP : ¬ zc = 0) (uLt : l.stackTraces = true) (uZu : Sta Z Z.heap "java/lang/Throwable" "UNASSIGNED_STACK" "[Ljava/lang/StackTraceElement;" vu) (uRu : vu.isRef = true) (uZs : Sta Z Z.heap "java/lang/Throwable" "SUPPRESSED_SENTINEL" "Ljava/util/List;" vq) (uRs : vq.isRef = true) (uE : Exa Z h0 r0 "com/example/wireform/wireform/amf3/AmfDecodeException") (uU : Unt h0 r0) (uca : Fld Z h0 r0 "java/lang/Throwable" "cause" "Ljava/lang/Throwable;" .null) (ust : Fld Z h0 r0 "java/lang/Throwable" "stackTrace" "[Ljava/lang/StackTraceElement;" .null) (usu : Fld Z h0 r0 "java/lang/Throwable" "suppressedExceptions" "Ljava/util/List;" .null) (ubt : Fld Z h0 r0 "java/lang/Throwable" "backtrace" "Ljava/lang/Object;" .null) (udm : Fld Z h0 r0 "java/lang/Throwable" "detailMessage" "Ljava/lang/String;" .null) (ux0 : Fld Z h0 r0 "com/example/wireform/wireform/mapping/DecodeException" "offset" "I" (.int (0 : Int32))) (ug : n0 ≤ r0) :
    MetFree l (⟨"java/lang/Exception", "<init>", "(Ljava/lang/String;)V"⟩ : MethodName) (head1 (Jvm.Cond.code (⟨"java/lang/Exception", "<init>", "(Ljava/lang/String;)V"⟩ : MethodName) jdk_59_method_2_code 2 none :: ws) ({ frames := 4, cells := 1, slots := 2752, locals := 55 } : Room)) (fun a U => a = #[(.ref r0), (.ref r1)] ∧ Z.Warmed39 U.vm ∧ U.heap = h0 ∧ CHv Z own_EL U.vm h0) (fun _ _ bl s _ => s.vm.MethodsKnown ∧ s.vm.FramesKnown bl) (fun _ U o U' => ∃ v L, o = .returned v ∧ Q_rmException Z r0 r1 zc vu vq h0 n0 v U'.heap L ∧ CHr Z own_EL U.vm U.heap U'.vm U'.heap ∧ ReturnedEndW U o U' L ({ frames := 4, cells := 1, slots := 2752, locals := 55 } : Room).cells ({ frames := 4, cells := 1, slots := 2752, locals := 55 } : Room).slots) := by
  refine MetFree.of_bodySF (plainFor_of_name pn_8) hisR ?_
  intro p e s m args below meth c s₁ Bd hml0 hP hK
  obtain ⟨rfl, hZ, hh, hC0⟩ := hP
  have hx := Bd.exec
  have hby := Bd.bytes
  have hml : c.maxLocals = 2 := hml0
  have hown : s.vm.findClass "java/lang/Exception" = some m.cls := findClass_of_methodNamed Bd.named
  have hnm := (name_of_methodNamed Bd.named Bd.method).1
  have X0 : Stand p l e ({ frames := 4, cells := 1, slots := 2752, locals := 55 } : Room) (s.setVm s.vm) m #[(.ref r0), (.ref r1)] below meth c s₁ [] 0 0 := Stand.of_body Bd
  have e0 : s₁.heap = h0 := by rw [← hh, Bd.state]; rfl
  have N0 := Fr.nil n0
  have pre0 : ∀ t, Steps p.tables e below (s₁.setTop (mkF m 0 #[vr r0, vr r1] [])) t → Steps p.tables e below (s₁.setTop (entryFrame m #[(.ref r0), (.ref r1)] 2)) t := fun t k => castTop (ef_23 m r0 r1) k
  have hS0 : s.Since s.vm 0 := (State.WarmedH.refl s).since _
  have hk0 : 0 ≤ h0.size := Nat.zero_le _
  have R0 := CHr.refl hC0
  obtain ⟨_, _, ⟨T1, Lw1, kw1, nw1⟩, -, X1', hS1', hg1, ⟨Lc1, hQ1, lq1, yq1, zq1, CH1⟩, st1⟩ := X0.specialBackS hx (y := (⟨"java/lang/Throwable", "<init>", "(Ljava/lang/String;)V"⟩ : MethodName)) rfl hown (mvT hZ (wd hw 247 rfl)) (mvT hZ (wd hw 248 rfl)) (mvT hZ (wd hw 252 rfl)) (by decide) (backOfSKH (W := 0) (rmThr l Z a0 hw [] r0 r1 zc vu vq h0 n0 Z0 uO uS uP uLt uZu uRu uZs uRs uE uU uca ust usu ubt udm ux0 ug) hZ (wd hw 252 rfl) (wd hw 251 rfl) (by decide) (by decide) (own_EW hw) hC0 (Vm.MethodsKnown.alikeC hS0.1.alike hK.1) (Vm.FramesKnown.alikeC hS0.1.alike hK.2)) (g := (mkF m 2 #[vr r0, vr r1] [(.ref r1), (.ref r0)])) rfl (by rw [hml]; rfl) (Steps.refl _) (a := r0) (argsL := [(.ref r1)]) (rest := []) (lenOf pd_10 rfl) rfl (by show 2 * 0 + _ ≤ _; exact Nat.le_of_eq rfl) (hb hby d43_2) (fun _ _ => ⟨rfl, e0, (by decide : 0 + 1 ≤ _), (by decide : 0 + 2752 ≤ _)⟩)
  dsimp only [Pt.U, Pt.locs, Pt.cells, Pt.slots] at X1' hS1' hg1 lq1 yq1 zq1 st1 hQ1 CH1
  have X1' := own_reb X1' lq1 yq1 zq1
  obtain ⟨X1, hS1, hZ1, hown1⟩ := rebS hS0 (own_hk e0 hk0) X1' hS1' hg1 hZ hown
  obtain ⟨rfl, Nq1, Kq1, f1_0, f1_1⟩ := hQ1
  have N1 := Fr.app N0 Nq1
  have Re2 := R0.trans CH1
  have hCe2 := Re2.1
  have K1 : Keep h0 T1.heap [r0] := (Keep.refl h0 [r0]).trans Kq1 (allS (Or.inl (List.mem_of_getElem? (i := 0) rfl)) all0)
  have Z1 : n0 ≤ T1.heap.size := Nat.le_trans Z0 Kq1.1
  have hk1 : T1.heap.size ≤ T1.heap.size := Nat.le_refl _
  obtain ⟨fs, hr, hrun, hended, en1, en2, en3, en4⟩ := X1.leaveW hS1 (own_hk rfl hk1) (v := none) (fun _ => rfl)
  refine ⟨_, _, pre0 _ ?_, hrun, hended, _, _, rfl, ?_, own_chr (T := T1) hh rfl (Re2.trans (CHv.at X1 hZ1 (own_EW hw) hCe2)), en1, en2, en3, en4.mono (by decide) (by decide)⟩
  · show SS p e below s₁ (mkF m 0 #[vr r0, vr r1] []) _
    refine XS.aloadN X0.here hx rfl (hb hby d43_0) rfl rfl ?_
    show SS p e below s₁ (mkF m 1 #[vr r0, vr r1] [(.ref r0)]) _
    refine XS.aloadN X0.here hx rfl (hb hby d43_1) rfl rfl ?_
    show SS p e below s₁ (mkF m 2 #[vr r0, vr r1] [(.ref r1), (.ref r0)]) _
    refine st1.trans ?_
    show SS p e below T1 (mkF m 5 #[vr r0, vr r1] []) _
    exact X1.returnOut hx Bd.returns (hb hby d43_5) hr
  · show Q_rmException Z r0 r1 zc vu vq h0 n0 _ T1.heap _
    exact ⟨rfl, N1, K1, f1_0, f1_1⟩
theorem ef_24 (m : MethodId) (x0 : Addr) (x1 : Addr) : entryFrame m #[(.ref x0), (.ref x1)] 2 = mkF m 0 #[vr x0, vr x1] [] := by first | (simp [entryFrame, mkF, argsToLocals, Value.category]; done) | rfl
theorem pn_9 : plainName "java/lang/RuntimeException" = true := by first | (simp [plainName, overriddenIn]; done) | decide +kernel
theorem d42_0 : decode jdk_58_method_2_code 0 = .ok (.aload_n 0, 1) := by decide +kernel
theorem d42_1 : decode jdk_58_method_2_code 1 = .ok (.aload_n 1, 1) := by decide +kernel
theorem d42_2 : decode jdk_58_method_2_code 2 = .ok (.invokespecial 7, 3) := by decide +kernel
theorem d42_5 : decode jdk_58_method_2_code 5 = .ok (.return_, 1) := by decide +kernel
def Q_rmRuntimeException (Z : State) (r0 : Addr) (r1 : Addr) (zc : Int32) (vu : Value) (vq : Value) (h0 : Heap) (n0 : Nat) (v : Option Value) (h : Heap) (L : List Loc) : Prop := (v = none ∧ Fr n0 L ∧ Keep h0 h [r0] ∧ Fld Z h r0 "java/lang/Throwable" "detailMessage" "Ljava/lang/String;" (.ref r1) ∧ Fld Z h r0 "com/example/wireform/wireform/mapping/DecodeException" "offset" "I" (.int (0 : Int32)))
set_option maxRecDepth 65536 in
set_option maxHeartbeats 40000000 in
theorem rmRuntimeException (l : Launch) (Z : State) (a0 : Array Value) (hw : ∀ d ∈ tables_1, d.before a0 Z = true) (ws : List Jvm.Cond) (r0 : Addr) (r1 : Addr) (zc : Int32) (vu : Value) (vq : Value) (h0 : Heap) (n0 : Nat) (Z0 : n0 ≤ h0.size) (uO : Old Z n0 h0) (uS : Sta Z Z.heap "java/lang/String" "COMPACT_STRINGS" "Z" (.int zc)) (uP : ¬ zc = 0) (uLt : l.stackTraces = true) (uZu : Sta Z Z.heap "java/lang/Throwable" "UNASSIGNED_STACK" "[Ljava/lang/StackTraceElement;" vu) (uRu : vu.isRef = true) (uZs : Sta Z Z.heap "java/lang/Throwable" "SUPPRESSED_SENTINEL" "Ljava/util/List;" vq) (uRs : vq.isRef = true) (uE : Exa Z h0 r0 "com/example/wireform/wireform/amf3/AmfDecodeException") (uU : Unt h0 r0) (uca : Fld Z h0 r0 "java/lang/Throwable" "cause" "Ljava/lang/Throwable;" .null) (ust : Fld Z h0 r0 "java/lang/Throwable" "stackTrace" "[Ljava/lang/StackTraceElement;" .null) (usu : Fld Z h0 r0 "java/lang/Throwable" "suppressedExceptions" "Ljava/util/List;" .null) (ubt : Fld Z h0 r0 "java/lang/Throwable" "backtrace" "Ljava/lang/Object;" .null) (udm : Fld Z h0 r0 "java/lang/Throwable" "detailMessage" "Ljava/lang/String;" .null) (ux0 : Fld Z h0 r0 "com/example/wireform/wireform/mapping/DecodeException" "offset" "I" (.int (0 : Int32))) (ug : n0 ≤ r0) :
    MetFree l (⟨"java/lang/RuntimeException", "<init>", "(Ljava/lang/String;)V"⟩ : MethodName) (head1 (Jvm.Cond.code (⟨"java/lang/RuntimeException", "<init>", "(Ljava/lang/String;)V"⟩ : MethodName) jdk_58_method_2_code 2 none :: ws) ({ frames := 5, cells := 1, slots := 2752, locals := 68 } : Room)) (fun a U => a = #[(.ref r0), (.ref r1)] ∧ Z.Warmed39 U.vm ∧ U.heap = h0 ∧ CHv Z own_EL U.vm h0) (fun _ _ bl s _ => s.vm.MethodsKnown ∧ s.vm.FramesKnown bl) (fun _ U o U' => ∃ v L, o = .returned v ∧ Q_rmRuntimeException Z r0 r1 zc vu vq h0 n0 v U'.heap L ∧ CHr Z own_EL U.vm U.heap U'.vm U'.heap ∧ ReturnedEndW U o U' L ({ frames := 5, cells := 1, slots := 2752, locals := 68 } : Room).cells ({ frames := 5, cells := 1, slots := 2752, locals := 68 } : Room).slots) := by
  refine MetFree.of_bodySF (plainFor_of_name pn_9) hisR ?_
  intro p e s m args below meth c s₁ Bd hml0 hP hK
  obtain ⟨rfl, hZ, hh, hC0⟩ := hP
  have hx := Bd.exec
  have hby := Bd.bytes
  have hml : c.maxLocals = 2 := hml0
  have hown : s.vm.findClass "java/lang/RuntimeException" = some m.cls := findClass_of_methodNamed Bd.named
  have hnm := (name_of_methodNamed Bd.named Bd.method).1
  have X0 : Stand p l e ({ frames := 5, cells := 1, slots := 2752, locals := 68 } : Room) (s.setVm s.vm) m #[(.ref r0), (.ref r1)] below meth c s₁ [] 0 0 := Stand.of_body Bd
  have e0 : s₁.heap = h0 := by rw [← hh, Bd.state]; rfl
  have N0 := Fr.nil n0
  have pre0 : ∀ t, Steps p.tables e below (s₁.setTop (mkF m 0 #[vr r0, vr r1] [])) t → Steps p.tables e below (s₁.setTop (entryFrame m #[(.ref r0), (.ref r1)] 2)) t := fun t k => castTop (ef_24 m r0 r1) k
  have hS0 : s.Since s.vm 0 := (State.WarmedH.refl s).since _
  have hk0 : 0 ≤ h0.size := Nat.zero_le _
  have R0 := CHr.refl hC0
  obtain ⟨_, _, ⟨T1, Lw1, kw1, nw1⟩, -, X1', hS1', hg1, ⟨Lc1, hQ1, lq1, yq1, zq1, CH1⟩, st1⟩ := X0.specialBackS hx (y := (⟨"java/lang/Exception", "<init>", "(Ljava/lang/String;)V"⟩ : MethodName)) rfl hown (mvT hZ (wd hw 241 rfl)) (mvT hZ (wd hw 242 rfl)) (mvT hZ (wd hw 246 rfl)) (by decide) (backOfSKH (W := 0) (rmException l Z a0 hw [] r0 r1 zc vu vq h0 n0 Z0 uO uS uP uLt uZu uRu uZs uRs uE uU uca ust usu ubt udm ux0 ug) hZ (wd hw 246 rfl) (wd hw 245 rfl) (by decide) (by decide) (own_EW hw) hC0 (Vm.MethodsKnown.alikeC hS0.1.alike hK.1) (Vm.FramesKnown.alikeC hS0.1.alike hK.2)) (g := (mkF m 2 #[vr r0, vr r1] [(.ref r1), (.ref r0)])) rfl (by rw [hml]; rfl) (Steps.refl _) (a := r0) (argsL := [(.ref r1)]) (rest := []) (lenOf pd_10 rfl) rfl (by show 2 * 0 + _ ≤ _; exact Nat.le_of_eq rfl) (hb hby d42_2) (fun _ _ => ⟨rfl, e0, (by decide : 0 + 1 ≤ _), (by decide : 0 + 2752 ≤ _)⟩)
  dsimp only [Pt.U, Pt.locs, Pt.cells, Pt.slots] at X1' hS1' hg1 lq1 yq1 zq1 st1 hQ1 CH1
  have X1' := own_reb X1' lq1 yq1 zq1
  obtain ⟨X1, hS1, hZ1, hown1⟩ := rebS hS0 (own_hk e0 hk0) X1' hS1' hg1 hZ hown
  obtain ⟨rfl, Nq1, Kq1, f1_0, f1_1⟩ := hQ1
  have N1 := Fr.app N0 Nq1
  have Re2 := R0.trans CH1
  have hCe2 := Re2.1
  have K1 : Keep h0 T1.heap [r0] := (Keep.refl h0 [r0]).trans Kq1 (allS (Or.inl (List.mem_of_getElem? (i := 0) rfl)) all0)
  have Z1 : n0 ≤ T1.heap.size := Nat.le_trans Z0 Kq1.1
  have hk1 : T1.heap.size ≤ T1.heap.size := Nat.le_refl _
  obtain ⟨fs, hr, hrun, hended, en1, en2, en3, en4⟩ := X1.leaveW hS1 (own_hk rfl hk1) (v := none) (fun _ => rfl)
  refine ⟨_, _, pre0 _ ?_, hrun, hended, _, _, rfl, ?_, own_chr (T := T1) hh rfl (Re2.trans (CHv.at X1 hZ1 (own_EW hw) hCe2)), en1, en2, en3, en4.mono (by decide) (by decide)⟩
  · show SS p e below s₁ (mkF m 0 #[vr r0, vr r1] []) _
    refine XS.aloadN X0.here hx rfl (hb hby d42_0) rfl rfl ?_
    show SS p e below s₁ (mkF m 1 #[vr r0, vr r1] [(.ref r0)]) _
    refine XS.aloadN X0.here hx rfl (hb hby d42_1) rfl rfl ?_
    show SS p e below s₁ (mkF m 2 #[vr r0, vr r1] [(.ref r1), (.ref r0)]) _
    refine st1.trans ?_
    show SS p e below T1 (mkF m 5 #[vr r0, vr r1] []) _
    exact X1.returnOut hx Bd.returns (hb hby d42_5) hr
  · show Q_rmRuntimeException Z r0 r1 zc vu vq h0 n0 _ T1.heap _
    exact ⟨rfl, N1, K1, f1_0, f1_1⟩
theorem ef_25 (m : MethodId) (x0 : Addr) (x1 : Addr) (x2 : Int32) : entryFrame m #[(.ref x0), (.ref x1), (.int x2)] 3 = mkF m 0 #[vr x0, vr x1, vi x2] [] := by first | (simp [entryFrame, mkF, argsToLocals, Value.category]; done) | rfl
theorem pn_10 : plainName "com/example/wireform/wireform/mapping/DecodeException" = true := by first | (simp [plainName, overriddenIn]; done) | decide +kernel
theorem d41_0 : decode prog_42_method_1_code 0 = .ok (.aload_n 0, 1) := by decide +kernel
theorem d41_1 : decode prog_42_method_1_code 1 = .ok (.aload_n 1, 1) := by decide +kernel
theorem d41_2 : decode prog_42_method_1_code 2 = .ok (.invokespecial 1, 3) := by decide +kernel
theorem d41_5 : decode prog_42_method_1_code 5 = .ok (.aload_n 0, 1) := by decide +kernel
theorem d41_6 : decode prog_42_method_1_code 6 = .ok (.iload_n 2, 1) := by decide +kernel
theorem d41_7 : decode prog_42_method_1_code 7 = .ok (.putfield 7, 3) := by decide +kernel
theorem d41_10 : decode prog_42_method_1_code 10 = .ok (.return_, 1) := by decide +kernel
def Q_rmX (Z : State) (r0 : Addr) (r1 : Addr) (p2 : Int32) (zc : Int32) (vu : Value) (vq : Value) (h0 : Heap) (n0 : Nat) (v : Option Value) (h : Heap) (L : List Loc) : Prop := (v = none ∧ Fr n0 L ∧ Keep h0 h [r0] ∧ Fld Z h r0 "com/example/wireform/wireform/mapping/DecodeException" "offset" "I" (.int p2))
set_option maxRecDepth 65536 in
set_option maxHeartbeats 40000000 in
theorem rmX (l : Launch) (Z : State) (a0 : Array Value) (hw : ∀ d ∈ tables_1, d.before a0 Z = true) (ws : List Jvm.Cond) (r0 : Addr) (r1 : Addr) (p2 : Int32) (zc : Int32) (vu : Value) (vq : Value) (h0 : Heap) (n0 : Nat) (Z0 : n0 ≤ h0.size) (uO : Old Z n0 h0) (uS : Sta Z Z.heap "java/lang/String" "COMPACT_STRINGS" "Z" (.int zc)) (uP : ¬ zc = 0) (uLt : l.stackTraces = true) (uZu : Sta Z Z.heap "java/lang/Throwable" "UNASSIGNED_STACK" "[Ljava/lang/StackTraceElement;" vu) (uRu : vu.isRef = true) (uZs : Sta Z Z.heap "java/lang/Throwable" "SUPPRESSED_SENTINEL" "Ljava/util/List;" vq) (uRs : vq.isRef = true) (uE : Exa Z h0 r0 "com/example/wireform/wireform/amf3/AmfDecodeException") (uU : Unt h0 r0) (uca : Fld Z h0 r0 "java/lang/Throwable" "cause" "Ljava/lang/Throwable;" .null) (ust : Fld Z h0 r0 "java/lang/Throwable" "stackTrace" "[Ljava/lang/StackTraceElement;" .null) (usu : Fld Z h0 r0 "java/lang/Throwable" "suppressedExceptions" "Ljava/util/List;" .null) (ubt : Fld Z h0 r0 "java/lang/Throwable" "backtrace" "Ljava/lang/Object;" .null) (udm : Fld Z h0 r0 "java/lang/Throwable" "detailMessage" "Ljava/lang/String;" .null) (ux0 : Fld Z h0 r0 "com/example/wireform/wireform/mapping/DecodeException" "offset" "I" (.int (0 : Int32))) (ug : n0 ≤ r0) :
    MetFree l (⟨"com/example/wireform/wireform/mapping/DecodeException", "<init>", "(Ljava/lang/String;I)V"⟩ : MethodName) (head1 (Jvm.Cond.code (⟨"com/example/wireform/wireform/mapping/DecodeException", "<init>", "(Ljava/lang/String;I)V"⟩ : MethodName) prog_42_method_1_code 3 none :: ws) ({ frames := 6, cells := 1, slots := 2752, locals := 81 } : Room)) (fun a U => a = #[(.ref r0), (.ref r1), (.int p2)] ∧ Z.Warmed39 U.vm ∧ U.heap = h0 ∧ CHv Z own_EL U.vm h0) (fun _ _ bl s _ => s.vm.MethodsKnown ∧ s.vm.FramesKnown bl) (fun _ U o U' => ∃ v L, o = .returned v ∧ Q_rmX Z r0 r1 p2 zc vu vq h0 n0 v U'.heap L ∧ CHr Z own_EL U.vm U.heap U'.vm U'.heap ∧ ReturnedEndW U o U' L ({ frames := 6, cells := 1, slots := 2752, locals := 81 } : Room).cells ({ frames := 6, cells := 1, slots := 2752, locals := 81 } : Room).slots) := by
  refine MetFree.of_bodySF (plainFor_of_name pn_10) hisR ?_
  intro p e s m args below meth c s₁ Bd hml0 hP hK
  obtain ⟨rfl, hZ, hh, hC0⟩ := hP
  have hx := Bd.exec
  have hby := Bd.bytes
  have hml : c.maxLocals = 3 := hml0
  have hown : s.vm.findClass "com/example/wireform/wireform/mapping/DecodeException" = some m.cls := findClass_of_methodNamed Bd.named
  have hnm := (name_of_methodNamed Bd.named Bd.method).1
  have X0 : Stand p l e ({ frames := 6, cells := 1, slots := 2752, locals := 81 } : Room) (s.setVm s.vm) m #[(.ref r0), (.ref r1), (.int p2)] below meth c s₁ [] 0 0 := Stand.of_body Bd
  have e0 : s₁.heap = h0 := by rw [← hh, Bd.state]; rfl
  have N0 := Fr.nil n0
  have pre0 : ∀ t, Steps p.tables e below (s₁.setTop (mkF m 0 #[vr r0, vr r1, vi p2] [])) t → Steps p.tables e below (s₁.setTop (entryFrame m #[(.ref r0), (.ref r1), (.int p2)] 3)) t := fun t k => castTop (ef_25 m r0 r1 p2) k
  have hS0 : s.Since s.vm 0 := (State.WarmedH.refl s).since _
  have hk0 : 0 ≤ h0.size := Nat.zero_le _
  have R0 := CHr.refl hC0
  obtain ⟨_, _, ⟨T1, Lw1, kw1, nw1⟩, -, X1', hS1', hg1, ⟨Lc1, hQ1, lq1, yq1, zq1, CH1⟩, st1⟩ := X0.specialBackS hx (y := (⟨"java/lang/RuntimeException", "<init>", "(Ljava/lang/String;)V"⟩ : MethodName)) rfl hown (mvT hZ (wd hw 236 rfl)) (mvT hZ (wd hw 237 rfl)) (mvT hZ (wd hw 240 rfl)) (by decide) (backOfSKH (W := 0) (rmRuntimeException l Z a0 hw [] r0 r1 zc vu vq h0 n0 Z0 uO uS uP uLt uZu uRu uZs uRs uE uU uca ust usu ubt udm ux0 ug) hZ (wd hw 240 rfl) (wd hw 239 rfl) (by decide) (by decide) (own_EW hw) hC0 (Vm.MethodsKnown.alikeC hS0.1.alike hK.1) (Vm.FramesKnown.alikeC hS0.1.alike hK.2)) (g := (mkF m 2 #[vr r0, vr r1, vi p2] [(.ref r1), (.ref r0)])) rfl (by rw [hml]; rfl) (Steps.refl _) (a := r0) (argsL := [(.ref r1)]) (rest := []) (lenOf pd_10 rfl) rfl (by show 2 * 0 + _ ≤ _; exact Nat.le_of_eq rfl) (hb hby d41_2) (fun _ _ => ⟨rfl, e0, (by decide : 0 + 1 ≤ _), (by decide : 0 + 2752 ≤ _)⟩)
  dsimp only [Pt.U, Pt.locs, Pt.cells, Pt.slots] at X1' hS1' hg1 lq1 yq1 zq1 st1 hQ1 CH1
  have X1' := own_reb X1' lq1 yq1 zq1
  obtain ⟨X1, hS1, hZ1, hown1⟩ := rebS hS0 (own_hk e0 hk0) X1' hS1' hg1 hZ hown
  obtain ⟨rfl, Nq1, Kq1, f1_0, f1_1⟩ := hQ1
  have N1 := Fr.app N0 Nq1
  have Re2 := R0.trans CH1
  have hCe2 := Re2.1
  have K1 : Keep h0 T1.heap [r0] := (Keep.refl h0 [r0]).trans Kq1 (allS (Or.inl (List.mem_of_getElem? (i := 0) rfl)) all0)
  have Z1 : n0 ≤ T1.heap.size := Nat.le_trans Z0 Kq1.1
  have hk1 : T1.heap.size ≤ T1.heap.size := Nat.le_refl _
  have c4 := (uE.keep Kq1)
  obtain ⟨T3, h3, X3, e3, W3, st3⟩ := putF X1 hx hZ1 hown1 (host := "") (Or.inl (wd hw 290 rfl)) Via.refl rfl f1_1 c4 (Or.inr ⟨(wd hw 291 rfl), rfl, hnm⟩) (wd hw 77 rfl) (ty := .int) (by decide) rfl rfl (g := (mkF m 7 #[vr r0, vr r1, vi p2] [(.int p2), (.ref r0)])) rfl rfl (hb hby d41_7)
  have Re5 := Re2.trans (CHr.wr W3 (Safe.exa hZ1.alike c4 (by decide) (by decide)) hCe2)
  have hCe5 := Re5.1
  have Fw3 := f1_1.same W3
  have N3 := Fr.snoc X3 N1 ug
  have K3 : Keep h0 h3 [r0] := K1.wr W3 (Or.inl (List.mem_of_getElem? (i := 0) rfl))
  have Z3 : n0 ≤ h3.size := by rw [W3.size]; exact Z1
  have hk3 := own_szW W3 hk1
  obtain ⟨fs, hr, hrun, hended, en1, en2, en3, en4⟩ := X3.leaveW hS1 (own_hk e3 hk3) (v := none) (fun _ => rfl)
  refine ⟨_, _, pre0 _ ?_, hrun, hended, _, _, rfl, ?_, own_chr (T := T3) hh e3 (Re5.trans (CHv.at X3 hZ1 (own_EW hw) hCe5)), en1, en2, en3, en4.mono (by decide) (by decide)⟩
  · show SS p e below s₁ (mkF m 0 #[vr r0, vr r1, vi p2] []) _
    refine XS.aloadN X0.here hx rfl (hb hby d41_0) rfl rfl ?_
    show SS p e below s₁ (mkF m 1 #[vr r0, vr r1, vi p2] [(.ref r0)]) _
    refine XS.aloadN X0.here hx rfl (hb hby d41_1) rfl rfl ?_
    show SS p e below s₁ (mkF m 2 #[vr r0, vr r1, vi p2] [(.ref r1), (.ref r0)]) _
    refine st1.trans ?_
    show SS p e below T1 (mkF m 5 #[vr r0, vr r1, vi p2] []) _
    refine XS.aloadN X1.here hx rfl (hb hby d41_5) rfl rfl ?_
    show SS p e below T1 (mkF m 6 #[vr r0, vr r1, vi p2] [(.ref r0)]) _
    refine XS.iloadN X1.here hx rfl (hb hby d41_6) rfl ?_
    show SS p e below T1 (mkF m 7 #[vr r0, vr r1, vi p2] [(.int p2), (.ref r0)]) _
    refine st3 _ ?_
    show SS p e below T3 (mkF m 10 #[vr r0, vr r1, vi p2] []) _
    exact X3.returnOut hx Bd.returns (hb hby d41_10) hr
  · show Q_rmX Z r0 r1 p2 zc vu vq h0 n0 _ T3.heap _
    rw [e3]
    exact ⟨rfl, N3, K3, Fw3⟩
theorem ef_26 (m : MethodId) (x0 : Addr) : entryFrame m #[(.ref x0)] 1 = mkF m 0 #[vr x0] [] := by first | (simp [entryFrame, mkF, argsToLocals, Value.category]; done) | rfl
theorem d47_0 : decode prog_42_method_2_code 0 = .ok (.aload_n 0, 1) := by decide +kernel
theorem d47_1 : decode prog_42_method_2_code 1 = .ok (.getfield 7, 3) := by decide +kernel
theorem d47_4 : decode prog_42_method_2_code 4 = .ok (.ireturn, 1) := by decide +kernel
def Q_rmG (Z : State) (r0 : Addr) (of : Int32) (h0 : Heap) (n0 : Nat) (v : Option Value) (h : Heap) (L : List Loc) : Prop := (v = some (.int of) ∧ Fr n0 L ∧ h = h0)
set_option maxRecDepth 65536 in
set_option maxHeartbeats 40000000 in
theorem rmG (l : Launch) (Z : State) (a0 : Array Value) (hw : ∀ d ∈ tables_1, d.before a0 Z = true) (ws : List Jvm.Cond) (r0 : Addr) (of : Int32) (h0 : Heap) (n0 : Nat) (Z0 : n0 ≤ h0.size) (uof : Fld Z h0 r0 "com/example/wireform/wireform/mapping/DecodeException" "offset" "I" (.int of)) :
    MetFree l (⟨"com/example/wireform/wireform/mapping/DecodeException", "getOffset", "()I"⟩ : MethodName) (head1 (Jvm.Cond.code (⟨"com/example/wireform/wireform/mapping/DecodeException", "getOffset", "()I"⟩ : MethodName) prog_42_method_2_code 1 (some .int) :: ws) ({ frames := 0, cells := 0, slots := 0, locals := 0 } : Room)) (fun a U => a = #[(.ref r0)] ∧ Z.Warmed39 U.vm ∧ U.heap = h0) (fun _ _ _ _ _ => True) (fun _ U o U' => ∃ v L, o = .returned v ∧ Q_rmG Z r0 of h0 n0 v U'.heap L ∧ FrameEnd U o U' L ({ frames := 0, cells := 0, slots := 0, locals := 0 } : Room).cells ({ frames := 0, cells := 0, slots := 0, locals := 0 } : Room).slots) := by
  refine MetFree.of_bodySF (plainFor_of_name pn_10) hisR ?_
  intro p e s m args below meth c s₁ Bd hml0 hP hK
  obtain ⟨rfl, hZ, hh⟩ := hP
  have hx := Bd.exec
  have hby := Bd.bytes
  have hml : c.maxLocals = 1 := hml0
  have hown : s.vm.findClass "com/example/wireform/wireform/mapping/DecodeException" = some m.cls := findClass_of_methodNamed Bd.named
  have hnm := (name_of_methodNamed Bd.named Bd.method).1
  have X0 : Stand p l e ({ frames := 0, cells := 0, slots := 0, locals := 0 } : Room) s m #[(.ref r0)] below meth c s₁ [] 0 0 := Stand.of_body Bd
  have e0 : s₁.heap = h0 := by rw [← hh, Bd.state]; rfl
  have N0 := Fr.nil n0
  have pre0 : ∀ t, Steps p.tables e below (s₁.setTop (mkF m 0 #[vr r0] [])) t → Steps p.tables e below (s₁.setTop (entryFrame m #[(.ref r0)] 1)) t := fun t k => castTop (ef_26 m r0) k
  obtain ⟨T1, X1, e1, st1⟩ := getF X0 hx hZ hown (host := "") (Or.inl (wd hw 290 rfl)) Via.refl e0 uof (g := (mkF m 1 #[vr r0] [(.ref r0)])) rfl rfl (hb hby d47_1)
  obtain ⟨fs, hr, hrun, hended, hW, hsame⟩ := X1.leave (v := some (.int of)) (fun h => by rw [Bd.returns] at h; cases h)
  refine ⟨_, _, pre0 _ ?_, hrun, hended, _, _, rfl, ?_, ⟨_, rfl⟩, hW, hsame.mono (by decide) (by decide)⟩
  · show SS p e below s₁ (mkF m 0 #[vr r0] []) _
    refine XS.aloadN X0.here hx rfl (hb hby d47_0) rfl rfl ?_
    show SS p e below s₁ (mkF m 1 #[vr r0] [(.ref r0)]) _
    refine st1 _ ?_
    show SS p e below T1 (mkF m 4 #[vr r0] [(.int of)]) _
    exact retI X1 hx Bd.returns (hb hby d47_4) hr
  · show Q_rmG Z r0 of h0 n0 _ T1.heap _
    rw [e1]
    exact ⟨rfl, N0, rfl⟩
theorem ef_27 (m : MethodId) (x0 : Addr) (x1 : Addr) : entryFrame m #[(.ref x0), (.ref x1), (.int (0 : Int32)), (.int (0 : Int32))] 4 = mkF m 0 #[vr x0, vr x1, vi (0 : Int32), vi (0 : Int32)] [] := by first | (simp [entryFrame, mkF, argsToLocals, Value.category]; done) | rfl
theorem d22_0 : decode jdk_42_method_147_code 0 = .ok (.aload_n 0, 1) := by decide +kernel
theorem d22_1 : decode jdk_42_method_147_code 1 = .ok (.invokevirtual 335, 3) := by decide +kernel
theorem d22_4 : decode jdk_42_method_147_code 4 = .ok (.iload_n 3, 1) := by decide +kernel
theorem d22_5 : decode jdk_42_method_147_code 5 = .ok (.if_icmp .ne 23, 3) := by decide +kernel
theorem d22_8 : decode jdk_42_method_147_code 8 = .ok (.aload_n 0, 1) := by decide +kernel
theorem d22_9 : decode jdk_42_method_147_code 9 = .ok (.getfield 9, 3) := by decide +kernel
theorem d22_12 : decode jdk_42_method_147_code 12 = .ok (.iconst 0, 1) := by decide +kernel
theorem d22_13 : decode jdk_42_method_147_code 13 = .ok (.aload_n 1, 1) := by decide +kernel
theorem d22_14 : decode jdk_42_method_147_code 14 = .ok (.iload_n 2, 1) := by decide +kernel
theorem d22_15 : decode jdk_42_method_147_code 15 = .ok (.iload_n 3, 1) := by decide +kernel
theorem d22_16 : decode jdk_42_method_147_code 16 = .ok (.ishl, 1) := by decide +kernel
theorem d22_17 : decode jdk_42_method_147_code 17 = .ok (.aload_n 0, 1) := by decide +kernel
theorem d22_18 : decode jdk_42_method_147_code 18 = .ok (.getfield 9, 3) := by decide +kernel
theorem d22_21 : decode jdk_42_method_147_code 21 = .ok (.arraylength, 1) := by decide +kernel
theorem d22_22 : decode jdk_42_method_147_code 22 = .ok (.invokestatic 212, 3) := by decide +kernel
theorem d22_25 : decode jdk_42_method_147_code 25 = .ok (.goto 18, 3) := by decide +kernel
theorem d22_43 : decode jdk_42_method_147_code 43 = .ok (.return_, 1) := by decide +kernel
def Q_rm_gb_0_1_16 (Z : State) (r0 : Addr) (r1 : Addr) (zc : Int32) (rt : Addr) (kt : ClassId) (vt : List Value) (kd : ClassId) (vd : List Value) (h0 : Heap) (n0 : Nat) (v : Option Value) (h : Heap) (L : List Loc) : Prop := ∃ (nv : List Value), (v = none ∧ Fr n0 L ∧ Keep h0 h [r1] ∧ Arv Z h r1 kd .byte (16 : Int32) nv (.int (0 : Int32)) ∧ nv.length = 16)
set_option maxRecDepth 65536 in
set_option maxHeartbeats 40000000 in
theorem rm_gb_0_1_16 (l : Launch) (Z : State) (a0 : Array Value) (hw : ∀ d ∈ tables_1, d.before a0 Z = true) (ws : List Jvm.Cond) (r0 : Addr) (r1 : Addr) (zc : Int32) (rt : Addr) (kt : ClassId) (vt : List Value) (kd : ClassId) (vd : List Value) (h0 : Heap) (n0 : Nat) (Z0 : n0 ≤ h0.size) (uO : Old Z n0 h0) (uS : Sta Z Z.heap "java/lang/String" "COMPACT_STRINGS" "Z" (.int zc)) (uP : ¬ zc = 0) (us : Exa Z h0 r0 "java/lang/String") (usv : Fld Z h0 r0 "java/lang/String" "value" "[B" (.ref rt)) (usc : Fld Z h0 r0 "java/lang/String" "coder" "B" (.int (0 : Int32))) (usV : Arv Z h0 rt kt .byte (1 : Int32) vt (.int (0 : Int32))) (uVd : Arv Z h0 r1 kd .byte (16 : Int32) vd (.int (0 : Int32))) (uL : vd.length = 16) (ug : n0 ≤ r1) :
    MetFree l (⟨"java/lang/String", "getBytes", "([BIB)V"⟩ : MethodName) (head1 (Jvm.Cond.code (⟨"java/lang/String", "getBytes", "([BIB)V"⟩ : MethodName) jdk_42_method_147_code 4 none :: ws) ({ frames := 1, cells := 0, slots := 0, locals := 18 } : Room)) (fun a U => a = #[(.ref r0), (.ref r1), (.int (0 : Int32)), (.int (0 : Int32))] ∧ Z.Warmed39 U.vm ∧ U.heap = h0) (fun _ _ _ _ _ => True) (fun _ U o U' => ∃ v L, o = .returned v ∧ Q_rm_gb_0_1_16 Z r0 r1 zc rt kt vt kd vd h0 n0 v U'.heap L ∧ FrameEnd U o U' L ({ frames := 1, cells := 0, slots := 0, locals := 18 } : Room).cells ({ frames := 1, cells := 0, slots := 0, locals := 18 } : Room).slots) := by
  refine MetFree.of_bodySF (plainFor_of_name pn_0) hisR ?_
  intro p e s m args below meth c s₁ Bd hml0 hP hK
  obtain ⟨rfl, hZ, hh⟩ := hP
  have hx := Bd.exec
  have hby := Bd.bytes
  have hml : c.maxLocals = 4 := hml0
  have hown : s.vm.findClass "java/lang/String" = some m.cls := findClass_of_methodNamed Bd.named
  have hnm := (name_of_methodNamed Bd.named Bd.method).1
  have X0 : Stand p l e ({ frames := 1, cells := 0, slots := 0, locals := 18 } : Room) s m #[(.ref r0), (.ref r1), (.int (0 : Int32)), (.int (0 : Int32))] below meth c s₁ [] 0 0 := Stand.of_body Bd
  have e0 : s₁.heap = h0 := by rw [← hh, Bd.state]; rfl
  have N0 := Fr.nil n0
  have pre0 : ∀ t, Steps p.tables e below (s₁.setTop (mkF m 0 #[vr r0, vr r1, vi (0 : Int32), vi (0 : Int32)] [])) t → Steps p.tables e below (s₁.setTop (entryFrame m #[(.ref r0), (.ref r1), (.int (0 : Int32)), (.int (0 : Int32))] 4)) t := fun t k => castTop (ef_27 m r0 r1) k
  obtain ⟨cq1, kq1, q1a, q1b, q1c⟩ := isOf hZ e0 us
  obtain ⟨_, _, ⟨T1, Lw1, kw1, nw1⟩, -, X1, ⟨Lc1, hQ1, lq1, yq1, zq1⟩, st1⟩ := X0.virtualBack hx (y := (⟨"java/lang/String", "coder", "()B"⟩ : MethodName)) (z := (⟨"java/lang/String", "coder", "()B"⟩ : MethodName)) hown (mvT hZ (wd hw 116 rfl)) (mvT hZ (wd hw 117 rfl)) (notFace_of_selects (args := #[]) (mvT hZ (wd hw 119 rfl))) (mvT hZ (wd hw 119 rfl)) (mvT hZ (wd hw 118 rfl)) (by decide) (backOf (W := 0) (rmCoder l Z a0 hw [] r0 zc h0 n0 Z0 uO uS uP usc) hZ (wd hw 120 rfl) (wd hw 14 rfl) (by decide) (by decide)) q1a q1c (g := (mkF m 1 #[vr r0, vr r1, vi (0 : Int32), vi (0 : Int32)] [(.ref r0)])) rfl (by rw [hml]; rfl) (Steps.refl _) (argsL := []) (rest := []) (lenOf pd_0 rfl) rfl (by show 2 * 0 + _ ≤ _; exact Nat.le_of_eq rfl) (hb hby d22_1) (fun _ _ => ⟨rfl, e0, (by decide : 0 + 0 ≤ _), (by decide : 0 + 0 ≤ _)⟩)
  dsimp only [Pt.U, Pt.locs, Pt.cells, Pt.slots] at X1 lq1 yq1 zq1 st1 hQ1
  have X1 := own_reb X1 lq1 yq1 zq1
  obtain ⟨rfl, Nq1, eh1⟩ := hQ1
  have N1 := Fr.app N0 Nq1
  obtain ⟨T2, X2, e2, st2⟩ := getF X1 hx hZ hown (host := "") (Or.inl (wd hw 115 rfl)) Via.refl eh1 usv (g := (mkF m 9 #[vr r0, vr r1, vi (0 : Int32), vi (0 : Int32)] [(.ref r0)])) rfl rfl (hb hby d22_9)
  obtain ⟨T3, X3, e3, st3⟩ := getF X2 hx hZ hown (host := "") (Or.inl (wd hw 115 rfl)) Via.refl e2 usv (g := (mkF m 18 #[vr r0, vr r1, vi (0 : Int32), vi (0 : Int32)] [(.ref r0), (.int (0 : Int32)), (.ref r1), (.int (0 : Int32)), (.ref rt)])) rfl rfl (hb hby d22_18)
  obtain ⟨cl4, Ar4, q4, S4, Nn4, H4, G4⟩ := (id usV)
  obtain ⟨T5, h5, L5, X5, e5, N5, Kq5, V5, st5⟩ := cpA X3 hx hZ hown (wd hw 146 rfl) (wd hw 149 rfl) (wd hw 147 rfl) (wd hw 148 rfl) e3 (us := ((List.range ((1 : Int32)).toNatClampNeg).map fun i => List.getD vt (((0 : Int32)).toNatClampNeg + i) (.int (0 : Int32)))) usV uVd (Or.inl ⟨rfl, rfl⟩) (by decide) (by decide) (by decide) (by decide) (by decide) rfl (by rw [uL]; decide) N1 ug (g := (mkF m 22 #[vr r0, vr r1, vi (0 : Int32), vi (0 : Int32)] [(.int (1 : Int32)), (.int (0 : Int32)), (.ref r1), (.int (0 : Int32)), (.ref rt)])) rfl (by rw [hml]; rfl) rfl (hb hby d22_22) (by decide) (W := 0) (by show 2 * 0 + _ ≤ _; exact Nat.le_of_eq rfl) (by decide)
  have K5 : Keep h0 h5 [r1] := (Keep.refl h0 [r1]).trans Kq5 (allS (Or.inl (List.mem_of_getElem? (i := 0) rfl)) all0)
  have Z5 : n0 ≤ h5.size := Nat.le_trans Z0 Kq5.1
  obtain ⟨fs, hr, hrun, hended, hW, hsame⟩ := X5.leave (v := none) (fun _ => rfl)
  refine ⟨_, _, pre0 _ ?_, hrun, hended, _, _, rfl, ?_, ⟨_, rfl⟩, hW, hsame.mono (by decide) (by decide)⟩
  · show SS p e below s₁ (mkF m 0 #[vr r0, vr r1, vi (0 : Int32), vi (0 : Int32)] []) _
    refine XS.aloadN X0.here hx rfl (hb hby d22_0) rfl rfl ?_
    show SS p e below s₁ (mkF m 1 #[vr r0, vr r1, vi (0 : Int32), vi (0 : Int32)] [(.ref r0)]) _
    refine st1.trans ?_
    show SS p e below T1 (mkF m 4 #[vr r0, vr r1, vi (0 : Int32), vi (0 : Int32)] [(.int (0 : Int32))]) _
    refine XS.iloadN X1.here hx rfl (hb hby d22_4) rfl ?_
    show SS p e below T1 (mkF m 5 #[vr r0, vr r1, vi (0 : Int32), vi (0 : Int32)] [(.int (0 : Int32)), (.int (0 : Int32))]) _
    refine XS.icmpNo X1.here hx rfl (hb hby d22_5) rfl (teq (by decide : (0 : Int32) = (0 : Int32))).2 ?_
    show SS p e below T1 (mkF m 8 #[vr r0, vr r1, vi (0 : Int32), vi (0 : Int32)] []) _
    refine XS.aloadN X1.here hx rfl (hb hby d22_8) rfl rfl ?_
    show SS p e below T1 (mkF m 9 #[vr r0, vr r1, vi (0 : Int32), vi (0 : Int32)] [(.ref r0)]) _
    refine st2 _ ?_
    show SS p e below T2 (mkF m 12 #[vr r0, vr r1, vi (0 : Int32), vi (0 : Int32)] [(.ref rt)]) _
    refine XS.iconst X2.here hx rfl (hb hby d22_12) ?_
    show SS p e below T2 (mkF m 13 #[vr r0, vr r1, vi (0 : Int32), vi (0 : Int32)] [(.int (0 : Int32)), (.ref rt)]) _
    refine XS.aloadN X2.here hx rfl (hb hby d22_13) rfl rfl ?_
    show SS p e below T2 (mkF m 14 #[vr r0, vr r1, vi (0 : Int32), vi (0 : Int32)] [(.ref r1), (.int (0 : Int32)), (.ref rt)]) _
    refine XS.iloadN X2.here hx rfl (hb hby d22_14) rfl ?_
    show SS p e below T2 (mkF m 15 #[vr r0, vr r1, vi (0 : Int32), vi (0 : Int32)] [(.int (0 : Int32)), (.ref r1), (.int (0 : Int32)), (.ref rt)]) _
    refine XS.iloadN X2.here hx rfl (hb hby d22_15) rfl ?_
    show SS p e below T2 (mkF m 16 #[vr r0, vr r1, vi (0 : Int32), vi (0 : Int32)] [(.int (0 : Int32)), (.int (0 : Int32)), (.ref r1), (.int (0 : Int32)), (.ref rt)]) _
    refine XS.ishl X2.here hx rfl (hb hby d22_16) rfl ?_
    show SS p e below T2 (mkF m 17 #[vr r0, vr r1, vi (0 : Int32), vi (0 : Int32)] [(.int ((0 : Int32) <<< ((0 : Int32) &&& 31))), (.ref r1), (.int (0 : Int32)), (.ref rt)]) _
    rw [(show ((0 : Int32) <<< ((0 : Int32) &&& 31)) = (0 : Int32) from by decide)]
    show SS p e below T2 (mkF m 17 #[vr r0, vr r1, vi (0 : Int32), vi (0 : Int32)] [(.int (0 : Int32)), (.ref r1), (.int (0 : Int32)), (.ref rt)]) _
    refine XS.aloadN X2.here hx rfl (hb hby d22_17) rfl rfl ?_
    show SS p e below T2 (mkF m 18 #[vr r0, vr r1, vi (0 : Int32), vi (0 : Int32)] [(.ref r0), (.int (0 : Int32)), (.ref r1), (.int (0 : Int32)), (.ref rt)]) _
    refine st3 _ ?_
    show SS p e below T3 (mkF m 21 #[vr r0, vr r1, vi (0 : Int32), vi (0 : Int32)] [(.ref rt), (.int (0 : Int32)), (.ref r1), (.int (0 : Int32)), (.ref rt)]) _
    refine X3.arraylength hx (own_at e3 Ar4.1) (State.isArrayOf_alike hZ.alike Ar4.2.1) (g := (mkF m 21 #[vr r0, vr r1, vi (0 : Int32), vi (0 : Int32)] [(.ref rt), (.int (0 : Int32)), (.ref r1), (.int (0 : Int32)), (.ref rt)])) rfl rfl (hb hby d22_21) _ ?_
    rw [len_of S4 Nn4]
    show SS p e below T3 (mkF m 22 #[vr r0, vr r1, vi (0 : Int32), vi (0 : Int32)] [(.int (1 : Int32)), (.int (0 : Int32)), (.ref r1), (.int (0 : Int32)), (.ref rt)]) _
    refine st5 _ ?_
    show SS p e below T5 (mkF m 25 #[vr r0, vr r1, vi (0 : Int32), vi (0 : Int32)] []) _
    refine XS.goto X5.here hx rfl (pc0 := 25) (pc' := 43) rfl (hb hby d22_25) (by decide) (by decide) ?_
    show SS p e below T5 (mkF m 43 #[vr r0, vr r1, vi (0 : Int32), vi (0 : Int32)] []) _
    exact X5.returnOut hx Bd.returns (hb hby d22_43) hr
  · show Q_rm_gb_0_1_16 Z r0 r1 zc rt kt vt kd vd h0 n0 _ T5.heap _
    rw [e5]
    exact ⟨(List.take ((0 : Int32)).toNatClampNeg vd ++ ((List.range ((1 : Int32)).toNatClampNeg).map fun i => List.getD vt (((0 : Int32)).toNatClampNeg + i) (.int (0 : Int32))) ++ List.drop (((0 : Int32)).toNatClampNeg + ((1 : Int32)).toNatClampNeg) vd), rfl, N5, K5, V5, (own_len3 uL (by simp only [List.length_map, List.length_range]) (by decide))⟩
theorem ef_28 (m : MethodId) (x0 : Addr) (x2 : Addr) : entryFrame m #[(.ref x0), (.int (0 : Int32)), (.ref x2)] 3 = mkF m 0 #[vr x0, vi (0 : Int32), vr x2] [] := by first | (simp [entryFrame, mkF, argsToLocals, Value.category]; done) | rfl
theorem d20_0 : decode jdk_68_method_73_code 0 = .ok (.aload_n 0, 1) := by decide +kernel
theorem d20_1 : decode jdk_68_method_73_code 1 = .ok (.aload_n 2, 1) := by decide +kernel
theorem d20_2 : decode jdk_68_method_73_code 2 = .ok (.invokevirtual 397, 3) := by decide +kernel
theorem d20_5 : decode jdk_68_method_73_code 5 = .ok (.aload_n 2, 1) := by decide +kernel
theorem d20_6 : decode jdk_68_method_73_code 6 = .ok (.aload_n 0, 1) := by decide +kernel
theorem d20_7 : decode jdk_68_method_73_code 7 = .ok (.getfield 15, 3) := by decide +kernel
theorem d20_10 : decode jdk_68_method_73_code 10 = .ok (.iload_n 1, 1) := by decide +kernel
theorem d20_11 : decode jdk_68_method_73_code 11 = .ok (.aload_n 0, 1) := by decide +kernel
theorem d20_12 : decode jdk_68_method_73_code 12 = .ok (.getfield 22, 3) := by decide +kernel
theorem d20_15 : decode jdk_68_method_73_code 15 = .ok (.invokevirtual 399, 3) := by decide +kernel
theorem pd_11 : parseMethodDescriptor "([BIB)V" = some ⟨[(.array .byte), .int, .byte], none⟩ := by decide +kernel
theorem d20_18 : decode jdk_68_method_73_code 18 = .ok (.return_, 1) := by decide +kernel
def Q_rm_ps_0_1_16 (Z : State) (r0 : Addr) (r2 : Addr) (zc : Int32) (rv : Addr) (kv : ClassId) (vv : List Value) (rt : Addr) (kt : ClassId) (vt : List Value) (h0 : Heap) (n0 : Nat) (v : Option Value) (h : Heap) (L : List Loc) : Prop := ∃ (nv : List Value), (v = none ∧ Fr n0 L ∧ Keep h0 h [rv] ∧ Arv Z h rv kv .byte (16 : Int32) nv (.int (0 : Int32)) ∧ nv.length = 16)
set_option maxRecDepth 65536 in
set_option maxHeartbeats 40000000 in
theorem rm_ps_0_1_16 (l : Launch) (Z : State) (a0 : Array Value) (hw : ∀ d ∈ tables_1, d.before a0 Z = true) (ws : List Jvm.Cond) (r0 : Addr) (r2 : Addr) (zc : Int32) (rv : Addr) (kv : ClassId) (vv : List Value) (rt : Addr) (kt : ClassId) (vt : List Value) (h0 : Heap) (n0 : Nat) (Z0 : n0 ≤ h0.size) (uO : Old Z n0 h0) (uS : Sta Z Z.heap "java/lang/String" "COMPACT_STRINGS" "Z" (.int zc)) (uP : ¬ zc = 0) (uE : Exa Z h0 r0 "java/lang/StringBuilder") (uv : Fld Z h0 r0 "java/lang/AbstractStringBuilder" "value" "[B" (.ref rv)) (uc : Fld Z h0 r0 "java/lang/AbstractStringBuilder" "coder" "B" (.int (0 : Int32))) (uV : Arv Z h0 rv kv .byte (16 : Int32) vv (.int (0 : Int32))) (uL : vv.length = 16) (us : Exa Z h0 r2 "java/lang/String") (usv : Fld Z h0 r2 "java/lang/String" "value" "[B" (.ref rt)) (usc : Fld Z h0 r2 "java/lang/String" "coder" "B" (.int (0 : Int32))) (usV : Arv Z h0 rt kt .byte (1 : Int32) vt (.int (0 : Int32))) (ug : n0 ≤ rv) :
    MetFree l (⟨"java/lang/AbstractStringBuilder", "putStringAt", "(ILjava/lang/String;)V"⟩ : MethodName) (head1 (Jvm.Cond.code (⟨"java/lang/AbstractStringBuilder", "putStringAt", "(ILjava/lang/String;)V"⟩ : MethodName) jdk_68_method_73_code 3 none :: ws) ({ frames := 2, cells := 0, slots := 0, locals := 33 } : Room)) (fun a U => a = #[(.ref r0), (.int (0 : Int32)), (.ref r2)] ∧ Z.Warmed39 U.vm ∧ U.heap = h0) (fun _ _ _ _ _ => True) (fun _ U o U' => ∃ v L, o = .returned v ∧ Q_rm_ps_0_1_16 Z r0 r2 zc rv kv vv rt kt vt h0 n0 v U'.heap L ∧ FrameEnd U o U' L ({ frames := 2, cells := 0, slots := 0, locals := 33 } : Room).cells ({ frames := 2, cells := 0, slots := 0, locals := 33 } : Room).slots) := by
  refine MetFree.of_bodySF (plainFor_of_name pn_1) hisR ?_
  intro p e s m args below meth c s₁ Bd hml0 hP hK
  obtain ⟨rfl, hZ, hh⟩ := hP
  have hx := Bd.exec
  have hby := Bd.bytes
  have hml : c.maxLocals = 3 := hml0
  have hown : s.vm.findClass "java/lang/AbstractStringBuilder" = some m.cls := findClass_of_methodNamed Bd.named
  have hnm := (name_of_methodNamed Bd.named Bd.method).1
  have X0 : Stand p l e ({ frames := 2, cells := 0, slots := 0, locals := 33 } : Room) s m #[(.ref r0), (.int (0 : Int32)), (.ref r2)] below meth c s₁ [] 0 0 := Stand.of_body Bd
  have e0 : s₁.heap = h0 := by rw [← hh, Bd.state]; rfl
  have N0 := Fr.nil n0
  have pre0 : ∀ t, Steps p.tables e below (s₁.setTop (mkF m 0 #[vr r0, vi (0 : Int32), vr r2] [])) t → Steps p.tables e below (s₁.setTop (entryFrame m #[(.ref r0), (.int (0 : Int32)), (.ref r2)] 3)) t := fun t k => castTop (ef_28 m r0 r2) k
  obtain ⟨cq1, kq1, q1a, q1b, q1c⟩ := isOf hZ e0 uE
  obtain ⟨_, _, ⟨T1, Lw1, kw1, nw1⟩, -, X1, ⟨Lc1, hQ1, lq1, yq1, zq1⟩, st1⟩ := X0.virtualBack hx (y := (⟨"java/lang/AbstractStringBuilder", "inflateIfNeededFor", "(Ljava/lang/String;)V"⟩ : MethodName)) (z := (⟨"java/lang/AbstractStringBuilder", "inflateIfNeededFor", "(Ljava/lang/String;)V"⟩ : MethodName)) hown (mvT hZ (wd hw 135 rfl)) (mvT hZ (own_decl (wd hw 136 rfl) (wd hw 139 rfl))) (notFace_of_selects (args := #[]) (mvT hZ (wd hw 138 rfl))) (mvT hZ (wd hw 138 rfl)) (mvT hZ (wd hw 136 rfl)) (by decide) (backOf (W := 0) (rmInf l Z a0 hw [] r0 r2 zc h0 n0 Z0 uO uS uP uc us usc) hZ (wd hw 139 rfl) (wd hw 92 rfl) (by decide) (by decide)) q1a q1c (g := (mkF m 2 #[vr r0, vi (0 : Int32), vr r2] [(.ref r2), (.ref r0)])) rfl (by rw [hml]; rfl) (Steps.refl _) (argsL := [(.ref r2)]) (rest := []) (lenOf pd_10 rfl) rfl (by show 2 * 0 + _ ≤ _; exact Nat.le_of_eq rfl) (hb hby d20_2) (fun _ _ => ⟨rfl, e0, (by decide : 0 + 0 ≤ _), (by decide : 0 + 0 ≤ _)⟩)
  dsimp only [Pt.U, Pt.locs, Pt.cells, Pt.slots] at X1 lq1 yq1 zq1 st1 hQ1
  have X1 := own_reb X1 lq1 yq1 zq1
  obtain ⟨rfl, Nq1, eh1⟩ := hQ1
  have N1 := Fr.app N0 Nq1
  obtain ⟨T2, X2, e2, st2⟩ := getF X1 hx hZ hown (host := "") (Or.inl (wd hw 96 rfl)) Via.refl eh1 uv (g := (mkF m 7 #[vr r0, vi (0 : Int32), vr r2] [(.ref r0), (.ref r2)])) rfl rfl (hb hby d20_7)
  obtain ⟨T3, X3, e3, st3⟩ := getF X2 hx hZ hown (host := "") (Or.inl (wd hw 98 rfl)) Via.refl e2 uc (g := (mkF m 12 #[vr r0, vi (0 : Int32), vr r2] [(.ref r0), (.int (0 : Int32)), (.ref rv), (.ref r2)])) rfl rfl (hb hby d20_12)
  obtain ⟨cq4, kq4, q4a, q4b, q4c⟩ := isOf hZ e3 us
  obtain ⟨_, _, ⟨T4, Lw4, kw4, nw4⟩, -, X4, ⟨Lc4, hQ4, lq4, yq4, zq4⟩, st4⟩ := X3.virtualBack hx (y := (⟨"java/lang/String", "getBytes", "([BIB)V"⟩ : MethodName)) (z := (⟨"java/lang/String", "getBytes", "([BIB)V"⟩ : MethodName)) hown (mvT hZ (wd hw 141 rfl)) (mvT hZ (wd hw 142 rfl)) (notFace_of_selects (args := #[]) (mvT hZ (wd hw 144 rfl))) (mvT hZ (wd hw 144 rfl)) (mvT hZ (wd hw 143 rfl)) (by decide) (backOf (W := 0) (rm_gb_0_1_16 l Z a0 hw [] r2 rv zc rt kt vt kv vv h0 n0 Z0 uO uS uP us usv usc usV uV uL ug) hZ (wd hw 145 rfl) (wd hw 14 rfl) (by decide) (by decide)) q4a q4c (g := (mkF m 15 #[vr r0, vi (0 : Int32), vr r2] [(.int (0 : Int32)), (.int (0 : Int32)), (.ref rv), (.ref r2)])) rfl (by rw [hml]; rfl) (Steps.refl _) (argsL := [(.ref rv), (.int (0 : Int32)), (.int (0 : Int32))]) (rest := []) (lenOf pd_11 rfl) rfl (by show 2 * 0 + _ ≤ _; exact Nat.le_of_eq rfl) (hb hby d20_15) (fun _ _ => ⟨rfl, e3, (by decide : 0 + 0 ≤ _), (by decide : 0 + 0 ≤ _)⟩)
  dsimp only [Pt.U, Pt.locs, Pt.cells, Pt.slots] at X4 lq4 yq4 zq4 st4 hQ4
  have X4 := own_reb X4 lq4 yq4 zq4
  obtain ⟨nv_4, rfl, Nq4, Kq4, f4_0, f4_1⟩ := hQ4
  have N4 := Fr.app N1 Nq4
  have K4 : Keep h0 T4.heap [rv] := (Keep.refl h0 [rv]).trans Kq4 (allS (Or.inl (List.mem_of_getElem? (i := 0) rfl)) all0)
  have Z4 : n0 ≤ T4.heap.size := Nat.le_trans Z0 Kq4.1
  obtain ⟨fs, hr, hrun, hended, hW, hsame⟩ := X4.leave (v := none) (fun _ => rfl)
  refine ⟨_, _, pre0 _ ?_, hrun, hended, _, _, rfl, ?_, ⟨_, rfl⟩, hW, hsame.mono (by decide) (by decide)⟩
  · show SS p e below s₁ (mkF m 0 #[vr r0, vi (0 : Int32), vr r2] []) _
    refine XS.aloadN X0.here hx rfl (hb hby d20_0) rfl rfl ?_
    show SS p e below s₁ (mkF m 1 #[vr r0, vi (0 : Int32), vr r2] [(.ref r0)]) _
    refine XS.aloadN X0.here hx rfl (hb hby d20_1) rfl rfl ?_
    show SS p e below s₁ (mkF m 2 #[vr r0, vi (0 : Int32), vr r2] [(.ref r2), (.ref r0)]) _
    refine st1.trans ?_
    show SS p e below T1 (mkF m 5 #[vr r0, vi (0 : Int32), vr r2] []) _
    refine XS.aloadN X1.here hx rfl (hb hby d20_5) rfl rfl ?_
    show SS p e below T1 (mkF m 6 #[vr r0, vi (0 : Int32), vr r2] [(.ref r2)]) _
    refine XS.aloadN X1.here hx rfl (hb hby d20_6) rfl rfl ?_
    show SS p e below T1 (mkF m 7 #[vr r0, vi (0 : Int32), vr r2] [(.ref r0), (.ref r2)]) _
    refine st2 _ ?_
    show SS p e below T2 (mkF m 10 #[vr r0, vi (0 : Int32), vr r2] [(.ref rv), (.ref r2)]) _
    refine XS.iloadN X2.here hx rfl (hb hby d20_10) rfl ?_
    show SS p e below T2 (mkF m 11 #[vr r0, vi (0 : Int32), vr r2] [(.int (0 : Int32)), (.ref rv), (.ref r2)]) _
    refine XS.aloadN X2.here hx rfl (hb hby d20_11) rfl rfl ?_
    show SS p e below T2 (mkF m 12 #[vr r0, vi (0 : Int32), vr r2] [(.ref r0), (.int (0 : Int32)), (.ref rv), (.ref r2)]) _
    refine st3 _ ?_
    show SS p e below T3 (mkF m 15 #[vr r0, vi (0 : Int32), vr r2] [(.int (0 : Int32)), (.int (0 : Int32)), (.ref rv), (.ref r2)]) _
    refine st4.trans ?_
    show SS p e below T4 (mkF m 18 #[vr r0, vi (0 : Int32), vr r2] []) _
    exact X4.returnOut hx Bd.returns (hb hby d20_18) hr
  · show Q_rm_ps_0_1_16 Z r0 r2 zc rv kv vv rt kt vt h0 n0 _ T4.heap _
    exact ⟨nv_4, rfl, N4, K4, f4_0, f4_1⟩
theorem ef_29 (m : MethodId) (x0 : Addr) : entryFrame m #[(.ref x0), (.int (1 : Int32))] 3 = mkF m 0 #[vr x0, vi (1 : Int32), uu] [] := by first | (simp [entryFrame, mkF, argsToLocals, Value.category]; done) | rfl
theorem d19_0 : decode jdk_68_method_9_code 0 = .ok (.aload_n 0, 1) := by decide +kernel
theorem d19_1 : decode jdk_68_method_9_code 1 = .ok (.getfield 15, 3) := by decide +kernel
theorem d19_4 : decode jdk_68_method_9_code 4 = .ok (.arraylength, 1) := by decide +kernel
theorem d19_5 : decode jdk_68_method_9_code 5 = .ok (.aload_n 0, 1) := by decide +kernel
theorem d19_6 : decode jdk_68_method_9_code 6 = .ok (.getfield 22, 3) := by decide +kernel
theorem d19_9 : decode jdk_68_method_9_code 9 = .ok (.ishr, 1) := by decide +kernel
theorem d19_10 : decode jdk_68_method_9_code 10 = .ok (.istore_n 2, 1) := by decide +kernel
theorem d19_11 : decode jdk_68_method_9_code 11 = .ok (.iload_n 1, 1) := by decide +kernel
theorem d19_12 : decode jdk_68_method_9_code 12 = .ok (.iload_n 2, 1) := by decide +kernel
theorem d19_13 : decode jdk_68_method_9_code 13 = .ok (.isub, 1) := by decide +kernel
theorem d19_14 : decode jdk_68_method_9_code 14 = .ok (.ifCond .le 24, 3) := by decide +kernel
theorem d19_38 : decode jdk_68_method_9_code 38 = .ok (.return_, 1) := by decide +kernel
def Q_rm_ensK_1_16 (Z : State) (r0 : Addr) (rv : Addr) (kv : ClassId) (vv : List Value) (h0 : Heap) (n0 : Nat) (v : Option Value) (h : Heap) (L : List Loc) : Prop := (v = none ∧ Fr n0 L ∧ h = h0)
set_option maxRecDepth 65536 in
set_option maxHeartbeats 40000000 in
theorem rm_ensK_1_16 (l : Launch) (Z : State) (a0 : Array Value) (hw : ∀ d ∈ tables_1, d.before a0 Z = true) (ws : List Jvm.Cond) (r0 : Addr) (rv : Addr) (kv : ClassId) (vv : List Value) (h0 : Heap) (n0 : Nat) (Z0 : n0 ≤ h0.size) (uE : Exa Z h0 r0 "java/lang/StringBuilder") (uv : Fld Z h0 r0 "java/lang/AbstractStringBuilder" "value" "[B" (.ref rv)) (uc : Fld Z h0 r0 "java/lang/AbstractStringBuilder" "coder" "B" (.int (0 : Int32))) (uV : Arv Z h0 rv kv .byte (16 : Int32) vv (.int (0 : Int32))) :
    MetFree l (⟨"java/lang/AbstractStringBuilder", "ensureCapacityInternal", "(I)V"⟩ : MethodName) (head1 (Jvm.Cond.code (⟨"java/lang/AbstractStringBuilder", "ensureCapacityInternal", "(I)V"⟩ : MethodName) jdk_68_method_9_code 3 none :: ws) ({ frames := 0, cells := 0, slots := 0, locals := 0 } : Room)) (fun a U => a = #[(.ref r0), (.int (1 : Int32))] ∧ Z.Warmed39 U.vm ∧ U.heap = h0) (fun _ _ _ _ _ => True) (fun _ U o U' => ∃ v L, o = .returned v ∧ Q_rm_ensK_1_16 Z r0 rv kv vv h0 n0 v U'.heap L ∧ FrameEnd U o U' L ({ frames := 0, cells := 0, slots := 0, locals := 0 } : Room).cells ({ frames := 0, cells := 0, slots := 0, locals := 0 } : Room).slots) := by
  refine MetFree.of_bodySF (plainFor_of_name pn_1) hisR ?_
  intro p e s m args below meth c s₁ Bd hml0 hP hK
  obtain ⟨rfl, hZ, hh⟩ := hP
  have hx := Bd.exec
  have hby := Bd.bytes
  have hml : c.maxLocals = 3 := hml0
  have hown : s.vm.findClass "java/lang/AbstractStringBuilder" = some m.cls := findClass_of_methodNamed Bd.named
  have hnm := (name_of_methodNamed Bd.named Bd.method).1
  have X0 : Stand p l e ({ frames := 0, cells := 0, slots := 0, locals := 0 } : Room) s m #[(.ref r0), (.int (1 : Int32))] below meth c s₁ [] 0 0 := Stand.of_body Bd
  have e0 : s₁.heap = h0 := by rw [← hh, Bd.state]; rfl
  have N0 := Fr.nil n0
  have pre0 : ∀ t, Steps p.tables e below (s₁.setTop (mkF m 0 #[vr r0, vi (1 : Int32), uu] [])) t → Steps p.tables e below (s₁.setTop (entryFrame m #[(.ref r0), (.int (1 : Int32))] 3)) t := fun t k => castTop (ef_29 m r0) k
  obtain ⟨T1, X1, e1, st1⟩ := getF X0 hx hZ hown (host := "") (Or.inl (wd hw 96 rfl)) Via.refl e0 uv (g := (mkF m 1 #[vr r0, vi (1 : Int32), uu] [(.ref r0)])) rfl rfl (hb hby d19_1)
  obtain ⟨cl2, Ar2, q2, S2, Nn2, H2, G2⟩ := (id uV)
  obtain ⟨T3, X3, e3, st3⟩ := getF X1 hx hZ hown (host := "") (Or.inl (wd hw 98 rfl)) Via.refl e1 uc (g := (mkF m 6 #[vr r0, vi (1 : Int32), uu] [(.ref r0), (.int (16 : Int32))])) rfl rfl (hb hby d19_6)
  obtain ⟨fs, hr, hrun, hended, hW, hsame⟩ := X3.leave (v := none) (fun _ => rfl)
  refine ⟨_, _, pre0 _ ?_, hrun, hended, _, _, rfl, ?_, ⟨_, rfl⟩, hW, hsame.mono (by decide) (by decide)⟩
  · show SS p e below s₁ (mkF m 0 #[vr r0, vi (1 : Int32), uu] []) _
    refine XS.aloadN X0.here hx rfl (hb hby d19_0) rfl rfl ?_
    show SS p e below s₁ (mkF m 1 #[vr r0, vi (1 : Int32), uu] [(.ref r0)]) _
    refine st1 _ ?_
    show SS p e below T1 (mkF m 4 #[vr r0, vi (1 : Int32), uu] [(.ref rv)]) _
    refine X1.arraylength hx (own_at e1 Ar2.1) (State.isArrayOf_alike hZ.alike Ar2.2.1) (g := (mkF m 4 #[vr r0, vi (1 : Int32), uu] [(.ref rv)])) rfl rfl (hb hby d19_4) _ ?_
    rw [len_of S2 Nn2]
    show SS p e below T1 (mkF m 5 #[vr r0, vi (1 : Int32), uu] [(.int (16 : Int32))]) _
    refine XS.aloadN X1.here hx rfl (hb hby d19_5) rfl rfl ?_
    show SS p e below T1 (mkF m 6 #[vr r0, vi (1 : Int32), uu] [(.ref r0), (.int (16 : Int32))]) _
    refine st3 _ ?_
    show SS p e below T3 (mkF m 9 #[vr r0, vi (1 : Int32), uu] [(.int (0 : Int32)), (.int (16 : Int32))]) _
    refine XS.ishr X3.here hx rfl (hb hby d19_9) rfl ?_
    show SS p e below T3 (mkF m 10 #[vr r0, vi (1 : Int32), uu] [(.int ((16 : Int32) >>> ((0 : Int32) &&& 31)))]) _
    rw [own_shr0 _]
    show SS p e below T3 (mkF m 10 #[vr r0, vi (1 : Int32), uu] [(.int (16 : Int32))]) _
    refine XS.istoreN X3.here hx rfl (hb hby d19_10) rfl (l' := #[vr r0, vi (1 : Int32), vi (16 : Int32)]) rfl ?_
    show SS p e below T3 (mkF m 11 #[vr r0, vi (1 : Int32), vi (16 : Int32)] []) _
    refine XS.iloadN X3.here hx rfl (hb hby d19_11) rfl ?_
    show SS p e below T3 (mkF m 12 #[vr r0, vi (1 : Int32), vi (16 : Int32)] [(.int (1 : Int32))]) _
    refine XS.iloadN X3.here hx rfl (hb hby d19_12) rfl ?_
    show SS p e below T3 (mkF m 13 #[vr r0, vi (1 : Int32), vi (16 : Int32)] [(.int (16 : Int32)), (.int (1 : Int32))]) _
    refine XS.isub X3.here hx rfl (hb hby d19_13) rfl ?_
    show SS p e below T3 (mkF m 14 #[vr r0, vi (1 : Int32), vi (16 : Int32)] [(.int ((1 : Int32) - (16 : Int32)))]) _
    refine XS.ifYes X3.here hx rfl (pc0 := 14) (pc' := 38) rfl (hb hby d19_14) rfl ((if0 _ _).trans (flt (by decide : ¬ ((0 : Int32) < ((1 : Int32) - (16 : Int32))))).2.2.2) (by decide) (by decide) ?_
    show SS p e below T3 (mkF m 38 #[vr r0, vi (1 : Int32), vi (16 : Int32)] []) _
    exact X3.returnOut hx Bd.returns (hb hby d19_38) hr
  · show Q_rm_ensK_1_16 Z r0 rv kv vv h0 n0 _ T3.heap _
    rw [e3]
    exact ⟨rfl, N0, rfl⟩
theorem ef_30 (m : MethodId) (x0 : Addr) (x1 : Addr) : entryFrame m #[(.ref x0), (.ref x1)] 3 = mkF m 0 #[vr x0, vr x1, uu] [] := by first | (simp [entryFrame, mkF, argsToLocals, Value.category]; done) | rfl
theorem d16_0 : decode jdk_68_method_22_code 0 = .ok (.aload_n 1, 1) := by decide +kernel
theorem d16_1 : decode jdk_68_method_22_code 1 = .ok (.ifnonnull 8, 3) := by decide +kernel
theorem d16_9 : decode jdk_68_method_22_code 9 = .ok (.aload_n 1, 1) := by decide +kernel
theorem d16_10 : decode jdk_68_method_22_code 10 = .ok (.invokevirtual 32, 3) := by decide +kernel
theorem d16_13 : decode jdk_68_method_22_code 13 = .ok (.istore_n 2, 1) := by decide +kernel
theorem d16_14 : decode jdk_68_method_22_code 14 = .ok (.aload_n 0, 1) := by decide +kernel
theorem d16_15 : decode jdk_68_method_22_code 15 = .ok (.aload_n 0, 1) := by decide +kernel
theorem d16_16 : decode jdk_68_method_22_code 16 = .ok (.getfield 79, 3) := by decide +kernel
theorem d16_19 : decode jdk_68_method_22_code 19 = .ok (.iload_n 2, 1) := by decide +kernel
theorem d16_20 : decode jdk_68_method_22_code 20 = .ok (.iadd, 1) := by decide +kernel
theorem d16_21 : decode jdk_68_method_22_code 21 = .ok (.invokevirtual 100, 3) := by decide +kernel
theorem d16_24 : decode jdk_68_method_22_code 24 = .ok (.aload_n 0, 1) := by decide +kernel
theorem d16_25 : decode jdk_68_method_22_code 25 = .ok (.aload_n 0, 1) := by decide +kernel
theorem d16_26 : decode jdk_68_method_22_code 26 = .ok (.getfield 79, 3) := by decide +kernel
theorem d16_29 : decode jdk_68_method_22_code 29 = .ok (.aload_n 1, 1) := by decide +kernel
theorem d16_30 : decode jdk_68_method_22_code 30 = .ok (.invokevirtual 208, 3) := by decide +kernel
theorem pd_12 : parseMethodDescriptor "(ILjava/lang/String;)V" = some ⟨[.int, (.object "java/lang/String")], none⟩ := by decide +kernel
theorem d16_33 : decode jdk_68_method_22_code 33 = .ok (.aload_n 0, 1) := by decide +kernel
theorem d16_34 : decode jdk_68_method_22_code 34 = .ok (.dup, 1) := by decide +kernel
theorem d16_35 : decode jdk_68_method_22_code 35 = .ok (.getfield 79, 3) := by decide +kernel
theorem d16_38 : decode jdk_68_method_22_code 38 = .ok (.iload_n 2, 1) := by decide +kernel
theorem d16_39 : decode jdk_68_method_22_code 39 = .ok (.iadd, 1) := by decide +kernel
theorem d16_40 : decode jdk_68_method_22_code 40 = .ok (.putfield 79, 3) := by decide +kernel
theorem d16_43 : decode jdk_68_method_22_code 43 = .ok (.aload_n 0, 1) := by decide +kernel
theorem d16_44 : decode jdk_68_method_22_code 44 = .ok (.areturn, 1) := by decide +kernel
def Q_rm_app_asb_0_1_16 (Z : State) (r0 : Addr) (r1 : Addr) (zc : Int32) (rv : Addr) (kv : ClassId) (vv : List Value) (rt : Addr) (kt : ClassId) (vt : List Value) (h0 : Heap) (n0 : Nat) (v : Option Value) (h : Heap) (L : List Loc) : Prop := ∃ (nv : List Value), (v = some (.ref r0) ∧ Fr n0 L ∧ Keep h0 h [r0, rv] ∧ Fld Z h r0 "java/lang/AbstractStringBuilder" "value" "[B" (.ref rv) ∧ Fld Z h r0 "java/lang/AbstractStringBuilder" "coder" "B" (.int (0 : Int32)) ∧ Fld Z h r0 "java/lang/AbstractStringBuilder" "count" "I" (.int (1 : Int32)) ∧ Arv Z h rv kv .byte (16 : Int32) nv (.int (0 : Int32)) ∧ nv.length = 16)
set_option maxRecDepth 65536 in
set_option maxHeartbeats 40000000 in
theorem rm_app_asb_0_1_16 (l : Launch) (Z : State) (a0 : Array Value) (hw : ∀ d ∈ tables_1, d.before a0 Z = true) (ws : List Jvm.Cond) (r0 : Addr) (r1 : Addr) (zc : Int32) (rv : Addr) (kv : ClassId) (vv : List Value) (rt : Addr) (kt : ClassId) (vt : List Value) (h0 : Heap) (n0 : Nat) (Z0 : n0 ≤ h0.size) (uO : Old Z n0 h0) (uS : Sta Z Z.heap "java/lang/String" "COMPACT_STRINGS" "Z" (.int zc)) (uP : ¬ zc = 0) (uE : Exa Z h0 r0 "java/lang/StringBuilder") (uv : Fld Z h0 r0 "java/lang/AbstractStringBuilder" "value" "[B" (.ref rv)) (uc : Fld Z h0 r0 "java/lang/AbstractStringBuilder" "coder" "B" (.int (0 : Int32))) (uV : Arv Z h0 rv kv .byte (16 : Int32) vv (.int (0 : Int32))) (uL : vv.length = 16) (uk : Fld Z h0 r0 "java/lang/AbstractStringBuilder" "count" "I" (.int (0 : Int32))) (us : Exa Z h0 r1 "java/lang/String") (usv : Fld Z h0 r1 "java/lang/String" "value" "[B" (.ref rt)) (usc : Fld Z h0 r1 "java/lang/String" "coder" "B" (.int (0 : Int32))) (usV : Arv Z h0 rt kt .byte (1 : Int32) vt (.int (0 : Int32))) (ug : n0 ≤ r0) (ugv : n0 ≤ rv) :
    MetFree l (⟨"java/lang/AbstractStringBuilder", "append", "(Ljava/lang/String;)Ljava/lang/AbstractStringBuilder;"⟩ : MethodName) (head1 (Jvm.Cond.code (⟨"java/lang/AbstractStringBuilder", "append", "(Ljava/lang/String;)Ljava/lang/AbstractStringBuilder;"⟩ : MethodName) jdk_68_method_22_code 3 (some (.object "java/lang/AbstractStringBuilder")) :: ws) ({ frames := 3, cells := 0, slots := 0, locals := 47 } : Room)) (fun a U => a = #[(.ref r0), (.ref r1)] ∧ Z.Warmed39 U.vm ∧ U.heap = h0) (fun _ _ _ _ _ => True) (fun _ U o U' => ∃ v L, o = .returned v ∧ Q_rm_app_asb_0_1_16 Z r0 r1 zc rv kv vv rt kt vt h0 n0 v U'.heap L ∧ FrameEnd U o U' L ({ frames := 3, cells := 0, slots := 0, locals := 47 } : Room).cells ({ frames := 3, cells := 0, slots := 0, locals := 47 } : Room).slots) := by
  refine MetFree.of_bodySF (plainFor_of_name pn_1) hisR ?_
  intro p e s m args below meth c s₁ Bd hml0 hP hK
  obtain ⟨rfl, hZ, hh⟩ := hP
  have hx := Bd.exec
  have hby := Bd.bytes
  have hml : c.maxLocals = 3 := hml0
  have hown : s.vm.findClass "java/lang/AbstractStringBuilder" = some m.cls := findClass_of_methodNamed Bd.named
  have hnm := (name_of_methodNamed Bd.named Bd.method).1
  have X0 : Stand p l e ({ frames := 3, cells := 0, slots := 0, locals := 47 } : Room) s m #[(.ref r0), (.ref r1)] below meth c s₁ [] 0 0 := Stand.of_body Bd
  have e0 : s₁.heap = h0 := by rw [← hh, Bd.state]; rfl
  have N0 := Fr.nil n0
  have pre0 : ∀ t, Steps p.tables e below (s₁.setTop (mkF m 0 #[vr r0, vr r1, uu] [])) t → Steps p.tables e below (s₁.setTop (entryFrame m #[(.ref r0), (.ref r1)] 3)) t := fun t k => castTop (ef_30 m r0 r1) k
  obtain ⟨cq1, kq1, q1a, q1b, q1c⟩ := isOf hZ e0 us
  obtain ⟨_, _, ⟨T1, Lw1, kw1, nw1⟩, -, X1, ⟨Lc1, hQ1, lq1, yq1, zq1⟩, st1⟩ := X0.virtualBack hx (y := (⟨"java/lang/String", "length", "()I"⟩ : MethodName)) (z := (⟨"java/lang/String", "length", "()I"⟩ : MethodName)) hown (mvT hZ (wd hw 110 rfl)) (mvT hZ (wd hw 111 rfl)) (notFace_of_selects (args := #[]) (mvT hZ (wd hw 113 rfl))) (mvT hZ (wd hw 113 rfl)) (mvT hZ (wd hw 112 rfl)) (by decide) (backOf (W := 0) (rmLen l Z a0 hw [] r1 zc rt kt (1 : Int32) vt h0 n0 Z0 uO uS uP us usv usc usV) hZ (wd hw 114 rfl) (wd hw 14 rfl) (by decide) (by decide)) q1a q1c (g := (mkF m 10 #[vr r0, vr r1, uu] [(.ref r1)])) rfl (by rw [hml]; rfl) (Steps.refl _) (argsL := []) (rest := []) (lenOf pd_2 rfl) rfl (by show 2 * 0 + _ ≤ _; exact Nat.le_of_eq rfl) (hb hby d16_10) (fun _ _ => ⟨rfl, e0, (by decide : 0 + 0 ≤ _), (by decide : 0 + 0 ≤ _)⟩)
  dsimp only [Pt.U, Pt.locs, Pt.cells, Pt.slots] at X1 lq1 yq1 zq1 st1 hQ1
  have X1 := own_reb X1 lq1 yq1 zq1
  obtain ⟨rfl, Nq1, eh1⟩ := hQ1
  have N1 := Fr.app N0 Nq1
  obtain ⟨T2, X2, e2, st2⟩ := getF X1 hx hZ hown (host := "") (Or.inl (wd hw 123 rfl)) Via.refl eh1 uk (g := (mkF m 16 #[vr r0, vr r1, vi (1 : Int32)] [(.ref r0), (.ref r0)])) rfl rfl (hb hby d16_16)
  obtain ⟨cq3, kq3, q3a, q3b, q3c⟩ := isOf hZ e2 uE
  obtain ⟨_, _, ⟨T3, Lw3, kw3, nw3⟩, -, X3, ⟨Lc3, hQ3, lq3, yq3, zq3⟩, st3⟩ := X2.virtualBack hx (y := (⟨"java/lang/AbstractStringBuilder", "ensureCapacityInternal", "(I)V"⟩ : MethodName)) (z := (⟨"java/lang/AbstractStringBuilder", "ensureCapacityInternal", "(I)V"⟩ : MethodName)) hown (mvT hZ (wd hw 125 rfl)) (mvT hZ (own_decl (wd hw 126 rfl) (wd hw 129 rfl))) (notFace_of_selects (args := #[]) (mvT hZ (wd hw 128 rfl))) (mvT hZ (wd hw 128 rfl)) (mvT hZ (wd hw 126 rfl)) (by decide) (backOf (W := 0) (rm_ensK_1_16 l Z a0 hw [] r0 rv kv vv h0 n0 Z0 uE uv uc uV) hZ (wd hw 129 rfl) (wd hw 92 rfl) (by decide) (by decide)) q3a q3c (g := (mkF m 21 #[vr r0, vr r1, vi (1 : Int32)] [(.int (1 : Int32)), (.ref r0)])) rfl (by rw [hml]; rfl) (Steps.refl _) (argsL := [(.int (1 : Int32))]) (rest := []) (lenOf pd_1 rfl) rfl (by show 2 * 0 + _ ≤ _; exact Nat.le_of_eq rfl) (hb hby d16_21) (fun _ _ => ⟨rfl, e2, (by decide : 0 + 0 ≤ _), (by decide : 0 + 0 ≤ _)⟩)
  dsimp only [Pt.U, Pt.locs, Pt.cells, Pt.slots] at X3 lq3 yq3 zq3 st3 hQ3
  have X3 := own_reb X3 lq3 yq3 zq3
  obtain ⟨rfl, Nq3, eh3⟩ := hQ3
  have N3 := Fr.app N1 Nq3
  obtain ⟨T4, X4, e4, st4⟩ := getF X3 hx hZ hown (host := "") (Or.inl (wd hw 123 rfl)) Via.refl eh3 uk (g := (mkF m 26 #[vr r0, vr r1, vi (1 : Int32)] [(.ref r0), (.ref r0)])) rfl rfl (hb hby d16_26)
  obtain ⟨cq5, kq5, q5a, q5b, q5c⟩ := isOf hZ e4 uE
  obtain ⟨_, _, ⟨T5, Lw5, kw5, nw5⟩, -, X5, ⟨Lc5, hQ5, lq5, yq5, zq5⟩, st5⟩ := X4.virtualBack hx (y := (⟨"java/lang/AbstractStringBuilder", "putStringAt", "(ILjava/lang/String;)V"⟩ : MethodName)) (z := (⟨"java/lang/AbstractStringBuilder", "putStringAt", "(ILjava/lang/String;)V"⟩ : MethodName)) hown (mvT hZ (wd hw 130 rfl)) (mvT hZ (own_decl (wd hw 131 rfl) (wd hw 134 rfl))) (notFace_of_selects (args := #[]) (mvT hZ (wd hw 133 rfl))) (mvT hZ (wd hw 133 rfl)) (mvT hZ (wd hw 131 rfl)) (by decide) (backOf (W := 0) (rm_ps_0_1_16 l Z a0 hw [] r0 r1 zc rv kv vv rt kt vt h0 n0 Z0 uO uS uP uE uv uc uV uL us usv usc usV ugv) hZ (wd hw 134 rfl) (wd hw 92 rfl) (by decide) (by decide)) q5a q5c (g := (mkF m 30 #[vr r0, vr r1, vi (1 : Int32)] [(.ref r1), (.int (0 : Int32)), (.ref r0)])) rfl (by rw [hml]; rfl) (Steps.refl _) (argsL := [(.int (0 : Int32)), (.ref r1)]) (rest := []) (lenOf pd_12 rfl) rfl (by show 2 * 0 + _ ≤ _; exact Nat.le_of_eq rfl) (hb hby d16_30) (fun _ _ => ⟨rfl, e4, (by decide : 0 + 0 ≤ _), (by decide : 0 + 0 ≤ _)⟩)
  dsimp only [Pt.U, Pt.locs, Pt.cells, Pt.slots] at X5 lq5 yq5 zq5 st5 hQ5
  have X5 := own_reb X5 lq5 yq5 zq5
  obtain ⟨nv_5, rfl, Nq5, Kq5, f5_0, f5_1⟩ := hQ5
  have N5 := Fr.app N3 Nq5
  have K5 : Keep h0 T5.heap [r0, rv] := (Keep.refl h0 [r0, rv]).trans Kq5 (allS (Or.inl (List.mem_of_getElem? (i := 1) rfl)) all0)
  have Z5 : n0 ≤ T5.heap.size := Nat.le_trans Z0 Kq5.1
  have c7 := (uk.keep Kq5 (ninS (Exa.neArv uE uV (wd hw 83 rfl)) nin0))
  obtain ⟨T6, X6, e6, st6⟩ := getF X5 hx hZ hown (host := "") (Or.inl (wd hw 123 rfl)) Via.refl rfl c7 (g := (mkF m 35 #[vr r0, vr r1, vi (1 : Int32)] [(.ref r0), (.ref r0)])) rfl rfl (hb hby d16_35)
  have c9 := (uE.keep Kq5)
  obtain ⟨T8, h8, X8, e8, W8, st8⟩ := putF X6 hx hZ hown (host := "") (Or.inl (wd hw 123 rfl)) Via.refl e6 c7 c9 (Or.inl (wd hw 124 rfl)) (wd hw 83 rfl) (ty := .int) (by decide) rfl rfl (g := (mkF m 40 #[vr r0, vr r1, vi (1 : Int32)] [(.int (1 : Int32)), (.ref r0)])) rfl rfl (hb hby d16_40)
  have Fw8 := c7.same W8
  have N8 := Fr.snoc X8 N5 ug
  have K8 : Keep h0 h8 [r0, rv] := K5.wr W8 (Or.inl (List.mem_of_getElem? (i := 0) rfl))
  have Z8 : n0 ≤ h8.size := by rw [W8.size]; exact Z5
  have c10 := ((uv.keep Kq5 (ninS (Exa.neArv uE uV (wd hw 83 rfl)) nin0)).other W8 (Or.inr (slot_ne (Or.inl (wd hw 97 rfl)) (Or.inl (wd hw 124 rfl)) (by decide) (t := (.array .byte)) (t' := .int) (by decide) (by decide))))
  have c11 := ((uc.keep Kq5 (ninS (Exa.neArv uE uV (wd hw 83 rfl)) nin0)).other W8 (Or.inr (slot_ne (Or.inl (wd hw 99 rfl)) (Or.inl (wd hw 124 rfl)) (by decide) (t := .byte) (t' := .int) (by decide) (by decide))))
  have c12 := (f5_0.other W8 (Ne.symm (Exa.neArv uE uV (wd hw 83 rfl))))
  obtain ⟨fs, hr, hrun, hended, hW, hsame⟩ := X8.leave (v := some (.ref r0)) (fun h => by rw [Bd.returns] at h; cases h)
  refine ⟨_, _, pre0 _ ?_, hrun, hended, _, _, rfl, ?_, ⟨_, rfl⟩, hW, hsame.mono (by decide) (by decide)⟩
  · show SS p e below s₁ (mkF m 0 #[vr r0, vr r1, uu] []) _
    refine XS.aloadN X0.here hx rfl (hb hby d16_0) rfl rfl ?_
    show SS p e below s₁ (mkF m 1 #[vr r0, vr r1, uu] [(.ref r1)]) _
    refine XS.ifnonnullYes X0.here hx rfl (pc0 := 1) (pc' := 9) rfl (hb hby d16_1) rfl (by decide) (by decide) ?_
    show SS p e below s₁ (mkF m 9 #[vr r0, vr r1, uu] []) _
    refine XS.aloadN X0.here hx rfl (hb hby d16_9) rfl rfl ?_
    show SS p e below s₁ (mkF m 10 #[vr r0, vr r1, uu] [(.ref r1)]) _
    refine st1.trans ?_
    show SS p e below T1 (mkF m 13 #[vr r0, vr r1, uu] [(.int (1 : Int32))]) _
    refine XS.istoreN X1.here hx rfl (hb hby d16_13) rfl (l' := #[vr r0, vr r1, vi (1 : Int32)]) rfl ?_
    show SS p e below T1 (mkF m 14 #[vr r0, vr r1, vi (1 : Int32)] []) _
    refine XS.aloadN X1.here hx rfl (hb hby d16_14) rfl rfl ?_
    show SS p e below T1 (mkF m 15 #[vr r0, vr r1, vi (1 : Int32)] [(.ref r0)]) _
    refine XS.aloadN X1.here hx rfl (hb hby d16_15) rfl rfl ?_
    show SS p e below T1 (mkF m 16 #[vr r0, vr r1, vi (1 : Int32)] [(.ref r0), (.ref r0)]) _
    refine st2 _ ?_
    show SS p e below T2 (mkF m 19 #[vr r0, vr r1, vi (1 : Int32)] [(.int (0 : Int32)), (.ref r0)]) _
    refine XS.iloadN X2.here hx rfl (hb hby d16_19) rfl ?_
    show SS p e below T2 (mkF m 20 #[vr r0, vr r1, vi (1 : Int32)] [(.int (1 : Int32)), (.int (0 : Int32)), (.ref r0)]) _
    refine XS.iadd X2.here hx rfl (hb hby d16_20) rfl ?_
    show SS p e below T2 (mkF m 21 #[vr r0, vr r1, vi (1 : Int32)] [(.int ((0 : Int32) + (1 : Int32))), (.ref r0)]) _
    rw [(show ((0 : Int32) + (1 : Int32)) = (1 : Int32) from by decide)]
    show SS p e below T2 (mkF m 21 #[vr r0, vr r1, vi (1 : Int32)] [(.int (1 : Int32)), (.ref r0)]) _
    refine st3.trans ?_
    show SS p e below T3 (mkF m 24 #[vr r0, vr r1, vi (1 : Int32)] []) _
    refine XS.aloadN X3.here hx rfl (hb hby d16_24) rfl rfl ?_
    show SS p e below T3 (mkF m 25 #[vr r0, vr r1, vi (1 : Int32)] [(.ref r0)]) _
    refine XS.aloadN X3.here hx rfl (hb hby d16_25) rfl rfl ?_
    show SS p e below T3 (mkF m 26 #[vr r0, vr r1, vi (1 : Int32)] [(.ref r0), (.ref r0)]) _
    refine st4 _ ?_
    show SS p e below T4 (mkF m 29 #[vr r0, vr r1, vi (1 : Int32)] [(.int (0 : Int32)), (.ref r0)]) _
    refine XS.aloadN X4.here hx rfl (hb hby d16_29) rfl rfl ?_
    show SS p e below T4 (mkF m 30 #[vr r0, vr r1, vi (1 : Int32)] [(.ref r1), (.int (0 : Int32)), (.ref r0)]) _
    refine st5.trans ?_
    show SS p e below T5 (mkF m 33 #[vr r0, vr r1, vi (1 : Int32)] []) _
    refine XS.aloadN X5.here hx rfl (hb hby d16_33) rfl rfl ?_
    show SS p e below T5 (mkF m 34 #[vr r0, vr r1, vi (1 : Int32)] [(.ref r0)]) _
    refine XS.dup X5.here hx rfl (hb hby d16_34) rfl rfl ?_
    show SS p e below T5 (mkF m 35 #[vr r0, vr r1, vi (1 : Int32)] [(.ref r0), (.ref r0)]) _
    refine st6 _ ?_
    show SS p e below T6 (mkF m 38 #[vr r0, vr r1, vi (1 : Int32)] [(.int (0 : Int32)), (.ref r0)]) _
    refine XS.iloadN X6.here hx rfl (hb hby d16_38) rfl ?_
    show SS p e below T6 (mkF m 39 #[vr r0, vr r1, vi (1 : Int32)] [(.int (1 : Int32)), (.int (0 : Int32)), (.ref r0)]) _
    refine XS.iadd X6.here hx rfl (hb hby d16_39) rfl ?_
    show SS p e below T6 (mkF m 40 #[vr r0, vr r1, vi (1 : Int32)] [(.int ((0 : Int32) + (1 : Int32))), (.ref r0)]) _
    rw [(show ((0 : Int32) + (1 : Int32)) = (1 : Int32) from by decide)]
    show SS p e below T6 (mkF m 40 #[vr r0, vr r1, vi (1 : Int32)] [(.int (1 : Int32)), (.ref r0)]) _
    refine st8 _ ?_
    show SS p e below T8 (mkF m 43 #[vr r0, vr r1, vi (1 : Int32)] []) _
    refine XS.aloadN X8.here hx rfl (hb hby d16_43) rfl rfl ?_
    show SS p e below T8 (mkF m 44 #[vr r0, vr r1, vi (1 : Int32)] [(.ref r0)]) _
    exact retOut X8 hx Bd.returns rfl (Or.inr (Or.inr (Or.inr (Or.inr ⟨rfl, rfl, rfl⟩)))) (hb hby d16_44) hr
  · show Q_rm_app_asb_0_1_16 Z r0 r1 zc rv kv vv rt kt vt h0 n0 _ T8.heap _
    rw [e8]
    exact ⟨nv_5, rfl, N8, K8, c10, c11, Fw8, c12, f5_1⟩
theorem ef_31 (m : MethodId) (x0 : Addr) (x1 : Addr) : entryFrame m #[(.ref x0), (.ref x1)] 2 = mkF m 0 #[vr x0, vr x1] [] := by first | (simp [entryFrame, mkF, argsToLocals, Value.category]; done) | rfl
theorem d15_0 : decode jdk_67_method_7_code 0 = .ok (.aload_n 0, 1) := by decide +kernel
theorem d15_1 : decode jdk_67_method_7_code 1 = .ok (.aload_n 1, 1) := by decide +kernel
theorem d15_2 : decode jdk_67_method_7_code 2 = .ok (.invokespecial 29, 3) := by decide +kernel
theorem pd_13 : parseMethodDescriptor "(Ljava/lang/String;)Ljava/lang/AbstractStringBuilder;" = some ⟨[(.object "java/lang/String")], some (.object "java/lang/AbstractStringBuilder")⟩ := by decide +kernel
theorem d15_5 : decode jdk_67_method_7_code 5 = .ok (.pop, 1) := by decide +kernel
theorem d15_6 : decode jdk_67_method_7_code 6 = .ok (.aload_n 0, 1) := by decide +kernel
theorem d15_7 : decode jdk_67_method_7_code 7 = .ok (.areturn, 1) := by decide +kernel
def Q_rm_app_sb_0_1_16 (Z : State) (r0 : Addr) (r1 : Addr) (zc : Int32) (rv : Addr) (kv : ClassId) (vv : List Value) (rt : Addr) (kt : ClassId) (vt : List Value) (h0 : Heap) (n0 : Nat) (v : Option Value) (h : Heap) (L : List Loc) : Prop := ∃ (nv : List Value), (v = some (.ref r0) ∧ Fr n0 L ∧ Keep h0 h [r0, rv] ∧ Fld Z h r0 "java/lang/AbstractStringBuilder" "value" "[B" (.ref rv) ∧ Fld Z h r0 "java/lang/AbstractStringBuilder" "coder" "B" (.int (0 : Int32)) ∧ Fld Z h r0 "java/lang/AbstractStringBuilder" "count" "I" (.int (1 : Int32)) ∧ Arv Z h rv kv .byte (16 : Int32) nv (.int (0 : Int32)) ∧ nv.length = 16)
set_option maxRecDepth 65536 in
set_option maxHeartbeats 40000000 in
theorem rm_app_sb_0_1_16 (l : Launch) (Z : State) (a0 : Array Value) (hw : ∀ d ∈ tables_1, d.before a0 Z = true) (ws : List Jvm.Cond) (r0 : Addr) (r1 : Addr) (zc : Int32) (rv : Addr) (kv : ClassId) (vv : List Value) (rt : Addr) (kt : ClassId) (vt : List Value) (h0 : Heap) (n0 : Nat) (Z0 : n0 ≤ h0.size) (uO : Old Z n0 h0) (uS : Sta Z Z.heap "java/lang/String" "COMPACT_STRINGS" "Z" (.int zc)) (uP : ¬ zc = 0) (uE : Exa Z h0 r0 "java/lang/StringBuilder") (uv : Fld Z h0 r0 "java/lang/AbstractStringBuilder" "value" "[B" (.ref rv)) (uc : Fld Z h0 r0 "java/lang/AbstractStringBuilder" "coder" "B" (.int (0 : Int32))) (uV : Arv Z h0 rv kv .byte (16 : Int32) vv (.int (0 : Int32))) (uL : vv.length = 16) (uk : Fld Z h0 r0 "java/lang/AbstractStringBuilder" "count" "I" (.int (0 : Int32))) (us : Exa Z h0 r1 "java/lang/String") (usv : Fld Z h0 r1 "java/lang/String" "value" "[B" (.ref rt)) (usc : Fld Z h0 r1 "java/lang/String" "coder" "B" (.int (0 : Int32))) (usV : Arv Z h0 rt kt .byte (1 : Int32) vt (.int (0 : Int32))) (ug : n0 ≤ r0) (ugv : n0 ≤ rv) :
    MetFree l (⟨"java/lang/StringBuilder", "append", "(Ljava/lang/String;)Ljava/lang/StringBuilder;"⟩ : MethodName) (head1 (Jvm.Cond.code (⟨"java/lang/StringBuilder", "append", "(Ljava/lang/String;)Ljava/lang/StringBuilder;"⟩ : MethodName) jdk_67_method_7_code 2 (some (.object "java/lang/StringBuilder")) :: ws) ({ frames := 4, cells := 0, slots := 0, locals := 61 } : Room)) (fun a U => a = #[(.ref r0), (.ref r1)] ∧ Z.Warmed39 U.vm ∧ U.heap = h0) (fun _ _ _ _ _ => True) (fun _ U o U' => ∃ v L, o = .returned v ∧ Q_rm_app_sb_0_1_16 Z r0 r1 zc rv kv vv rt kt vt h0 n0 v U'.heap L ∧ FrameEnd U o U' L ({ frames := 4, cells := 0, slots := 0, locals := 61 } : Room).cells ({ frames := 4, cells := 0, slots := 0, locals := 61 } : Room).slots) := by
  refine MetFree.of_bodySF (plainFor_of_name pn_2) hisR ?_
  intro p e s m args below meth c s₁ Bd hml0 hP hK
  obtain ⟨rfl, hZ, hh⟩ := hP
  have hx := Bd.exec
  have hby := Bd.bytes
  have hml : c.maxLocals = 2 := hml0
  have hown : s.vm.findClass "java/lang/StringBuilder" = some m.cls := findClass_of_methodNamed Bd.named
  have hnm := (name_of_methodNamed Bd.named Bd.method).1
  have X0 : Stand p l e ({ frames := 4, cells := 0, slots := 0, locals := 61 } : Room) s m #[(.ref r0), (.ref r1)] below meth c s₁ [] 0 0 := Stand.of_body Bd
  have e0 : s₁.heap = h0 := by rw [← hh, Bd.state]; rfl
  have N0 := Fr.nil n0
  have pre0 : ∀ t, Steps p.tables e below (s₁.setTop (mkF m 0 #[vr r0, vr r1] [])) t → Steps p.tables e below (s₁.setTop (entryFrame m #[(.ref r0), (.ref r1)] 2)) t := fun t k => castTop (ef_31 m r0 r1) k
  obtain ⟨_, _, ⟨T1, Lw1, kw1, nw1⟩, -, X1, ⟨Lc1, hQ1, lq1, yq1, zq1⟩, st1⟩ := superBack X0 hx hZ (y := (⟨"java/lang/AbstractStringBuilder", "append", "(Ljava/lang/String;)Ljava/lang/AbstractStringBuilder;"⟩ : MethodName)) hown (wd hw 105 rfl) (own_same (wd hw 106 rfl) (own_face (wd hw 128 rfl) rfl) (by decide)) (wd hw 106 rfl) (wd hw 107 rfl) (by decide) (backOf (W := 0) (rm_app_asb_0_1_16 l Z a0 hw [] r0 r1 zc rv kv vv rt kt vt h0 n0 Z0 uO uS uP uE uv uc uV uL uk us usv usc usV ug ugv) hZ (wd hw 109 rfl) (wd hw 92 rfl) (by decide) (by decide)) e0 (Ins.self uE) (g := (mkF m 2 #[vr r0, vr r1] [(.ref r1), (.ref r0)])) rfl (by rw [hml]; rfl) (wd hw 109 rfl) (argsL := [(.ref r1)]) (rest := []) (lenOf pd_13 rfl) rfl (by show 2 * 0 + _ ≤ _; exact Nat.le_of_eq rfl) (hb hby d15_2) (fun _ _ => ⟨rfl, e0, (by decide : 0 + 0 ≤ _), (by decide : 0 + 0 ≤ _)⟩)
  dsimp only [Pt.U, Pt.locs, Pt.cells, Pt.slots] at X1 lq1 yq1 zq1 st1 hQ1
  have X1 := own_reb X1 lq1 yq1 zq1
  obtain ⟨nv_1, rfl, Nq1, Kq1, f1_0, f1_1, f1_2, f1_3, f1_4⟩ := hQ1
  have N1 := Fr.app N0 Nq1
  have K1 : Keep h0 T1.heap [r0, rv] := (Keep.refl h0 [r0, rv]).trans Kq1 (allS (Or.inl (List.mem_of_getElem? (i := 0) rfl)) (allS (Or.inl (List.mem_of_getElem? (i := 1) rfl)) all0))
  have Z1 : n0 ≤ T1.heap.size := Nat.le_trans Z0 Kq1.1
  obtain ⟨fs, hr, hrun, hended, hW, hsame⟩ := X1.leave (v := some (.ref r0)) (fun h => by rw [Bd.returns] at h; cases h)
  refine ⟨_, _, pre0 _ ?_, hrun, hended, _, _, rfl, ?_, ⟨_, rfl⟩, hW, hsame.mono (by decide) (by decide)⟩
  · show SS p e below s₁ (mkF m 0 #[vr r0, vr r1] []) _
    refine XS.aloadN X0.here hx rfl (hb hby d15_0) rfl rfl ?_
    show SS p e below s₁ (mkF m 1 #[vr r0, vr r1] [(.ref r0)]) _
    refine XS.aloadN X0.here hx rfl (hb hby d15_1) rfl rfl ?_
    show SS p e below s₁ (mkF m 2 #[vr r0, vr r1] [(.ref r1), (.ref r0)]) _
    refine st1.trans ?_
    show SS p e below T1 (mkF m 5 #[vr r0, vr r1] [(.ref r0)]) _
    refine XS.pop X1.here hx rfl (hb hby d15_5) rfl rfl ?_
    show SS p e below T1 (mkF m 6 #[vr r0, vr r1] []) _
    refine XS.aloadN X1.here hx rfl (hb hby d15_6) rfl rfl ?_
    show SS p e below T1 (mkF m 7 #[vr r0, vr r1] [(.ref r0)]) _
    exact retOut X1 hx Bd.returns rfl (Or.inr (Or.inr (Or.inr (Or.inr ⟨rfl, rfl, rfl⟩)))) (hb hby d15_7) hr
  · show Q_rm_app_sb_0_1_16 Z r0 r1 zc rv kv vv rt kt vt h0 n0 _ T1.heap _
    exact ⟨nv_1, rfl, N1, K1, f1_0, f1_1, f1_2, f1_3, f1_4⟩
theorem ef_32 (m : MethodId) (x0 : Addr) (x1 : Addr) : entryFrame m #[(.ref x0), (.ref x1), (.int (1 : Int32)), (.int (0 : Int32))] 4 = mkF m 0 #[vr x0, vr x1, vi (1 : Int32), vi (0 : Int32)] [] := by first | (simp [entryFrame, mkF, argsToLocals, Value.category]; done) | rfl
def Q_rm_gb_1_23_34 (Z : State) (r0 : Addr) (r1 : Addr) (zc : Int32) (rt : Addr) (kt : ClassId) (vt : List Value) (kd : ClassId) (vd : List Value) (h0 : Heap) (n0 : Nat) (v : Option Value) (h : Heap) (L : List Loc) : Prop := ∃ (nv : List Value), (v = none ∧ Fr n0 L ∧ Keep h0 h [r1] ∧ Arv Z h r1 kd .byte (34 : Int32) nv (.int (0 : Int32)) ∧ nv.length = 34)
set_option maxRecDepth 65536 in
set_option maxHeartbeats 40000000 in
theorem rm_gb_1_23_34 (l : Launch) (Z : State) (a0 : Array Value) (hw : ∀ d ∈ tables_1, d.before a0 Z = true) (ws : List Jvm.Cond) (r0 : Addr) (r1 : Addr) (zc : Int32) (rt : Addr) (kt : ClassId) (vt : List Value) (kd : ClassId) (vd : List Value) (h0 : Heap) (n0 : Nat) (Z0 : n0 ≤ h0.size) (uO : Old Z n0 h0) (uS : Sta Z Z.heap "java/lang/String" "COMPACT_STRINGS" "Z" (.int zc)) (uP : ¬ zc = 0) (us : Exa Z h0 r0 "java/lang/String") (usv : Fld Z h0 r0 "java/lang/String" "value" "[B" (.ref rt)) (usc : Fld Z h0 r0 "java/lang/String" "coder" "B" (.int (0 : Int32))) (usV : Arv Z h0 rt kt .byte (23 : Int32) vt (.int (0 : Int32))) (uVd : Arv Z h0 r1 kd .byte (34 : Int32) vd (.int (0 : Int32))) (uL : vd.length = 34) (ug : n0 ≤ r1) :
    MetFree l (⟨"java/lang/String", "getBytes", "([BIB)V"⟩ : MethodName) (head1 (Jvm.Cond.code (⟨"java/lang/String", "getBytes", "([BIB)V"⟩ : MethodName) jdk_42_method_147_code 4 none :: ws) ({ frames := 1, cells := 0, slots := 0, locals := 18 } : Room)) (fun a U => a = #[(.ref r0), (.ref r1), (.int (1 : Int32)), (.int (0 : Int32))] ∧ Z.Warmed39 U.vm ∧ U.heap = h0) (fun _ _ _ _ _ => True) (fun _ U o U' => ∃ v L, o = .returned v ∧ Q_rm_gb_1_23_34 Z r0 r1 zc rt kt vt kd vd h0 n0 v U'.heap L ∧ FrameEnd U o U' L ({ frames := 1, cells := 0, slots := 0, locals := 18 } : Room).cells ({ frames := 1, cells := 0, slots := 0, locals := 18 } : Room).slots) := by
  refine MetFree.of_bodySF (plainFor_of_name pn_0) hisR ?_
  intro p e s m args below meth c s₁ Bd hml0 hP hK
  obtain ⟨rfl, hZ, hh⟩ := hP
  have hx := Bd.exec
  have hby := Bd.bytes
  have hml : c.maxLocals = 4 := hml0
  have hown : s.vm.findClass "java/lang/String" = some m.cls := findClass_of_methodNamed Bd.named
  have hnm := (name_of_methodNamed Bd.named Bd.method).1
  have X0 : Stand p l e ({ frames := 1, cells := 0, slots := 0, locals := 18 } : Room) s m #[(.ref r0), (.ref r1), (.int (1 : Int32)), (.int (0 : Int32))] below meth c s₁ [] 0 0 := Stand.of_body Bd
  have e0 : s₁.heap = h0 := by rw [← hh, Bd.state]; rfl
  have N0 := Fr.nil n0
  have pre0 : ∀ t, Steps p.tables e below (s₁.setTop (mkF m 0 #[vr r0, vr r1, vi (1 : Int32), vi (0 : Int32)] [])) t → Steps p.tables e below (s₁.setTop (entryFrame m #[(.ref r0), (.ref r1), (.int (1 : Int32)), (.int (0 : Int32))] 4)) t := fun t k => castTop (ef_32 m r0 r1) k
  obtain ⟨cq1, kq1, q1a, q1b, q1c⟩ := isOf hZ e0 us
  obtain ⟨_, _, ⟨T1, Lw1, kw1, nw1⟩, -, X1, ⟨Lc1, hQ1, lq1, yq1, zq1⟩, st1⟩ := X0.virtualBack hx (y := (⟨"java/lang/String", "coder", "()B"⟩ : MethodName)) (z := (⟨"java/lang/String", "coder", "()B"⟩ : MethodName)) hown (mvT hZ (wd hw 116 rfl)) (mvT hZ (wd hw 117 rfl)) (notFace_of_selects (args := #[]) (mvT hZ (wd hw 119 rfl))) (mvT hZ (wd hw 119 rfl)) (mvT hZ (wd hw 118 rfl)) (by decide) (backOf (W := 0) (rmCoder l Z a0 hw [] r0 zc h0 n0 Z0 uO uS uP usc) hZ (wd hw 120 rfl) (wd hw 14 rfl) (by decide) (by decide)) q1a q1c (g := (mkF m 1 #[vr r0, vr r1, vi (1 : Int32), vi (0 : Int32)] [(.ref r0)])) rfl (by rw [hml]; rfl) (Steps.refl _) (argsL := []) (rest := []) (lenOf pd_0 rfl) rfl (by show 2 * 0 + _ ≤ _; exact Nat.le_of_eq rfl) (hb hby d22_1) (fun _ _ => ⟨rfl, e0, (by decide : 0 + 0 ≤ _), (by decide : 0 + 0 ≤ _)⟩)
  dsimp only [Pt.U, Pt.locs, Pt.cells, Pt.slots] at X1 lq1 yq1 zq1 st1 hQ1
  have X1 := own_reb X1 lq1 yq1 zq1
  obtain ⟨rfl, Nq1, eh1⟩ := hQ1
  have N1 := Fr.app N0 Nq1
  obtain ⟨T2, X2, e2, st2⟩ := getF X1 hx hZ hown (host := "") (Or.inl (wd hw 115 rfl)) Via.refl eh1 usv (g := (mkF m 9 #[vr r0, vr r1, vi (1 : Int32), vi (0 : Int32)] [(.ref r0)])) rfl rfl (hb hby d22_9)
  obtain ⟨T3, X3, e3, st3⟩ := getF X2 hx hZ hown (host := "") (Or.inl (wd hw 115 rfl)) Via.refl e2 usv (g := (mkF m 18 #[vr r0, vr r1, vi (1 : Int32), vi (0 : Int32)] [(.ref r0), (.int (1 : Int32)), (.ref r1), (.int (0 : Int32)), (.ref rt)])) rfl rfl (hb hby d22_18)
  obtain ⟨cl4, Ar4, q4, S4, Nn4, H4, G4⟩ := (id usV)
  obtain ⟨T5, h5, L5, X5, e5, N5, Kq5, V5, st5⟩ := cpA X3 hx hZ hown (wd hw 146 rfl) (wd hw 149 rfl) (wd hw 147 rfl) (wd hw 148 rfl) e3 (us := ((List.range ((23 : Int32)).toNatClampNeg).map fun i => List.getD vt (((0 : Int32)).toNatClampNeg + i) (.int (0 : Int32)))) usV uVd (Or.inl ⟨rfl, rfl⟩) (by decide) (by decide) (by decide) (by decide) (by decide) rfl (by rw [uL]; decide) N1 ug (g := (mkF m 22 #[vr r0, vr r1, vi (1 : Int32), vi (0 : Int32)] [(.int (23 : Int32)), (.int (1 : Int32)), (.ref r1), (.int (0 : Int32)), (.ref rt)])) rfl (by rw [hml]; rfl) rfl (hb hby d22_22) (by decide) (W := 0) (by show 2 * 0 + _ ≤ _; exact Nat.le_of_eq rfl) (by decide)
  have K5 : Keep h0 h5 [r1] := (Keep.refl h0 [r1]).trans Kq5 (allS (Or.inl (List.mem_of_getElem? (i := 0) rfl)) all0)
  have Z5 : n0 ≤ h5.size := Nat.le_trans Z0 Kq5.1
  obtain ⟨fs, hr, hrun, hended, hW, hsame⟩ := X5.leave (v := none) (fun _ => rfl)
  refine ⟨_, _, pre0 _ ?_, hrun, hended, _, _, rfl, ?_, ⟨_, rfl⟩, hW, hsame.mono (by decide) (by decide)⟩
  · show SS p e below s₁ (mkF m 0 #[vr r0, vr r1, vi (1 : Int32), vi (0 : Int32)] []) _
    refine XS.aloadN X0.here hx rfl (hb hby d22_0) rfl rfl ?_
    show SS p e below s₁ (mkF m 1 #[vr r0, vr r1, vi (1 : Int32), vi (0 : Int32)] [(.ref r0)]) _
    refine st1.trans ?_
    show SS p e below T1 (mkF m 4 #[vr r0, vr r1, vi (1 : Int32), vi (0 : Int32)] [(.int (0 : Int32))]) _
    refine XS.iloadN X1.here hx rfl (hb hby d22_4) rfl ?_
    show SS p e below T1 (mkF m 5 #[vr r0, vr r1, vi (1 : Int32), vi (0 : Int32)] [(.int (0 : Int32)), (.int (0 : Int32))]) _
    refine XS.icmpNo X1.here hx rfl (hb hby d22_5) rfl (teq (by decide : (0 : Int32) = (0 : Int32))).2 ?_
    show SS p e below T1 (mkF m 8 #[vr r0, vr r1, vi (1 : Int32), vi (0 : Int32)] []) _
    refine XS.aloadN X1.here hx rfl (hb hby d22_8) rfl rfl ?_
    show SS p e below T1 (mkF m 9 #[vr r0, vr r1, vi (1 : Int32), vi (0 : Int32)] [(.ref r0)]) _
    refine st2 _ ?_
    show SS p e below T2 (mkF m 12 #[vr r0, vr r1, vi (1 : Int32), vi (0 : Int32)] [(.ref rt)]) _
    refine XS.iconst X2.here hx rfl (hb hby d22_12) ?_
    show SS p e below T2 (mkF m 13 #[vr r0, vr r1, vi (1 : Int32), vi (0 : Int32)] [(.int (0 : Int32)), (.ref rt)]) _
    refine XS.aloadN X2.here hx rfl (hb hby d22_13) rfl rfl ?_
    show SS p e below T2 (mkF m 14 #[vr r0, vr r1, vi (1 : Int32), vi (0 : Int32)] [(.ref r1), (.int (0 : Int32)), (.ref rt)]) _
    refine XS.iloadN X2.here hx rfl (hb hby d22_14) rfl ?_
    show SS p e below T2 (mkF m 15 #[vr r0, vr r1, vi (1 : Int32), vi (0 : Int32)] [(.int (1 : Int32)), (.ref r1), (.int (0 : Int32)), (.ref rt)]) _
    refine XS.iloadN X2.here hx rfl (hb hby d22_15) rfl ?_
    show SS p e below T2 (mkF m 16 #[vr r0, vr r1, vi (1 : Int32), vi (0 : Int32)] [(.int (0 : Int32)), (.int (1 : Int32)), (.ref r1), (.int (0 : Int32)), (.ref rt)]) _
    refine XS.ishl X2.here hx rfl (hb hby d22_16) rfl ?_
    show SS p e below T2 (mkF m 17 #[vr r0, vr r1, vi (1 : Int32), vi (0 : Int32)] [(.int ((1 : Int32) <<< ((0 : Int32) &&& 31))), (.ref r1), (.int (0 : Int32)), (.ref rt)]) _
    rw [(show ((1 : Int32) <<< ((0 : Int32) &&& 31)) = (1 : Int32) from by decide)]
    show SS p e below T2 (mkF m 17 #[vr r0, vr r1, vi (1 : Int32), vi (0 : Int32)] [(.int (1 : Int32)), (.ref r1), (.int (0 : Int32)), (.ref rt)]) _
    refine XS.aloadN X2.here hx rfl (hb hby d22_17) rfl rfl ?_
    show SS p e below T2 (mkF m 18 #[vr r0, vr r1, vi (1 : Int32), vi (0 : Int32)] [(.ref r0), (.int (1 : Int32)), (.ref r1), (.int (0 : Int32)), (.ref rt)]) _
    refine st3 _ ?_
    show SS p e below T3 (mkF m 21 #[vr r0, vr r1, vi (1 : Int32), vi (0 : Int32)] [(.ref rt), (.int (1 : Int32)), (.ref r1), (.int (0 : Int32)), (.ref rt)]) _
    refine X3.arraylength hx (own_at e3 Ar4.1) (State.isArrayOf_alike hZ.alike Ar4.2.1) (g := (mkF m 21 #[vr r0, vr r1, vi (1 : Int32), vi (0 : Int32)] [(.ref rt), (.int (1 : Int32)), (.ref r1), (.int (0 : Int32)), (.ref rt)])) rfl rfl (hb hby d22_21) _ ?_
    rw [len_of S4 Nn4]
    show SS p e below T3 (mkF m 22 #[vr r0, vr r1, vi (1 : Int32), vi (0 : Int32)] [(.int (23 : Int32)), (.int (1 : Int32)), (.ref r1), (.int (0 : Int32)), (.ref rt)]) _
    refine st5 _ ?_
    show SS p e below T5 (mkF m 25 #[vr r0, vr r1, vi (1 : Int32), vi (0 : Int32)] []) _
    refine XS.goto X5.here hx rfl (pc0 := 25) (pc' := 43) rfl (hb hby d22_25) (by decide) (by decide) ?_
    show SS p e below T5 (mkF m 43 #[vr r0, vr r1, vi (1 : Int32), vi (0 : Int32)] []) _
    exact X5.returnOut hx Bd.returns (hb hby d22_43) hr
  · show Q_rm_gb_1_23_34 Z r0 r1 zc rt kt vt kd vd h0 n0 _ T5.heap _
    rw [e5]
    exact ⟨(List.take ((1 : Int32)).toNatClampNeg vd ++ ((List.range ((23 : Int32)).toNatClampNeg).map fun i => List.getD vt (((0 : Int32)).toNatClampNeg + i) (.int (0 : Int32))) ++ List.drop (((1 : Int32)).toNatClampNeg + ((23 : Int32)).toNatClampNeg) vd), rfl, N5, K5, V5, (own_len3 uL (by simp only [List.length_map, List.length_range]) (by decide))⟩
theorem ef_33 (m : MethodId) (x0 : Addr) (x2 : Addr) : entryFrame m #[(.ref x0), (.int (1 : Int32)), (.ref x2)] 3 = mkF m 0 #[vr x0, vi (1 : Int32), vr x2] [] := by first | (simp [entryFrame, mkF, argsToLocals, Value.category]; done) | rfl
def Q_rm_ps_1_23_34 (Z : State) (r0 : Addr) (r2 : Addr) (zc : Int32) (rv : Addr) (kv : ClassId) (vv : List Value) (rt : Addr) (kt : ClassId) (vt : List Value) (h0 : Heap) (n0 : Nat) (v : Option Value) (h : Heap) (L : List Loc) : Prop := ∃ (nv : List Value), (v = none ∧ Fr n0 L ∧ Keep h0 h [rv] ∧ Arv Z h rv kv .byte (34 : Int32) nv (.int (0 : Int32)) ∧ nv.length = 34)
set_option maxRecDepth 65536 in
set_option maxHeartbeats 40000000 in
theorem rm_ps_1_23_34 (l : Launch) (Z : State) (a0 : Array Value) (hw : ∀ d ∈ tables_1, d.before a0 Z = true) (ws : List Jvm.Cond) (r0 : Addr) (r2 : Addr) (zc : Int32) (rv : Addr) (kv : ClassId) (vv : List Value) (rt : Addr) (kt : ClassId) (vt : List Value) (h0 : Heap) (n0 : Nat) (Z0 : n0 ≤ h0.size) (uO : Old Z n0 h0) (uS : Sta Z Z.heap "java/lang/String" "COMPACT_STRINGS" "Z" (.int zc)) (uP : ¬ zc = 0) (uE : Exa Z h0 r0 "java/lang/StringBuilder") (uv : Fld Z h0 r0 "java/lang/AbstractStringBuilder" "value" "[B" (.ref rv)) (uc : Fld Z h0 r0 "java/lang/AbstractStringBuilder" "coder" "B" (.int (0 : Int32))) (uV : Arv Z h0 rv kv .byte (34 : Int32) vv (.int (0 : Int32))) (uL : vv.length = 34) (us : Exa Z h0 r2 "java/lang/String") (usv : Fld Z h0 r2 "java/lang/String" "value" "[B" (.ref rt)) (usc : Fld Z h0 r2 "java/lang/String" "coder" "B" (.int (0 : Int32))) (usV : Arv Z h0 rt kt .byte (23 : Int32) vt (.int (0 : Int32))) (ug : n0 ≤ rv) :
    MetFree l (⟨"java/lang/AbstractStringBuilder", "putStringAt", "(ILjava/lang/String;)V"⟩ : MethodName) (head1 (Jvm.Cond.code (⟨"java/lang/AbstractStringBuilder", "putStringAt", "(ILjava/lang/String;)V"⟩ : MethodName) jdk_68_method_73_code 3 none :: ws) ({ frames := 2, cells := 0, slots := 0, locals := 33 } : Room)) (fun a U => a = #[(.ref r0), (.int (1 : Int32)), (.ref r2)] ∧ Z.Warmed39 U.vm ∧ U.heap = h0) (fun _ _ _ _ _ => True) (fun _ U o U' => ∃ v L, o = .returned v ∧ Q_rm_ps_1_23_34 Z r0 r2 zc rv kv vv rt kt vt h0 n0 v U'.heap L ∧ FrameEnd U o U' L ({ frames := 2, cells := 0, slots := 0, locals := 33 } : Room).cells ({ frames := 2, cells := 0, slots := 0, locals := 33 } : Room).slots) := by
  refine MetFree.of_bodySF (plainFor_of_name pn_1) hisR ?_
  intro p e s m args below meth c s₁ Bd hml0 hP hK
  obtain ⟨rfl, hZ, hh⟩ := hP
  have hx := Bd.exec
  have hby := Bd.bytes
  have hml : c.maxLocals = 3 := hml0
  have hown : s.vm.findClass "java/lang/AbstractStringBuilder" = some m.cls := findClass_of_methodNamed Bd.named
  have hnm := (name_of_methodNamed Bd.named Bd.method).1
  have X0 : Stand p l e ({ frames := 2, cells := 0, slots := 0, locals := 33 } : Room) s m #[(.ref r0), (.int (1 : Int32)), (.ref r2)] below meth c s₁ [] 0 0 := Stand.of_body Bd
  have e0 : s₁.heap = h0 := by rw [← hh, Bd.state]; rfl
  have N0 := Fr.nil n0
  have pre0 : ∀ t, Steps p.tables e below (s₁.setTop (mkF m 0 #[vr r0, vi (1 : Int32), vr r2] [])) t → Steps p.tables e below (s₁.setTop (entryFrame m #[(.ref r0), (.int (1 : Int32)), (.ref r2)] 3)) t := fun t k => castTop (ef_33 m r0 r2) k
  obtain ⟨cq1, kq1, q1a, q1b, q1c⟩ := isOf hZ e0 uE
  obtain ⟨_, _, ⟨T1, Lw1, kw1, nw1⟩, -, X1, ⟨Lc1, hQ1, lq1, yq1, zq1⟩, st1⟩ := X0.virtualBack hx (y := (⟨"java/lang/AbstractStringBuilder", "inflateIfNeededFor", "(Ljava/lang/String;)V"⟩ : MethodName)) (z := (⟨"java/lang/AbstractStringBuilder", "inflateIfNeededFor", "(Ljava/lang/String;)V"⟩ : MethodName)) hown (mvT hZ (wd hw 135 rfl)) (mvT hZ (own_decl (wd hw 136 rfl) (wd hw 139 rfl))) (notFace_of_selects (args := #[]) (mvT hZ (wd hw 138 rfl))) (mvT hZ (wd hw 138 rfl)) (mvT hZ (wd hw 136 rfl)) (by decide) (backOf (W := 0) (rmInf l Z a0 hw [] r0 r2 zc h0 n0 Z0 uO uS uP uc us usc) hZ (wd hw 139 rfl) (wd hw 92 rfl) (by decide) (by decide)) q1a q1c (g := (mkF m 2 #[vr r0, vi (1 : Int32), vr r2] [(.ref r2), (.ref r0)])) rfl (by rw [hml]; rfl) (Steps.refl _) (argsL := [(.ref r2)]) (rest := []) (lenOf pd_10 rfl) rfl (by show 2 * 0 + _ ≤ _; exact Nat.le_of_eq rfl) (hb hby d20_2) (fun _ _ => ⟨rfl, e0, (by decide : 0 + 0 ≤ _), (by decide : 0 + 0 ≤ _)⟩)
  dsimp only [Pt.U, Pt.locs, Pt.cells, Pt.slots] at X1 lq1 yq1 zq1 st1 hQ1
  have X1 := own_reb X1 lq1 yq1 zq1
  obtain ⟨rfl, Nq1, eh1⟩ := hQ1
  have N1 := Fr.app N0 Nq1
  obtain ⟨T2, X2, e2, st2⟩ := getF X1 hx hZ hown (host := "") (Or.inl (wd hw 96 rfl)) Via.refl eh1 uv (g := (mkF m 7 #[vr r0, vi (1 : Int32), vr r2] [(.ref r0), (.ref r2)])) rfl rfl (hb hby d20_7)
  obtain ⟨T3, X3, e3, st3⟩ := getF X2 hx hZ hown (host := "") (Or.inl (wd hw 98 rfl)) Via.refl e2 uc (g := (mkF m 12 #[vr r0, vi (1 : Int32), vr r2] [(.ref r0), (.int (1 : Int32)), (.ref rv), (.ref r2)])) rfl rfl (hb hby d20_12)
  obtain ⟨cq4, kq4, q4a, q4b, q4c⟩ := isOf hZ e3 us
  obtain ⟨_, _, ⟨T4, Lw4, kw4, nw4⟩, -, X4, ⟨Lc4, hQ4, lq4, yq4, zq4⟩, st4⟩ := X3.virtualBack hx (y := (⟨"java/lang/String", "getBytes", "([BIB)V"⟩ : MethodName)) (z := (⟨"java/lang/String", "getBytes", "([BIB)V"⟩ : MethodName)) hown (mvT hZ (wd hw 141 rfl)) (mvT hZ (wd hw 142 rfl)) (notFace_of_selects (args := #[]) (mvT hZ (wd hw 144 rfl))) (mvT hZ (wd hw 144 rfl)) (mvT hZ (wd hw 143 rfl)) (by decide) (backOf (W := 0) (rm_gb_1_23_34 l Z a0 hw [] r2 rv zc rt kt vt kv vv h0 n0 Z0 uO uS uP us usv usc usV uV uL ug) hZ (wd hw 145 rfl) (wd hw 14 rfl) (by decide) (by decide)) q4a q4c (g := (mkF m 15 #[vr r0, vi (1 : Int32), vr r2] [(.int (0 : Int32)), (.int (1 : Int32)), (.ref rv), (.ref r2)])) rfl (by rw [hml]; rfl) (Steps.refl _) (argsL := [(.ref rv), (.int (1 : Int32)), (.int (0 : Int32))]) (rest := []) (lenOf pd_11 rfl) rfl (by show 2 * 0 + _ ≤ _; exact Nat.le_of_eq rfl) (hb hby d20_15) (fun _ _ => ⟨rfl, e3, (by decide : 0 + 0 ≤ _), (by decide : 0 + 0 ≤ _)⟩)
  dsimp only [Pt.U, Pt.locs, Pt.cells, Pt.slots] at X4 lq4 yq4 zq4 st4 hQ4
  have X4 := own_reb X4 lq4 yq4 zq4
  obtain ⟨nv_4, rfl, Nq4, Kq4, f4_0, f4_1⟩ := hQ4
  have N4 := Fr.app N1 Nq4
  have K4 : Keep h0 T4.heap [rv] := (Keep.refl h0 [rv]).trans Kq4 (allS (Or.inl (List.mem_of_getElem? (i := 0) rfl)) all0)
  have Z4 : n0 ≤ T4.heap.size := Nat.le_trans Z0 Kq4.1
  obtain ⟨fs, hr, hrun, hended, hW, hsame⟩ := X4.leave (v := none) (fun _ => rfl)
  refine ⟨_, _, pre0 _ ?_, hrun, hended, _, _, rfl, ?_, ⟨_, rfl⟩, hW, hsame.mono (by decide) (by decide)⟩
  · show SS p e below s₁ (mkF m 0 #[vr r0, vi (1 : Int32), vr r2] []) _
    refine XS.aloadN X0.here hx rfl (hb hby d20_0) rfl rfl ?_
    show SS p e below s₁ (mkF m 1 #[vr r0, vi (1 : Int32), vr r2] [(.ref r0)]) _
    refine XS.aloadN X0.here hx rfl (hb hby d20_1) rfl rfl ?_
    show SS p e below s₁ (mkF m 2 #[vr r0, vi (1 : Int32), vr r2] [(.ref r2), (.ref r0)]) _
    refine st1.trans ?_
    show SS p e below T1 (mkF m 5 #[vr r0, vi (1 : Int32), vr r2] []) _
    refine XS.aloadN X1.here hx rfl (hb hby d20_5) rfl rfl ?_
    show SS p e below T1 (mkF m 6 #[vr r0, vi (1 : Int32), vr r2] [(.ref r2)]) _
    refine XS.aloadN X1.here hx rfl (hb hby d20_6) rfl rfl ?_
    show SS p e below T1 (mkF m 7 #[vr r0, vi (1 : Int32), vr r2] [(.ref r0), (.ref r2)]) _
    refine st2 _ ?_
    show SS p e below T2 (mkF m 10 #[vr r0, vi (1 : Int32), vr r2] [(.ref rv), (.ref r2)]) _
    refine XS.iloadN X2.here hx rfl (hb hby d20_10) rfl ?_
    show SS p e below T2 (mkF m 11 #[vr r0, vi (1 : Int32), vr r2] [(.int (1 : Int32)), (.ref rv), (.ref r2)]) _
    refine XS.aloadN X2.here hx rfl (hb hby d20_11) rfl rfl ?_
    show SS p e below T2 (mkF m 12 #[vr r0, vi (1 : Int32), vr r2] [(.ref r0), (.int (1 : Int32)), (.ref rv), (.ref r2)]) _
    refine st3 _ ?_
    show SS p e below T3 (mkF m 15 #[vr r0, vi (1 : Int32), vr r2] [(.int (0 : Int32)), (.int (1 : Int32)), (.ref rv), (.ref r2)]) _
    refine st4.trans ?_
    show SS p e below T4 (mkF m 18 #[vr r0, vi (1 : Int32), vr r2] []) _
    exact X4.returnOut hx Bd.returns (hb hby d20_18) hr
  · show Q_rm_ps_1_23_34 Z r0 r2 zc rv kv vv rt kt vt h0 n0 _ T4.heap _
    exact ⟨nv_4, rfl, N4, K4, f4_0, f4_1⟩
theorem ef_34 (m : MethodId)  : entryFrame m #[(.int (16 : Int32)), (.int (8 : Int32)), (.int (18 : Int32))] 4 = mkF m 0 #[vi (16 : Int32), vi (8 : Int32), vi (18 : Int32), uu] [] := by first | (simp [entryFrame, mkF, argsToLocals, Value.category]; done) | rfl
theorem pn_11 : plainName "jdk/internal/util/ArraysSupport" = true := by first | (simp [plainName, overriddenIn]; done) | decide +kernel
theorem d24_0 : decode jdk_48_method_27_code 0 = .ok (.iload_n 0, 1) := by decide +kernel
theorem d24_1 : decode jdk_48_method_27_code 1 = .ok (.iload_n 1, 1) := by decide +kernel
theorem d24_2 : decode jdk_48_method_27_code 2 = .ok (.iload_n 2, 1) := by decide +kernel
theorem d24_3 : decode jdk_48_method_27_code 3 = .ok (.invokestatic 194, 3) := by decide +kernel
theorem d24_6 : decode jdk_48_method_27_code 6 = .ok (.iadd, 1) := by decide +kernel
theorem d24_7 : decode jdk_48_method_27_code 7 = .ok (.istore_n 3, 1) := by decide +kernel
theorem d24_8 : decode jdk_48_method_27_code 8 = .ok (.iconst 0, 1) := by decide +kernel
theorem d24_9 : decode jdk_48_method_27_code 9 = .ok (.iload_n 3, 1) := by decide +kernel
theorem d24_10 : decode jdk_48_method_27_code 10 = .ok (.if_icmp .ge 11, 3) := by decide +kernel
theorem d24_13 : decode jdk_48_method_27_code 13 = .ok (.iload_n 3, 1) := by decide +kernel
theorem d24_14 : decode jdk_48_method_27_code 14 = .ok (.ldc 200, 2) := by decide +kernel
theorem d24_16 : decode jdk_48_method_27_code 16 = .ok (.if_icmp .gt 5, 3) := by decide +kernel
theorem d24_19 : decode jdk_48_method_27_code 19 = .ok (.iload_n 3, 1) := by decide +kernel
theorem d24_20 : decode jdk_48_method_27_code 20 = .ok (.ireturn, 1) := by decide +kernel
def Q_rm_nl_16_8_18 (Z : State)  (h0 : Heap) (n0 : Nat) (v : Option Value) (h : Heap) (L : List Loc) : Prop := (v = some (.int (34 : Int32)) ∧ Fr n0 L ∧ h = h0)
set_option maxRecDepth 65536 in
set_option maxHeartbeats 40000000 in
theorem rm_nl_16_8_18 (l : Launch) (Z : State) (a0 : Array Value) (hw : ∀ d ∈ tables_1, d.before a0 Z = true) (ws : List Jvm.Cond)  (h0 : Heap) (n0 : Nat) (Z0 : n0 ≤ h0.size) :
    MetFree l (⟨"jdk/internal/util/ArraysSupport", "newLength", "(III)I"⟩ : MethodName) (head1 (Jvm.Cond.code (⟨"jdk/internal/util/ArraysSupport", "newLength", "(III)I"⟩ : MethodName) jdk_48_method_27_code 4 (some .int) :: ws) ({ frames := 1, cells := 0, slots := 0, locals := 14 } : Room)) (fun a U => a = #[(.int (16 : Int32)), (.int (8 : Int32)), (.int (18 : Int32))] ∧ Z.Warmed39 U.vm ∧ U.heap = h0) (fun _ _ _ _ _ => True) (fun _ U o U' => ∃ v L, o = .returned v ∧ Q_rm_nl_16_8_18 Z  h0 n0 v U'.heap L ∧ FrameEnd U o U' L ({ frames := 1, cells := 0, slots := 0, locals := 14 } : Room).cells ({ frames := 1, cells := 0, slots := 0, locals := 14 } : Room).slots) := by
  refine MetFree.of_bodySF (plainFor_of_name pn_11) hisR ?_
  intro p e s m args below meth c s₁ Bd hml0 hP hK
  obtain ⟨rfl, hZ, hh⟩ := hP
  have hx := Bd.exec
  have hby := Bd.bytes
  have hml : c.maxLocals = 4 := hml0
  have hown : s.vm.findClass "jdk/internal/util/ArraysSupport" = some m.cls := findClass_of_methodNamed Bd.named
  have hnm := (name_of_methodNamed Bd.named Bd.method).1
  have X0 : Stand p l e ({ frames := 1, cells := 0, slots := 0, locals := 14 } : Room) s m #[(.int (16 : Int32)), (.int (8 : Int32)), (.int (18 : Int32))] below meth c s₁ [] 0 0 := Stand.of_body Bd
  have e0 : s₁.heap = h0 := by rw [← hh, Bd.state]; rfl
  have N0 := Fr.nil n0
  have pre0 : ∀ t, Steps p.tables e below (s₁.setTop (mkF m 0 #[vi (16 : Int32), vi (8 : Int32), vi (18 : Int32), uu] [])) t → Steps p.tables e below (s₁.setTop (entryFrame m #[(.int (16 : Int32)), (.int (8 : Int32)), (.int (18 : Int32))] 4)) t := fun t k => castTop (ef_34 m ) k
  obtain ⟨_, _, ⟨T1, Lw1, kw1, nw1⟩, -, X1, ⟨Lc1, hQ1, lq1, yq1, zq1⟩, st1⟩ := Jvm.LawKit.callS X0 hx (y := (⟨"java/lang/Math", "max", "(II)I"⟩ : MethodName)) hown (mvT hZ (wd hw 160 rfl)) (mvT hZ (wd hw 161 rfl)) (mvT hZ (wd hw 162 rfl)) (mvT hZ (wd hw 163 rfl)) (by decide) (backOf (W := 1) (rmMax l Z a0 hw [] (8 : Int32) (18 : Int32) h0 n0 Z0) hZ (wd hw 163 rfl) (wd hw 162 rfl) (by decide) (by decide)) (g := (mkF m 3 #[vi (16 : Int32), vi (8 : Int32), vi (18 : Int32), uu] [(.int (18 : Int32)), (.int (8 : Int32)), (.int (16 : Int32))])) rfl (by rw [hml]; rfl) (argsL := [(.int (8 : Int32)), (.int (18 : Int32))]) (rest := [(.int (16 : Int32))]) (lenOf pd_7 rfl) rfl (by show 2 * 0 + _ ≤ _; exact Nat.le_of_eq rfl) (hb hby d24_3) (fun _ _ => ⟨rfl, e0, (by decide : 0 + 0 ≤ _), (by decide : 0 + 0 ≤ _)⟩)
  dsimp only [Pt.U, Pt.locs, Pt.cells, Pt.slots] at X1 lq1 yq1 zq1 st1 hQ1
  have X1 := own_reb X1 lq1 yq1 zq1
  obtain ⟨rfl, Nq1, eh1⟩ := hQ1
  have N1 := Fr.app N0 Nq1
  obtain ⟨fs, hr, hrun, hended, hW, hsame⟩ := X1.leave (v := some (.int (34 : Int32))) (fun h => by rw [Bd.returns] at h; cases h)
  refine ⟨_, _, pre0 _ ?_, hrun, hended, _, _, rfl, ?_, ⟨_, rfl⟩, hW, hsame.mono (by decide) (by decide)⟩
  · show SS p e below s₁ (mkF m 0 #[vi (16 : Int32), vi (8 : Int32), vi (18 : Int32), uu] []) _
    refine XS.iloadN X0.here hx rfl (hb hby d24_0) rfl ?_
    show SS p e below s₁ (mkF m 1 #[vi (16 : Int32), vi (8 : Int32), vi (18 : Int32), uu] [(.int (16 : Int32))]) _
    refine XS.iloadN X0.here hx rfl (hb hby d24_1) rfl ?_
    show SS p e below s₁ (mkF m 2 #[vi (16 : Int32), vi (8 : Int32), vi (18 : Int32), uu] [(.int (8 : Int32)), (.int (16 : Int32))]) _
    refine XS.iloadN X0.here hx rfl (hb hby d24_2) rfl ?_
    show SS p e below s₁ (mkF m 3 #[vi (16 : Int32), vi (8 : Int32), vi (18 : Int32), uu] [(.int (18 : Int32)), (.int (8 : Int32)), (.int (16 : Int32))]) _
    refine st1 _ ?_
    show SS p e below T1 (mkF m 6 #[vi (16 : Int32), vi (8 : Int32), vi (18 : Int32), uu] [(.int (if (8 : Int32) < (18 : Int32) then (18 : Int32) else (8 : Int32))), (.int (16 : Int32))]) _
    rw [(show (if (8 : Int32) < (18 : Int32) then (18 : Int32) else (8 : Int32)) = (18 : Int32) from by decide)]
    show SS p e below T1 (mkF m 6 #[vi (16 : Int32), vi (8 : Int32), vi (18 : Int32), uu] [(.int (18 : Int32)), (.int (16 : Int32))]) _
    refine XS.iadd X1.here hx rfl (hb hby d24_6) rfl ?_
    show SS p e below T1 (mkF m 7 #[vi (16 : Int32), vi (8 : Int32), vi (18 : Int32), uu] [(.int ((16 : Int32) + (18 : Int32)))]) _
    rw [(show ((16 : Int32) + (18 : Int32)) = (34 : Int32) from by decide)]
    show SS p e below T1 (mkF m 7 #[vi (16 : Int32), vi (8 : Int32), vi (18 : Int32), uu] [(.int (34 : Int32))]) _
    refine XS.istoreN X1.here hx rfl (hb hby d24_7) rfl (l' := #[vi (16 : Int32), vi (8 : Int32), vi (18 : Int32), vi (34 : Int32)]) rfl ?_
    show SS p e below T1 (mkF m 8 #[vi (16 : Int32), vi (8 : Int32), vi (18 : Int32), vi (34 : Int32)] []) _
    refine XS.iconst X1.here hx rfl (hb hby d24_8) ?_
    show SS p e below T1 (mkF m 9 #[vi (16 : Int32), vi (8 : Int32), vi (18 : Int32), vi (34 : Int32)] [(.int (0 : Int32))]) _
    refine XS.iloadN X1.here hx rfl (hb hby d24_9) rfl ?_
    show SS p e below T1 (mkF m 10 #[vi (16 : Int32), vi (8 : Int32), vi (18 : Int32), vi (34 : Int32)] [(.int (34 : Int32)), (.int (0 : Int32))]) _
    refine XS.icmpNo X1.here hx rfl (hb hby d24_10) rfl (tlt (by decide : (0 : Int32) < (34 : Int32))).2.1 ?_
    show SS p e below T1 (mkF m 13 #[vi (16 : Int32), vi (8 : Int32), vi (18 : Int32), vi (34 : Int32)] []) _
    refine XS.iloadN X1.here hx rfl (hb hby d24_13) rfl ?_
    show SS p e below T1 (mkF m 14 #[vi (16 : Int32), vi (8 : Int32), vi (18 : Int32), vi (34 : Int32)] [(.int (34 : Int32))]) _
    refine X1.ldcInt hx hown (mvT hZ (wd hw 164 rfl)) (g := (mkF m 14 #[vi (16 : Int32), vi (8 : Int32), vi (18 : Int32), vi (34 : Int32)] [(.int (34 : Int32))])) rfl (hb hby d24_14) _ ?_
    show SS p e below T1 (mkF m 16 #[vi (16 : Int32), vi (8 : Int32), vi (18 : Int32), vi (34 : Int32)] [(.int (2147483639 : Int32)), (.int (34 : Int32))]) _
    refine XS.icmpNo X1.here hx rfl (hb hby d24_16) rfl (flt (by decide : ¬ ((2147483639 : Int32) < (34 : Int32)))).2.2.1 ?_
    show SS p e below T1 (mkF m 19 #[vi (16 : Int32), vi (8 : Int32), vi (18 : Int32), vi (34 : Int32)] []) _
    refine XS.iloadN X1.here hx rfl (hb hby d24_19) rfl ?_
    show SS p e below T1 (mkF m 20 #[vi (16 : Int32), vi (8 : Int32), vi (18 : Int32), vi (34 : Int32)] [(.int (34 : Int32))]) _
    exact retI X1 hx Bd.returns (hb hby d24_20) hr
  · show Q_rm_nl_16_8_18 Z  h0 n0 _ T1.heap _
    rw [eh1]
    exact ⟨rfl, N1, rfl⟩
theorem ef_35 (m : MethodId) (x0 : Addr) : entryFrame m #[(.ref x0), (.int (24 : Int32))] 6 = mkF m 0 #[vr x0, vi (24 : Int32), uu, uu, uu, uu] [] := by first | (simp [entryFrame, mkF, argsToLocals, Value.category]; done) | rfl
theorem d23_0 : decode jdk_68_method_10_code 0 = .ok (.aload_n 0, 1) := by decide +kernel
theorem d23_1 : decode jdk_68_method_10_code 1 = .ok (.getfield 15, 3) := by decide +kernel
theorem d23_4 : decode jdk_68_method_10_code 4 = .ok (.arraylength, 1) := by decide +kernel
theorem d23_5 : decode jdk_68_method_10_code 5 = .ok (.istore_n 2, 1) := by decide +kernel
theorem d23_6 : decode jdk_68_method_10_code 6 = .ok (.iload_n 1, 1) := by decide +kernel
theorem d23_7 : decode jdk_68_method_10_code 7 = .ok (.aload_n 0, 1) := by decide +kernel
theorem d23_8 : decode jdk_68_method_10_code 8 = .ok (.getfield 22, 3) := by decide +kernel
theorem d23_11 : decode jdk_68_method_10_code 11 = .ok (.ishl, 1) := by decide +kernel
theorem d23_12 : decode jdk_68_method_10_code 12 = .ok (.istore_n 3, 1) := by decide +kernel
theorem d23_13 : decode jdk_68_method_10_code 13 = .ok (.iload_n 3, 1) := by decide +kernel
theorem d23_14 : decode jdk_68_method_10_code 14 = .ok (.iload_n 2, 1) := by decide +kernel
theorem d23_15 : decode jdk_68_method_10_code 15 = .ok (.isub, 1) := by decide +kernel
theorem d23_16 : decode jdk_68_method_10_code 16 = .ok (.istore 4, 2) := by decide +kernel
theorem d23_18 : decode jdk_68_method_10_code 18 = .ok (.iload_n 2, 1) := by decide +kernel
theorem d23_19 : decode jdk_68_method_10_code 19 = .ok (.iload 4, 2) := by decide +kernel
theorem d23_21 : decode jdk_68_method_10_code 21 = .ok (.iload_n 2, 1) := by decide +kernel
theorem d23_22 : decode jdk_68_method_10_code 22 = .ok (.iconst 2, 1) := by decide +kernel
theorem d23_23 : decode jdk_68_method_10_code 23 = .ok (.aload_n 0, 1) := by decide +kernel
theorem d23_24 : decode jdk_68_method_10_code 24 = .ok (.getfield 22, 3) := by decide +kernel
theorem d23_27 : decode jdk_68_method_10_code 27 = .ok (.ishl, 1) := by decide +kernel
theorem d23_28 : decode jdk_68_method_10_code 28 = .ok (.iadd, 1) := by decide +kernel
theorem d23_29 : decode jdk_68_method_10_code 29 = .ok (.invokestatic 114, 3) := by decide +kernel
theorem pd_14 : parseMethodDescriptor "(III)I" = some ⟨[.int, .int, .int], some .int⟩ := by decide +kernel
theorem d23_32 : decode jdk_68_method_10_code 32 = .ok (.istore 5, 2) := by decide +kernel
theorem d23_34 : decode jdk_68_method_10_code 34 = .ok (.iload 5, 2) := by decide +kernel
theorem d23_36 : decode jdk_68_method_10_code 36 = .ok (.ldc 39, 2) := by decide +kernel
theorem d23_38 : decode jdk_68_method_10_code 38 = .ok (.if_icmp .ne 13, 3) := by decide +kernel
theorem d23_51 : decode jdk_68_method_10_code 51 = .ok (.iload 5, 2) := by decide +kernel
theorem d23_53 : decode jdk_68_method_10_code 53 = .ok (.aload_n 0, 1) := by decide +kernel
theorem d23_54 : decode jdk_68_method_10_code 54 = .ok (.getfield 22, 3) := by decide +kernel
theorem d23_57 : decode jdk_68_method_10_code 57 = .ok (.ishr, 1) := by decide +kernel
theorem d23_58 : decode jdk_68_method_10_code 58 = .ok (.ireturn, 1) := by decide +kernel
def Q_rm_nc_24_16 (Z : State) (r0 : Addr) (rv : Addr) (kv : ClassId) (vv : List Value) (h0 : Heap) (n0 : Nat) (v : Option Value) (h : Heap) (L : List Loc) : Prop := (v = some (.int (34 : Int32)) ∧ Fr n0 L ∧ h = h0)
set_option maxRecDepth 65536 in
set_option maxHeartbeats 40000000 in
theorem rm_nc_24_16 (l : Launch) (Z : State) (a0 : Array Value) (hw : ∀ d ∈ tables_1, d.before a0 Z = true) (ws : List Jvm.Cond) (r0 : Addr) (rv : Addr) (kv : ClassId) (vv : List Value) (h0 : Heap) (n0 : Nat) (Z0 : n0 ≤ h0.size) (uE : Exa Z h0 r0 "java/lang/StringBuilder") (uv : Fld Z h0 r0 "java/lang/AbstractStringBuilder" "value" "[B" (.ref rv)) (uc : Fld Z h0 r0 "java/lang/AbstractStringBuilder" "coder" "B" (.int (0 : Int32))) (uV : Arv Z h0 rv kv .byte (16 : Int32) vv (.int (0 : Int32))) :
    MetFree l (⟨"java/lang/AbstractStringBuilder", "newCapacity", "(I)I"⟩ : MethodName) (head1 (Jvm.Cond.code (⟨"java/lang/AbstractStringBuilder", "newCapacity", "(I)I"⟩ : MethodName) jdk_68_method_10_code 6 (some .int) :: ws) ({ frames := 2, cells := 0, slots := 0, locals := 29 } : Room)) (fun a U => a = #[(.ref r0), (.int (24 : Int32))] ∧ Z.Warmed39 U.vm ∧ U.heap = h0) (fun _ _ _ _ _ => True) (fun _ U o U' => ∃ v L, o = .returned v ∧ Q_rm_nc_24_16 Z r0 rv kv vv h0 n0 v U'.heap L ∧ FrameEnd U o U' L ({ frames := 2, cells := 0, slots := 0, locals := 29 } : Room).cells ({ frames := 2, cells := 0, slots := 0, locals := 29 } : Room).slots) := by
  refine MetFree.of_bodySF (plainFor_of_name pn_1) hisR ?_
  intro p e s m args below meth c s₁ Bd hml0 hP hK
  obtain ⟨rfl, hZ, hh⟩ := hP
  have hx := Bd.exec
  have hby := Bd.bytes
  have hml : c.maxLocals = 6 := hml0
  have hown : s.vm.findClass "java/lang/AbstractStringBuilder" = some m.cls := findClass_of_methodNamed Bd.named
  have hnm := (name_of_methodNamed Bd.named Bd.method).1
  have X0 : Stand p l e ({ frames := 2, cells := 0, slots := 0, locals := 29 } : Room) s m #[(.ref r0), (.int (24 : Int32))] below meth c s₁ [] 0 0 := Stand.of_body Bd
  have e0 : s₁.heap = h0 := by rw [← hh, Bd.state]; rfl
  have N0 := Fr.nil n0
  have pre0 : ∀ t, Steps p.tables e below (s₁.setTop (mkF m 0 #[vr r0, vi (24 : Int32), uu, uu, uu, uu] [])) t → Steps p.tables e below (s₁.setTop (entryFrame m #[(.ref r0), (.int (24 : Int32))] 6)) t := fun t k => castTop (ef_35 m r0) k
  obtain ⟨T1, X1, e1, st1⟩ := getF X0 hx hZ hown (host := "") (Or.inl (wd hw 96 rfl)) Via.refl e0 uv (g := (mkF m 1 #[vr r0, vi (24 : Int32), uu, uu, uu, uu] [(.ref r0)])) rfl rfl (hb hby d23_1)
  obtain ⟨cl2, Ar2, q2, S2, Nn2, H2, G2⟩ := (id uV)
  obtain ⟨T3, X3, e3, st3⟩ := getF X1 hx hZ hown (host := "") (Or.inl (wd hw 98 rfl)) Via.refl e1 uc (g := (mkF m 8 #[vr r0, vi (24 : Int32), vi (16 : Int32), uu, uu, uu] [(.ref r0), (.int (24 : Int32))])) rfl rfl (hb hby d23_8)
  obtain ⟨T4, X4, e4, st4⟩ := getF X3 hx hZ hown (host := "") (Or.inl (wd hw 98 rfl)) Via.refl e3 uc (g := (mkF m 24 #[vr r0, vi (24 : Int32), vi (16 : Int32), vi (24 : Int32), vi (8 : Int32), uu] [(.ref r0), (.int (2 : Int32)), (.int (16 : Int32)), (.int (8 : Int32)), (.int (16 : Int32))])) rfl rfl (hb hby d23_24)
  obtain ⟨_, _, ⟨T5, Lw5, kw5, nw5⟩, -, X5, ⟨Lc5, hQ5, lq5, yq5, zq5⟩, st5⟩ := Jvm.LawKit.callS X4 hx (y := (⟨"jdk/internal/util/ArraysSupport", "newLength", "(III)I"⟩ : MethodName)) hown (mvT hZ (wd hw 156 rfl)) (mvT hZ (wd hw 157 rfl)) (mvT hZ (wd hw 158 rfl)) (mvT hZ (wd hw 159 rfl)) (by decide) (backOf (W := 0) (rm_nl_16_8_18 l Z a0 hw []  h0 n0 Z0) hZ (wd hw 159 rfl) (wd hw 158 rfl) (by decide) (by decide)) (g := (mkF m 29 #[vr r0, vi (24 : Int32), vi (16 : Int32), vi (24 : Int32), vi (8 : Int32), uu] [(.int (18 : Int32)), (.int (8 : Int32)), (.int (16 : Int32))])) rfl (by rw [hml]; rfl) (argsL := [(.int (16 : Int32)), (.int (8 : Int32)), (.int (18 : Int32))]) (rest := []) (lenOf pd_14 rfl) rfl (by show 2 * 0 + _ ≤ _; exact Nat.le_of_eq rfl) (hb hby d23_29) (fun _ _ => ⟨rfl, e4, (by decide : 0 + 0 ≤ _), (by decide : 0 + 0 ≤ _)⟩)
  dsimp only [Pt.U, Pt.locs, Pt.cells, Pt.slots] at X5 lq5 yq5 zq5 st5 hQ5
  have X5 := own_reb X5 lq5 yq5 zq5
  obtain ⟨rfl, Nq5, eh5⟩ := hQ5
  have N5 := Fr.app N0 Nq5
  obtain ⟨T6, X6, e6, st6⟩ := getF X5 hx hZ hown (host := "") (Or.inl (wd hw 98 rfl)) Via.refl eh5 uc (g := (mkF m 54 #[vr r0, vi (24 : Int32), vi (16 : Int32), vi (24 : Int32), vi (8 : Int32), vi (34 : Int32)] [(.ref r0), (.int (34 : Int32))])) rfl rfl (hb hby d23_54)
  obtain ⟨fs, hr, hrun, hended, hW, hsame⟩ := X6.leave (v := some (.int (34 : Int32))) (fun h => by rw [Bd.returns] at h; cases h)
  refine ⟨_, _, pre0 _ ?_, hrun, hended, _, _, rfl, ?_, ⟨_, rfl⟩, hW, hsame.mono (by decide) (by decide)⟩
  · show SS p e below s₁ (mkF m 0 #[vr r0, vi (24 : Int32), uu, uu, uu, uu] []) _
    refine XS.aloadN X0.here hx rfl (hb hby d23_0) rfl rfl ?_
    show SS p e below s₁ (mkF m 1 #[vr r0, vi (24 : Int32), uu, uu, uu, uu] [(.ref r0)]) _
    refine st1 _ ?_
    show SS p e below T1 (mkF m 4 #[vr r0, vi (24 : Int32), uu, uu, uu, uu] [(.ref rv)]) _
    refine X1.arraylength hx (own_at e1 Ar2.1) (State.isArrayOf_alike hZ.alike Ar2.2.1) (g := (mkF m 4 #[vr r0, vi (24 : Int32), uu, uu, uu, uu] [(.ref rv)])) rfl rfl (hb hby d23_4) _ ?_
    rw [len_of S2 Nn2]
    show SS p e below T1 (mkF m 5 #[vr r0, vi (24 : Int32), uu, uu, uu, uu] [(.int (16 : Int32))]) _
    refine XS.istoreN X1.here hx rfl (hb hby d23_5) rfl (l' := #[vr r0, vi (24 : Int32), vi (16 : Int32), uu, uu, uu]) rfl ?_
    show SS p e below T1 (mkF m 6 #[vr r0, vi (24 : Int32), vi (16 : Int32), uu, uu, uu] []) _
    refine XS.iloadN X1.here hx rfl (hb hby d23_6) rfl ?_
    show SS p e below T1 (mkF m 7 #[vr r0, vi (24 : Int32), vi (16 : Int32), uu, uu, uu] [(.int (24 : Int32))]) _
    refine XS.aloadN X1.here hx rfl (hb hby d23_7) rfl rfl ?_
    show SS p e below T1 (mkF m 8 #[vr r0, vi (24 : Int32), vi (16 : Int32), uu, uu, uu] [(.ref r0), (.int (24 : Int32))]) _
    refine st3 _ ?_
    show SS p e below T3 (mkF m 11 #[vr r0, vi (24 : Int32), vi (16 : Int32), uu, uu, uu] [(.int (0 : Int32)), (.int (24 : Int32))]) _
    refine XS.ishl X3.here hx rfl (hb hby d23_11) rfl ?_
    show SS p e below T3 (mkF m 12 #[vr r0, vi (24 : Int32), vi (16 : Int32), uu, uu, uu] [(.int ((24 : Int32) <<< ((0 : Int32) &&& 31)))]) _
    rw [(show ((24 : Int32) <<< ((0 : Int32) &&& 31)) = (24 : Int32) from by decide)]
    show SS p e below T3 (mkF m 12 #[vr r0, vi (24 : Int32), vi (16 : Int32), uu, uu, uu] [(.int (24 : Int32))]) _
    refine XS.istoreN X3.here hx rfl (hb hby d23_12) rfl (l' := #[vr r0, vi (24 : Int32), vi (16 : Int32), vi (24 : Int32), uu, uu]) rfl ?_
    show SS p e below T3 (mkF m 13 #[vr r0, vi (24 : Int32), vi (16 : Int32), vi (24 : Int32), uu, uu] []) _
    refine XS.iloadN X3.here hx rfl (hb hby d23_13) rfl ?_
    show SS p e below T3 (mkF m 14 #[vr r0, vi (24 : Int32), vi (16 : Int32), vi (24 : Int32), uu, uu] [(.int (24 : Int32))]) _
    refine XS.iloadN X3.here hx rfl (hb hby d23_14) rfl ?_
    show SS p e below T3 (mkF m 15 #[vr r0, vi (24 : Int32), vi (16 : Int32), vi (24 : Int32), uu, uu] [(.int (16 : Int32)), (.int (24 : Int32))]) _
    refine XS.isub X3.here hx rfl (hb hby d23_15) rfl ?_
    show SS p e below T3 (mkF m 16 #[vr r0, vi (24 : Int32), vi (16 : Int32), vi (24 : Int32), uu, uu] [(.int ((24 : Int32) - (16 : Int32)))]) _
    rw [(show ((24 : Int32) - (16 : Int32)) = (8 : Int32) from by decide)]
    show SS p e below T3 (mkF m 16 #[vr r0, vi (24 : Int32), vi (16 : Int32), vi (24 : Int32), uu, uu] [(.int (8 : Int32))]) _
    refine XS.istore X3.here hx rfl (hb hby d23_16) rfl (l' := #[vr r0, vi (24 : Int32), vi (16 : Int32), vi (24 : Int32), vi (8 : Int32), uu]) rfl ?_
    show SS p e below T3 (mkF m 18 #[vr r0, vi (24 : Int32), vi (16 : Int32), vi (24 : Int32), vi (8 : Int32), uu] []) _
    refine XS.iloadN X3.here hx rfl (hb hby d23_18) rfl ?_
    show SS p e below T3 (mkF m 19 #[vr r0, vi (24 : Int32), vi (16 : Int32), vi (24 : Int32), vi (8 : Int32), uu] [(.int (16 : Int32))]) _
    refine XS.iload X3.here hx rfl (hb hby d23_19) rfl ?_
    show SS p e below T3 (mkF m 21 #[vr r0, vi (24 : Int32), vi (16 : Int32), vi (24 : Int32), vi (8 : Int32), uu] [(.int (8 : Int32)), (.int (16 : Int32))]) _
    refine XS.iloadN X3.here hx rfl (hb hby d23_21) rfl ?_
    show SS p e below T3 (mkF m 22 #[vr r0, vi (24 : Int32), vi (16 : Int32), vi (24 : Int32), vi (8 : Int32), uu] [(.int (16 : Int32)), (.int (8 : Int32)), (.int (16 : Int32))]) _
    refine XS.iconst X3.here hx rfl (hb hby d23_22) ?_
    show SS p e below T3 (mkF m 23 #[vr r0, vi (24 : Int32), vi (16 : Int32), vi (24 : Int32), vi (8 : Int32), uu] [(.int (2 : Int32)), (.int (16 : Int32)), (.int (8 : Int32)), (.int (16 : Int32))]) _
    refine XS.aloadN X3.here hx rfl (hb hby d23_23) rfl rfl ?_
    show SS p e below T3 (mkF m 24 #[vr r0, vi (24 : Int32), vi (16 : Int32), vi (24 : Int32), vi (8 : Int32), uu] [(.ref r0), (.int (2 : Int32)), (.int (16 : Int32)), (.int (8 : Int32)), (.int (16 : Int32))]) _
    refine st4 _ ?_
    show SS p e below T4 (mkF m 27 #[vr r0, vi (24 : Int32), vi (16 : Int32), vi (24 : Int32), vi (8 : Int32), uu] [(.int (0 : Int32)), (.int (2 : Int32)), (.int (16 : Int32)), (.int (8 : Int32)), (.int (16 : Int32))]) _
    refine XS.ishl X4.here hx rfl (hb hby d23_27) rfl ?_
    show SS p e below T4 (mkF m 28 #[vr r0, vi (24 : Int32), vi (16 : Int32), vi (24 : Int32), vi (8 : Int32), uu] [(.int ((2 : Int32) <<< ((0 : Int32) &&& 31))), (.int (16 : Int32)), (.int (8 : Int32)), (.int (16 : Int32))]) _
    rw [(show ((2 : Int32) <<< ((0 : Int32) &&& 31)) = (2 : Int32) from by decide)]
    show SS p e below T4 (mkF m 28 #[vr r0, vi (24 : Int32), vi (16 : Int32), vi (24 : Int32), vi (8 : Int32), uu] [(.int (2 : Int32)), (.int (16 : Int32)), (.int (8 : Int32)), (.int (16 : Int32))]) _
    refine XS.iadd X4.here hx rfl (hb hby d23_28) rfl ?_
    show SS p e below T4 (mkF m 29 #[vr r0, vi (24 : Int32), vi (16 : Int32), vi (24 : Int32), vi (8 : Int32), uu] [(.int ((16 : Int32) + (2 : Int32))), (.int (8 : Int32)), (.int (16 : Int32))]) _
    rw [(show ((16 : Int32) + (2 : Int32)) = (18 : Int32) from by decide)]
    show SS p e below T4 (mkF m 29 #[vr r0, vi (24 : Int32), vi (16 : Int32), vi (24 : Int32), vi (8 : Int32), uu] [(.int (18 : Int32)), (.int (8 : Int32)), (.int (16 : Int32))]) _
    refine st5 _ ?_
    show SS p e below T5 (mkF m 32 #[vr r0, vi (24 : Int32), vi (16 : Int32), vi (24 : Int32), vi (8 : Int32), uu] [(.int (34 : Int32))]) _
    refine XS.istore X5.here hx rfl (hb hby d23_32) rfl (l' := #[vr r0, vi (24 : Int32), vi (16 : Int32), vi (24 : Int32), vi (8 : Int32), vi (34 : Int32)]) rfl ?_
    show SS p e below T5 (mkF m 34 #[vr r0, vi (24 : Int32), vi (16 : Int32), vi (24 : Int32), vi (8 : Int32), vi (34 : Int32)] []) _
    refine XS.iload X5.here hx rfl (hb hby d23_34) rfl ?_
    show SS p e below T5 (mkF m 36 #[vr r0, vi (24 : Int32), vi (16 : Int32), vi (24 : Int32), vi (8 : Int32), vi (34 : Int32)] [(.int (34 : Int32))]) _
    refine X5.ldcInt hx hown (mvT hZ (wd hw 165 rfl)) (g := (mkF m 36 #[vr r0, vi (24 : Int32), vi (16 : Int32), vi (24 : Int32), vi (8 : Int32), vi (34 : Int32)] [(.int (34 : Int32))])) rfl (hb hby d23_36) _ ?_
    show SS p e below T5 (mkF m 38 #[vr r0, vi (24 : Int32), vi (16 : Int32), vi (24 : Int32), vi (8 : Int32), vi (34 : Int32)] [(.int (2147483647 : Int32)), (.int (34 : Int32))]) _
    refine XS.icmpYes X5.here hx rfl (pc0 := 38) (pc' := 51) rfl (hb hby d23_38) rfl (feq (by decide : ¬ ((34 : Int32) = (2147483647 : Int32)))).2 (by decide) (by decide) ?_
    show SS p e below T5 (mkF m 51 #[vr r0, vi (24 : Int32), vi (16 : Int32), vi (24 : Int32), vi (8 : Int32), vi (34 : Int32)] []) _
    refine XS.iload X5.here hx rfl (hb hby d23_51) rfl ?_
    show SS p e below T5 (mkF m 53 #[vr r0, vi (24 : Int32), vi (16 : Int32), vi (24 : Int32), vi (8 : Int32), vi (34 : Int32)] [(.int (34 : Int32))]) _
    refine XS.aloadN X5.here hx rfl (hb hby d23_53) rfl rfl ?_
    show SS p e below T5 (mkF m 54 #[vr r0, vi (24 : Int32), vi (16 : Int32), vi (24 : Int32), vi (8 : Int32), vi (34 : Int32)] [(.ref r0), (.int (34 : Int32))]) _
    refine st6 _ ?_
    show SS p e below T6 (mkF m 57 #[vr r0, vi (24 : Int32), vi (16 : Int32), vi (24 : Int32), vi (8 : Int32), vi (34 : Int32)] [(.int (0 : Int32)), (.int (34 : Int32))]) _
    refine XS.ishr X6.here hx rfl (hb hby d23_57) rfl ?_
    show SS p e below T6 (mkF m 58 #[vr r0, vi (24 : Int32), vi (16 : Int32), vi (24 : Int32), vi (8 : Int32), vi (34 : Int32)] [(.int ((34 : Int32) >>> ((0 : Int32) &&& 31)))]) _
    rw [own_shr0 _]
    show SS p e below T6 (mkF m 58 #[vr r0, vi (24 : Int32), vi (16 : Int32), vi (24 : Int32), vi (8 : Int32), vi (34 : Int32)] [(.int (34 : Int32))]) _
    exact retI X6 hx Bd.returns (hb hby d23_58) hr
  · show Q_rm_nc_24_16 Z r0 rv kv vv h0 n0 _ T6.heap _
    rw [e6]
    exact ⟨rfl, N5, rfl⟩
theorem ef_36 (m : MethodId) (x0 : Addr) : entryFrame m #[(.ref x0), (.int (34 : Int32))] 3 = mkF m 0 #[vr x0, vi (34 : Int32), uu] [] := by first | (simp [entryFrame, mkF, argsToLocals, Value.category]; done) | rfl
theorem d26_0 : decode jdk_65_method_121_code 0 = .ok (.iload_n 1, 1) := by decide +kernel
theorem d26_1 : decode jdk_65_method_121_code 1 = .ok (.aload_n 0, 1) := by decide +kernel
theorem d26_2 : decode jdk_65_method_121_code 2 = .ok (.arraylength, 1) := by decide +kernel
theorem d26_3 : decode jdk_65_method_121_code 3 = .ok (.if_icmp .ne 11, 3) := by decide +kernel
theorem d26_14 : decode jdk_65_method_121_code 14 = .ok (.iload_n 1, 1) := by decide +kernel
theorem d26_15 : decode jdk_65_method_121_code 15 = .ok (.newarray .byte, 2) := by decide +kernel
theorem d26_17 : decode jdk_65_method_121_code 17 = .ok (.astore_n 2, 1) := by decide +kernel
theorem d26_18 : decode jdk_65_method_121_code 18 = .ok (.aload_n 0, 1) := by decide +kernel
theorem d26_19 : decode jdk_65_method_121_code 19 = .ok (.iconst 0, 1) := by decide +kernel
theorem d26_20 : decode jdk_65_method_121_code 20 = .ok (.aload_n 2, 1) := by decide +kernel
theorem d26_21 : decode jdk_65_method_121_code 21 = .ok (.iconst 0, 1) := by decide +kernel
theorem d26_22 : decode jdk_65_method_121_code 22 = .ok (.aload_n 0, 1) := by decide +kernel
theorem d26_23 : decode jdk_65_method_121_code 23 = .ok (.arraylength, 1) := by decide +kernel
theorem d26_24 : decode jdk_65_method_121_code 24 = .ok (.iload_n 1, 1) := by decide +kernel
theorem d26_25 : decode jdk_65_method_121_code 25 = .ok (.invokestatic 304, 3) := by decide +kernel
theorem d26_28 : decode jdk_65_method_121_code 28 = .ok (.invokestatic 150, 3) := by decide +kernel
theorem d26_31 : decode jdk_65_method_121_code 31 = .ok (.aload_n 2, 1) := by decide +kernel
theorem d26_32 : decode jdk_65_method_121_code 32 = .ok (.areturn, 1) := by decide +kernel
def Q_rm_co_16_34 (Z : State) (r0 : Addr) (kv : ClassId) (vv : List Value) (h0 : Heap) (n0 : Nat) (v : Option Value) (h : Heap) (L : List Loc) : Prop := ∃ (nb : Addr), ∃ (nk : ClassId), ∃ (nv : List Value), (v = some (.ref nb) ∧ Fr n0 L ∧ Keep h0 h [] ∧ h0.size ≤ nb ∧ Exa Z h nb "[B" ∧ Arv Z h nb nk .byte (34 : Int32) nv (.int (0 : Int32)) ∧ nv.length = 34)
set_option maxRecDepth 65536 in
set_option maxHeartbeats 40000000 in
theorem rm_co_16_34 (l : Launch) (Z : State) (a0 : Array Value) (hw : ∀ d ∈ tables_1, d.before a0 Z = true) (ws : List Jvm.Cond) (r0 : Addr) (kv : ClassId) (vv : List Value) (h0 : Heap) (n0 : Nat) (Z0 : n0 ≤ h0.size) (uV : Arv Z h0 r0 kv .byte (16 : Int32) vv (.int (0 : Int32))) :
    MetFree l (⟨"java/util/Arrays", "copyOf", "([BI)[B"⟩ : MethodName) (head1 (Jvm.Cond.code (⟨"java/util/Arrays", "copyOf", "([BI)[B"⟩ : MethodName) jdk_65_method_121_code 3 (some (.array .byte)) :: ws) ({ frames := 1, cells := 1, slots := 34, locals := 18 } : Room)) (fun a U => a = #[(.ref r0), (.int (34 : Int32))] ∧ Z.Warmed39 U.vm ∧ U.heap = h0) (fun _ _ _ _ _ => True) (fun _ U o U' => ∃ v L, o = .returned v ∧ Q_rm_co_16_34 Z r0 kv vv h0 n0 v U'.heap L ∧ FrameEnd U o U' L ({ frames := 1, cells := 1, slots := 34, locals := 18 } : Room).cells ({ frames := 1, cells := 1, slots := 34, locals := 18 } : Room).slots) := by
  refine MetFree.of_bodySF (plainFor_of_name pn_3) hisR ?_
  intro p e s m args below meth c s₁ Bd hml0 hP hK
  obtain ⟨rfl, hZ, hh⟩ := hP
  have hx := Bd.exec
  have hby := Bd.bytes
  have hml : c.maxLocals = 3 := hml0
  have hown : s.vm.findClass "java/util/Arrays" = some m.cls := findClass_of_methodNamed Bd.named
  have hnm := (name_of_methodNamed Bd.named Bd.method).1
  have X0 : Stand p l e ({ frames := 1, cells := 1, slots := 34, locals := 18 } : Room) s m #[(.ref r0), (.int (34 : Int32))] below meth c s₁ [] 0 0 := Stand.of_body Bd
  have e0 : s₁.heap = h0 := by rw [← hh, Bd.state]; rfl
  have N0 := Fr.nil n0
  have pre0 : ∀ t, Steps p.tables e below (s₁.setTop (mkF m 0 #[vr r0, vi (34 : Int32), uu] [])) t → Steps p.tables e below (s₁.setTop (entryFrame m #[(.ref r0), (.int (34 : Int32))] 3)) t := fun t k => castTop (ef_36 m r0) k
  obtain ⟨cl1, Ar1, q1, S1, Nn1, H1, G1⟩ := (id uV)
  obtain ⟨T2, h2, k2, X2, e2, E2, A2, AX2, st2⟩ := newPE X0 hx hZ (wd hw 3 rfl) e0 (g := (mkF m 15 #[vr r0, vi (34 : Int32), uu] [(.int (34 : Int32))])) rfl (hb hby d26_15) rfl (by decide) (cap := 34) (by decide) (by decide) (by decide) (by decide) (ad := "[B") (by decide)
  obtain ⟨b2, g2⟩ : ∃ z, z = h0.size := ⟨_, rfl⟩
  rw [← g2] at A2 AX2 st2
  have ne_r0_b2 : r0 ≠ b2 := Nat.ne_of_lt (Nat.lt_of_lt_of_le uV.lt (Nat.le_of_eq g2.symm))
  have V2 : Arv Z h2 b2 k2 .byte (34 : Int32) [(.int (0 : Int32)), (.int (0 : Int32)), (.int (0 : Int32)), (.int (0 : Int32)), (.int (0 : Int32)), (.int (0 : Int32)), (.int (0 : Int32)), (.int (0 : Int32)), (.int (0 : Int32)), (.int (0 : Int32)), (.int (0 : Int32)), (.int (0 : Int32)), (.int (0 : Int32)), (.int (0 : Int32)), (.int (0 : Int32)), (.int (0 : Int32)), (.int (0 : Int32)), (.int (0 : Int32)), (.int (0 : Int32)), (.int (0 : Int32)), (.int (0 : Int32)), (.int (0 : Int32)), (.int (0 : Int32)), (.int (0 : Int32)), (.int (0 : Int32)), (.int (0 : Int32)), (.int (0 : Int32)), (.int (0 : Int32)), (.int (0 : Int32)), (.int (0 : Int32)), (.int (0 : Int32)), (.int (0 : Int32)), (.int (0 : Int32)), (.int (0 : Int32))] (.int (0 : Int32)) := (Arv.new A2 (by decide)).pad (pad_rep [] (.int (0 : Int32)) 34)
  have g_b2 : n0 ≤ b2 := Nat.le_trans Z0 (Nat.le_of_eq g2.symm)
  have sz_b2 : h0.size ≤ b2 := Nat.le_trans (Keep.refl h0 []).1 (Nat.le_of_eq g2.symm)
  have K2 : Keep h0 h2 [] := (Keep.refl h0 []).ext E2
  have Z2 : n0 ≤ h2.size := Nat.le_trans Z0 E2.1
  have c4 := (uV.ext E2)
  obtain ⟨cl3, Ar3, q3, S3, Nn3, H3, G3⟩ := (id c4)
  obtain ⟨_, _, ⟨T5, Lw5, kw5, nw5⟩, -, X5, ⟨Lc5, hQ5, lq5, yq5, zq5⟩, st5⟩ := Jvm.LawKit.callS X2 hx (y := (⟨"java/lang/Math", "min", "(II)I"⟩ : MethodName)) hown (mvT hZ (wd hw 169 rfl)) (mvT hZ (wd hw 170 rfl)) (mvT hZ (wd hw 162 rfl)) (mvT hZ (wd hw 171 rfl)) (by decide) (backOf (W := 4) (rmMin l Z a0 hw [] (16 : Int32) (34 : Int32) h2 n0 Z2) hZ (wd hw 171 rfl) (wd hw 162 rfl) (by decide) (by decide)) (g := (mkF m 25 #[vr r0, vi (34 : Int32), vr b2] [(.int (34 : Int32)), (.int (16 : Int32)), (.int (0 : Int32)), (.ref b2), (.int (0 : Int32)), (.ref r0)])) rfl (by rw [hml]; rfl) (argsL := [(.int (16 : Int32)), (.int (34 : Int32))]) (rest := [(.int (0 : Int32)), (.ref b2), (.int (0 : Int32)), (.ref r0)]) (lenOf pd_7 rfl) rfl (by show 2 * 0 + _ ≤ _; exact Nat.le_of_eq rfl) (hb hby d26_25) (fun _ _ => ⟨rfl, e2, (by decide : 1 + 0 ≤ _), (by decide : 34 + 0 ≤ _)⟩)
  dsimp only [Pt.U, Pt.locs, Pt.cells, Pt.slots] at X5 lq5 yq5 zq5 st5 hQ5
  have X5 := own_reb X5 lq5 yq5 zq5
  obtain ⟨rfl, Nq5, eh5⟩ := hQ5
  have N5 := Fr.app N0 Nq5
  obtain ⟨T6, h6, L6, X6, e6, N6, Kq6, V6, st6⟩ := cpA X5 hx hZ hown (wd hw 172 rfl) (wd hw 149 rfl) (wd hw 147 rfl) (wd hw 148 rfl) eh5 (us := ((List.range ((16 : Int32)).toNatClampNeg).map fun i => List.getD vv (((0 : Int32)).toNatClampNeg + i) (.int (0 : Int32)))) c4 V2 (Or.inl ⟨rfl, rfl⟩) (by decide) (by decide) (by decide) (by decide) (by decide) rfl (by decide) N5 g_b2 (g := (mkF m 28 #[vr r0, vi (34 : Int32), vr b2] [(.int (16 : Int32)), (.int (0 : Int32)), (.ref b2), (.int (0 : Int32)), (.ref r0)])) rfl (by rw [hml]; rfl) rfl (hb hby d26_28) (by decide) (W := 0) (by show 2 * 0 + _ ≤ _; exact Nat.le_of_eq rfl) (by decide)
  have K6 : Keep h0 h6 [] := K2.trans Kq6 (allS (Or.inr sz_b2) all0)
  have Z6 : n0 ≤ h6.size := Nat.le_trans Z2 Kq6.1
  have c7 := (AX2.keep Kq6)
  obtain ⟨fs, hr, hrun, hended, hW, hsame⟩ := X6.leave (v := some (.ref b2)) (fun h => by rw [Bd.returns] at h; cases h)
  refine ⟨_, _, pre0 _ ?_, hrun, hended, _, _, rfl, ?_, ⟨_, rfl⟩, hW, hsame.mono (by decide) (by decide)⟩
  · show SS p e below s₁ (mkF m 0 #[vr r0, vi (34 : Int32), uu] []) _
    refine XS.iloadN X0.here hx rfl (hb hby d26_0) rfl ?_
    show SS p e below s₁ (mkF m 1 #[vr r0, vi (34 : Int32), uu] [(.int (34 : Int32))]) _
    refine XS.aloadN X0.here hx rfl (hb hby d26_1) rfl rfl ?_
    show SS p e below s₁ (mkF m 2 #[vr r0, vi (34 : Int32), uu] [(.ref r0), (.int (34 : Int32))]) _
    refine X0.arraylength hx (own_at e0 Ar1.1) (State.isArrayOf_alike hZ.alike Ar1.2.1) (g := (mkF m 2 #[vr r0, vi (34 : Int32), uu] [(.ref r0), (.int (34 : Int32))])) rfl rfl (hb hby d26_2) _ ?_
    rw [len_of S1 Nn1]
    show SS p e below s₁ (mkF m 3 #[vr r0, vi (34 : Int32), uu] [(.int (16 : Int32)), (.int (34 : Int32))]) _
    refine XS.icmpYes X0.here hx rfl (pc0 := 3) (pc' := 14) rfl (hb hby d26_3) rfl (feq (by decide : ¬ ((34 : Int32) = (16 : Int32)))).2 (by decide) (by decide) ?_
    show SS p e below s₁ (mkF m 14 #[vr r0, vi (34 : Int32), uu] []) _
    refine XS.iloadN X0.here hx rfl (hb hby d26_14) rfl ?_
    show SS p e below s₁ (mkF m 15 #[vr r0, vi (34 : Int32), uu] [(.int (34 : Int32))]) _
    refine st2 _ ?_
    show SS p e below T2 (mkF m 17 #[vr r0, vi (34 : Int32), uu] [(.ref b2)]) _
    refine XS.astoreN X2.here hx rfl (hb hby d26_17) rfl rfl (l' := #[vr r0, vi (34 : Int32), vr b2]) rfl ?_
    show SS p e below T2 (mkF m 18 #[vr r0, vi (34 : Int32), vr b2] []) _
    refine XS.aloadN X2.here hx rfl (hb hby d26_18) rfl rfl ?_
    show SS p e below T2 (mkF m 19 #[vr r0, vi (34 : Int32), vr b2] [(.ref r0)]) _
    refine XS.iconst X2.here hx rfl (hb hby d26_19) ?_
    show SS p e below T2 (mkF m 20 #[vr r0, vi (34 : Int32), vr b2] [(.int (0 : Int32)), (.ref r0)]) _
    refine XS.aloadN X2.here hx rfl (hb hby d26_20) rfl rfl ?_
    show SS p e below T2 (mkF m 21 #[vr r0, vi (34 : Int32), vr b2] [(.ref b2), (.int (0 : Int32)), (.ref r0)]) _
    refine XS.iconst X2.here hx rfl (hb hby d26_21) ?_
    show SS p e below T2 (mkF m 22 #[vr r0, vi (34 : Int32), vr b2] [(.int (0 : Int32)), (.ref b2), (.int (0 : Int32)), (.ref r0)]) _
    refine XS.aloadN X2.here hx rfl (hb hby d26_22) rfl rfl ?_
    show SS p e below T2 (mkF m 23 #[vr r0, vi (34 : Int32), vr b2] [(.ref r0), (.int (0 : Int32)), (.ref b2), (.int (0 : Int32)), (.ref r0)]) _
    refine X2.arraylength hx (own_at e2 Ar3.1) (State.isArrayOf_alike hZ.alike Ar3.2.1) (g := (mkF m 23 #[vr r0, vi (34 : Int32), vr b2] [(.ref r0), (.int (0 : Int32)), (.ref b2), (.int (0 : Int32)), (.ref r0)])) rfl rfl (hb hby d26_23) _ ?_
    rw [len_of S3 Nn3]
    show SS p e below T2 (mkF m 24 #[vr r0, vi (34 : Int32), vr b2] [(.int (16 : Int32)), (.int (0 : Int32)), (.ref b2), (.int (0 : Int32)), (.ref r0)]) _
    refine XS.iloadN X2.here hx rfl (hb hby d26_24) rfl ?_
    show SS p e below T2 (mkF m 25 #[vr r0, vi (34 : Int32), vr b2] [(.int (34 : Int32)), (.int (16 : Int32)), (.int (0 : Int32)), (.ref b2), (.int (0 : Int32)), (.ref r0)]) _
    refine st5 _ ?_
    show SS p e below T5 (mkF m 28 #[vr r0, vi (34 : Int32), vr b2] [(.int (if (34 : Int32) < (16 : Int32) then (34 : Int32) else (16 : Int32))), (.int (0 : Int32)), (.ref b2), (.int (0 : Int32)), (.ref r0)]) _
    rw [(show (if (34 : Int32) < (16 : Int32) then (34 : Int32) else (16 : Int32)) = (16 : Int32) from by decide)]
    show SS p e below T5 (mkF m 28 #[vr r0, vi (34 : Int32), vr b2] [(.int (16 : Int32)), (.int (0 : Int32)), (.ref b2), (.int (0 : Int32)), (.ref r0)]) _
    refine st6 _ ?_
    show SS p e below T6 (mkF m 31 #[vr r0, vi (34 : Int32), vr b2] []) _
    refine XS.aloadN X6.here hx rfl (hb hby d26_31) rfl rfl ?_
    show SS p e below T6 (mkF m 32 #[vr r0, vi (34 : Int32), vr b2] [(.ref b2)]) _
    exact retOut X6 hx Bd.returns rfl (Or.inr (Or.inr (Or.inr (Or.inr ⟨rfl, rfl, rfl⟩)))) (hb hby d26_32) hr
  · show Q_rm_co_16_34 Z r0 kv vv h0 n0 _ T6.heap _
    rw [e6]
    exact ⟨b2, k2, (List.take ((0 : Int32)).toNatClampNeg [(.int (0 : Int32)), (.int (0 : Int32)), (.int (0 : Int32)), (.int (0 : Int32)), (.int (0 : Int32)), (.int (0 : Int32)), (.int (0 : Int32)), (.int (0 : Int32)), (.int (0 : Int32)), (.int (0 : Int32)), (.int (0 : Int32)), (.int (0 : Int32)), (.int (0 : Int32)), (.int (0 : Int32)), (.int (0 : Int32)), (.int (0 : Int32)), (.int (0 : Int32)), (.int (0 : Int32)), (.int (0 : Int32)), (.int (0 : Int32)), (.int (0 : Int32)), (.int (0 : Int32)), (.int (0 : Int32)), (.int (0 : Int32)), (.int (0 : Int32)), (.int (0 : Int32)), (.int (0 : Int32)), (.int (0 : Int32)), (.int (0 : Int32)), (.int (0 : Int32)), (.int (0 : Int32)), (.int (0 : Int32)), (.int (0 : Int32)), (.int (0 : Int32))] ++ ((List.range ((16 : Int32)).toNatClampNeg).map fun i => List.getD vv (((0 : Int32)).toNatClampNeg + i) (.int (0 : Int32))) ++ List.drop (((0 : Int32)).toNatClampNeg + ((16 : Int32)).toNatClampNeg) [(.int (0 : Int32)), (.int (0 : Int32)), (.int (0 : Int32)), (.int (0 : Int32)), (.int (0 : Int32)), (.int (0 : Int32)), (.int (0 : Int32)), (.int (0 : Int32)), (.int (0 : Int32)), (.int (0 : Int32)), (.int (0 : Int32)), (.int (0 : Int32)), (.int (0 : Int32)), (.int (0 : Int32)), (.int (0 : Int32)), (.int (0 : Int32)), (.int (0 : Int32)), (.int (0 : Int32)), (.int (0 : Int32)), (.int (0 : Int32)), (.int (0 : Int32)), (.int (0 : Int32)), (.int (0 : Int32)), (.int (0 : Int32)), (.int (0 : Int32)), (.int (0 : Int32)), (.int (0 : Int32)), (.int (0 : Int32)), (.int (0 : Int32)), (.int (0 : Int32)), (.int (0 : Int32)), (.int (0 : Int32)), (.int (0 : Int32)), (.int (0 : Int32))]), rfl, N6, K6, sz_b2, c7, V6, (own_len3 (n := 34) rfl (by simp only [List.length_map, List.length_range]) (by decide))⟩
theorem ef_37 (m : MethodId) (x0 : Addr) : entryFrame m #[(.ref x0), (.int (24 : Int32))] 3 = mkF m 0 #[vr x0, vi (24 : Int32), uu] [] := by first | (simp [entryFrame, mkF, argsToLocals, Value.category]; done) | rfl
theorem d19_17 : decode jdk_68_method_9_code 17 = .ok (.aload_n 0, 1) := by decide +kernel
theorem d19_18 : decode jdk_68_method_9_code 18 = .ok (.aload_n 0, 1) := by decide +kernel
theorem d19_19 : decode jdk_68_method_9_code 19 = .ok (.getfield 15, 3) := by decide +kernel
theorem d19_22 : decode jdk_68_method_9_code 22 = .ok (.aload_n 0, 1) := by decide +kernel
theorem d19_23 : decode jdk_68_method_9_code 23 = .ok (.iload_n 1, 1) := by decide +kernel
theorem d19_24 : decode jdk_68_method_9_code 24 = .ok (.invokevirtual 104, 3) := by decide +kernel
theorem d19_27 : decode jdk_68_method_9_code 27 = .ok (.aload_n 0, 1) := by decide +kernel
theorem d19_28 : decode jdk_68_method_9_code 28 = .ok (.getfield 22, 3) := by decide +kernel
theorem d19_31 : decode jdk_68_method_9_code 31 = .ok (.ishl, 1) := by decide +kernel
theorem d19_32 : decode jdk_68_method_9_code 32 = .ok (.invokestatic 108, 3) := by decide +kernel
theorem pd_15 : parseMethodDescriptor "([BI)[B" = some ⟨[(.array .byte), .int], some (.array .byte)⟩ := by decide +kernel
theorem d19_35 : decode jdk_68_method_9_code 35 = .ok (.putfield 15, 3) := by decide +kernel
def Q_rm_ensG_24_16_1 (Z : State) (r0 : Addr) (rv : Addr) (kv : ClassId) (vv : List Value) (h0 : Heap) (n0 : Nat) (v : Option Value) (h : Heap) (L : List Loc) : Prop := ∃ (nb : Addr), ∃ (nk : ClassId), ∃ (nv : List Value), (v = none ∧ Fr n0 L ∧ Keep h0 h [r0] ∧ Fld Z h r0 "java/lang/AbstractStringBuilder" "value" "[B" (.ref nb) ∧ Fld Z h r0 "java/lang/AbstractStringBuilder" "coder" "B" (.int (0 : Int32)) ∧ Fld Z h r0 "java/lang/AbstractStringBuilder" "count" "I" (.int (1 : Int32)) ∧ h0.size ≤ nb ∧ Exa Z h nb "[B" ∧ Arv Z h nb nk .byte (34 : Int32) nv (.int (0 : Int32)) ∧ nv.length = 34)
set_option maxRecDepth 65536 in
set_option maxHeartbeats 40000000 in
theorem rm_ensG_24_16_1 (l : Launch) (Z : State) (a0 : Array Value) (hw : ∀ d ∈ tables_1, d.before a0 Z = true) (ws : List Jvm.Cond) (r0 : Addr) (rv : Addr) (kv : ClassId) (vv : List Value) (h0 : Heap) (n0 : Nat) (Z0 : n0 ≤ h0.size) (uE : Exa Z h0 r0 "java/lang/StringBuilder") (uv : Fld Z h0 r0 "java/lang/AbstractStringBuilder" "value" "[B" (.ref rv)) (uc : Fld Z h0 r0 "java/lang/AbstractStringBuilder" "coder" "B" (.int (0 : Int32))) (uV : Arv Z h0 rv kv .byte (16 : Int32) vv (.int (0 : Int32))) (uk : Fld Z h0 r0 "java/lang/AbstractStringBuilder" "count" "I" (.int (1 : Int32))) (ug : n0 ≤ r0) :
    MetFree l (⟨"java/lang/AbstractStringBuilder", "ensureCapacityInternal", "(I)V"⟩ : MethodName) (head1 (Jvm.Cond.code (⟨"java/lang/AbstractStringBuilder", "ensureCapacityInternal", "(I)V"⟩ : MethodName) jdk_68_method_9_code 3 none :: ws) ({ frames := 3, cells := 1, slots := 34, locals := 48 } : Room)) (fun a U => a = #[(.ref r0), (.int (24 : Int32))] ∧ Z.Warmed39 U.vm ∧ U.heap = h0) (fun _ _ _ _ _ => True) (fun _ U o U' => ∃ v L, o = .returned v ∧ Q_rm_ensG_24_16_1 Z r0 rv kv vv h0 n0 v U'.heap L ∧ FrameEnd U o U' L ({ frames := 3, cells := 1, slots := 34, locals := 48 } : Room).cells ({ frames := 3, cells := 1, slots := 34, locals := 48 } : Room).slots) := by
  refine MetFree.of_bodySF (plainFor_of_name pn_1) hisR ?_
  intro p e s m args below meth c s₁ Bd hml0 hP hK
  obtain ⟨rfl, hZ, hh⟩ := hP
  have hx := Bd.exec
  have hby := Bd.bytes
  have hml : c.maxLocals = 3 := hml0
  have hown : s.vm.findClass "java/lang/AbstractStringBuilder" = some m.cls := findClass_of_methodNamed Bd.named
  have hnm := (name_of_methodNamed Bd.named Bd.method).1
  have X0 : Stand p l e ({ frames := 3, cells := 1, slots := 34, locals := 48 } : Room) s m #[(.ref r0), (.int (24 : Int32))] below meth c s₁ [] 0 0 := Stand.of_body Bd
  have e0 : s₁.heap = h0 := by rw [← hh, Bd.state]; rfl
  have N0 := Fr.nil n0
  have pre0 : ∀ t, Steps p.tables e below (s₁.setTop (mkF m 0 #[vr r0, vi (24 : Int32), uu] [])) t → Steps p.tables e below (s₁.setTop (entryFrame m #[(.ref r0), (.int (24 : Int32))] 3)) t := fun t k => castTop (ef_37 m r0) k
  obtain ⟨T1, X1, e1, st1⟩ := getF X0 hx hZ hown (host := "") (Or.inl (wd hw 96 rfl)) Via.refl e0 uv (g := (mkF m 1 #[vr r0, vi (24 : Int32), uu] [(.ref r0)])) rfl rfl (hb hby d19_1)
  obtain ⟨cl2, Ar2, q2, S2, Nn2, H2, G2⟩ := (id uV)
  obtain ⟨T3, X3, e3, st3⟩ := getF X1 hx hZ hown (host := "") (Or.inl (wd hw 98 rfl)) Via.refl e1 uc (g := (mkF m 6 #[vr r0, vi (24 : Int32), uu] [(.ref r0), (.int (16 : Int32))])) rfl rfl (hb hby d19_6)
  obtain ⟨T4, X4, e4, st4⟩ := getF X3 hx hZ hown (host := "") (Or.inl (wd hw 96 rfl)) Via.refl e3 uv (g := (mkF m 19 #[vr r0, vi (24 : Int32), vi (16 : Int32)] [(.ref r0), (.ref r0)])) rfl rfl (hb hby d19_19)
  obtain ⟨cq5, kq5, q5a, q5b, q5c⟩ := isOf hZ e4 uE
  obtain ⟨_, _, ⟨T5, Lw5, kw5, nw5⟩, -, X5, ⟨Lc5, hQ5, lq5, yq5, zq5⟩, st5⟩ := X4.virtualBack hx (y := (⟨"java/lang/AbstractStringBuilder", "newCapacity", "(I)I"⟩ : MethodName)) (z := (⟨"java/lang/AbstractStringBuilder", "newCapacity", "(I)I"⟩ : MethodName)) hown (mvT hZ (wd hw 151 rfl)) (mvT hZ (own_decl (wd hw 152 rfl) (wd hw 155 rfl))) (notFace_of_selects (args := #[]) (mvT hZ (wd hw 154 rfl))) (mvT hZ (wd hw 154 rfl)) (mvT hZ (wd hw 152 rfl)) (by decide) (backOf (W := 2) (rm_nc_24_16 l Z a0 hw [] r0 rv kv vv h0 n0 Z0 uE uv uc uV) hZ (wd hw 155 rfl) (wd hw 92 rfl) (by decide) (by decide)) q5a q5c (g := (mkF m 24 #[vr r0, vi (24 : Int32), vi (16 : Int32)] [(.int (24 : Int32)), (.ref r0), (.ref rv), (.ref r0)])) rfl (by rw [hml]; rfl) (Steps.refl _) (argsL := [(.int (24 : Int32))]) (rest := [(.ref rv), (.ref r0)]) (lenOf pd_4 rfl) rfl (by show 2 * 0 + _ ≤ _; exact Nat.le_of_eq rfl) (hb hby d19_24) (fun _ _ => ⟨rfl, e4, (by decide : 0 + 0 ≤ _), (by decide : 0 + 0 ≤ _)⟩)
  dsimp only [Pt.U, Pt.locs, Pt.cells, Pt.slots] at X5 lq5 yq5 zq5 st5 hQ5
  have X5 := own_reb X5 lq5 yq5 zq5
  obtain ⟨rfl, Nq5, eh5⟩ := hQ5
  have N5 := Fr.app N0 Nq5
  obtain ⟨T6, X6, e6, st6⟩ := getF X5 hx hZ hown (host := "") (Or.inl (wd hw 98 rfl)) Via.refl eh5 uc (g := (mkF m 28 #[vr r0, vi (24 : Int32), vi (16 : Int32)] [(.ref r0), (.int (34 : Int32)), (.ref rv), (.ref r0)])) rfl rfl (hb hby d19_28)
  obtain ⟨_, _, ⟨T7, Lw7, kw7, nw7⟩, -, X7, ⟨Lc7, hQ7, lq7, yq7, zq7⟩, st7⟩ := Jvm.LawKit.callS X6 hx (y := (⟨"java/util/Arrays", "copyOf", "([BI)[B"⟩ : MethodName)) hown (mvT hZ (wd hw 166 rfl)) (mvT hZ (wd hw 167 rfl)) (mvT hZ (wd hw 56 rfl)) (mvT hZ (wd hw 168 rfl)) (by decide) (backOf (W := 1) (rm_co_16_34 l Z a0 hw [] rv kv vv h0 n0 Z0 uV) hZ (wd hw 168 rfl) (wd hw 56 rfl) (by decide) (by decide)) (g := (mkF m 32 #[vr r0, vi (24 : Int32), vi (16 : Int32)] [(.int (34 : Int32)), (.ref rv), (.ref r0)])) rfl (by rw [hml]; rfl) (argsL := [(.ref rv), (.int (34 : Int32))]) (rest := [(.ref r0)]) (lenOf pd_15 rfl) rfl (by show 2 * 0 + _ ≤ _; exact Nat.le_of_eq rfl) (hb hby d19_32) (fun _ _ => ⟨rfl, e6, (by decide : 0 + 1 ≤ _), (by decide : 0 + 34 ≤ _)⟩)
  dsimp only [Pt.U, Pt.locs, Pt.cells, Pt.slots] at X7 lq7 yq7 zq7 st7 hQ7
  have X7 := own_reb X7 lq7 yq7 zq7
  obtain ⟨nb_7, nk_7, nv_7, rfl, Nq7, Kq7, f7_0, f7_1, f7_2, f7_3⟩ := hQ7
  have N7 := Fr.app N5 Nq7
  have ne_r0_nb_7 : r0 ≠ nb_7 := Nat.ne_of_lt (Nat.lt_of_lt_of_le uE.lt f7_0)
  have ne_rv_nb_7 : rv ≠ nb_7 := Nat.ne_of_lt (Nat.lt_of_lt_of_le uV.lt f7_0)
  have g_nb_7 : n0 ≤ nb_7 := Nat.le_trans Z0 f7_0
  have sz_nb_7 : h0.size ≤ nb_7 := Nat.le_trans (Keep.refl h0 [r0]).1 f7_0
  have K7 : Keep h0 T7.heap [r0] := (Keep.refl h0 [r0]).trans Kq7 all0
  have Z7 : n0 ≤ T7.heap.size := Nat.le_trans Z0 Kq7.1
  have c9 := (uE.keep Kq7)
  have c10 := (uv.keep Kq7 nin0)
  obtain ⟨T8, h8, X8, e8, W8, st8⟩ := putF X7 hx hZ hown (host := "") (Or.inl (wd hw 96 rfl)) Via.refl rfl c10 c9 (Or.inl (wd hw 97 rfl)) (wd hw 83 rfl) (ty := (.array .byte)) (by decide) rfl rfl (g := (mkF m 35 #[vr r0, vi (24 : Int32), vi (16 : Int32)] [(.ref nb_7), (.ref r0)])) rfl rfl (hb hby d19_35)
  have Fw8 := c10.same W8
  have N8 := Fr.snoc X8 N7 ug
  have K8 : Keep h0 h8 [r0] := K7.wr W8 (Or.inl (List.mem_of_getElem? (i := 0) rfl))
  have Z8 : n0 ≤ h8.size := by rw [W8.size]; exact Z7
  have c11 := ((uc.keep Kq7 nin0).other W8 (Or.inr (slot_ne (Or.inl (wd hw 99 rfl)) (Or.inl (wd hw 97 rfl)) (by decide) (t := .byte) (t' := (.array .byte)) (by decide) (by decide))))
  have c12 := ((uk.keep Kq7 nin0).other W8 (Or.inr (slot_ne (Or.inl (wd hw 124 rfl)) (Or.inl (wd hw 97 rfl)) (by decide) (t := .int) (t' := (.array .byte)) (by decide) (by decide))))
  have c13 := (f7_1.wr W8)
  have c14 := (f7_2.other W8 (Ne.symm ne_r0_nb_7))
  obtain ⟨fs, hr, hrun, hended, hW, hsame⟩ := X8.leave (v := none) (fun _ => rfl)
  refine ⟨_, _, pre0 _ ?_, hrun, hended, _, _, rfl, ?_, ⟨_, rfl⟩, hW, hsame.mono (by decide) (by decide)⟩
  · show SS p e below s₁ (mkF m 0 #[vr r0, vi (24 : Int32), uu] []) _
    refine XS.aloadN X0.here hx rfl (hb hby d19_0) rfl rfl ?_
    show SS p e below s₁ (mkF m 1 #[vr r0, vi (24 : Int32), uu] [(.ref r0)]) _
    refine st1 _ ?_
    show SS p e below T1 (mkF m 4 #[vr r0, vi (24 : Int32), uu] [(.ref rv)]) _
    refine X1.arraylength hx (own_at e1 Ar2.1) (State.isArrayOf_alike hZ.alike Ar2.2.1) (g := (mkF m 4 #[vr r0, vi (24 : Int32), uu] [(.ref rv)])) rfl rfl (hb hby d19_4) _ ?_
    rw [len_of S2 Nn2]
    show SS p e below T1 (mkF m 5 #[vr r0, vi (24 : Int32), uu] [(.int (16 : Int32))]) _
    refine XS.aloadN X1.here hx rfl (hb hby d19_5) rfl rfl ?_
    show SS p e below T1 (mkF m 6 #[vr r0, vi (24 : Int32), uu] [(.ref r0), (.int (16 : Int32))]) _
    refine st3 _ ?_
    show SS p e below T3 (mkF m 9 #[vr r0, vi (24 : Int32), uu] [(.int (0 : Int32)), (.int (16 : Int32))]) _
    refine XS.ishr X3.here hx rfl (hb hby d19_9) rfl ?_
    show SS p e below T3 (mkF m 10 #[vr r0, vi (24 : Int32), uu] [(.int ((16 : Int32) >>> ((0 : Int32) &&& 31)))]) _
    rw [own_shr0 _]
    show SS p e below T3 (mkF m 10 #[vr r0, vi (24 : Int32), uu] [(.int (16 : Int32))]) _
    refine XS.istoreN X3.here hx rfl (hb hby d19_10) rfl (l' := #[vr r0, vi (24 : Int32), vi (16 : Int32)]) rfl ?_
    show SS p e below T3 (mkF m 11 #[vr r0, vi (24 : Int32), vi (16 : Int32)] []) _
    refine XS.iloadN X3.here hx rfl (hb hby d19_11) rfl ?_
    show SS p e below T3 (mkF m 12 #[vr r0, vi (24 : Int32), vi (16 : Int32)] [(.int (24 : Int32))]) _
    refine XS.iloadN X3.here hx rfl (hb hby d19_12) rfl ?_
    show SS p e below T3 (mkF m 13 #[vr r0, vi (24 : Int32), vi (16 : Int32)] [(.int (16 : Int32)), (.int (24 : Int32))]) _
    refine XS.isub X3.here hx rfl (hb hby d19_13) rfl ?_
    show SS p e below T3 (mkF m 14 #[vr r0, vi (24 : Int32), vi (16 : Int32)] [(.int ((24 : Int32) - (16 : Int32)))]) _
    refine XS.ifNo X3.here hx rfl (hb hby d19_14) rfl ((if0 _ _).trans (tlt (by decide : (0 : Int32) < ((24 : Int32) - (16 : Int32)))).2.2.2) ?_
    show SS p e below T3 (mkF m 17 #[vr r0, vi (24 : Int32), vi (16 : Int32)] []) _
    refine XS.aloadN X3.here hx rfl (hb hby d19_17) rfl rfl ?_
    show SS p e below T3 (mkF m 18 #[vr r0, vi (24 : Int32), vi (16 : Int32)] [(.ref r0)]) _
    refine XS.aloadN X3.here hx rfl (hb hby d19_18) rfl rfl ?_
    show SS p e below T3 (mkF m 19 #[vr r0, vi (24 : Int32), vi (16 : Int32)] [(.ref r0), (.ref r0)]) _
    refine st4 _ ?_
    show SS p e below T4 (mkF m 22 #[vr r0, vi (24 : Int32), vi (16 : Int32)] [(.ref rv), (.ref r0)]) _
    refine XS.aloadN X4.here hx rfl (hb hby d19_22) rfl rfl ?_
    show SS p e below T4 (mkF m 23 #[vr r0, vi (24 : Int32), vi (16 : Int32)] [(.ref r0), (.ref rv), (.ref r0)]) _
    refine XS.iloadN X4.here hx rfl (hb hby d19_23) rfl ?_
    show SS p e below T4 (mkF m 24 #[vr r0, vi (24 : Int32), vi (16 : Int32)] [(.int (24 : Int32)), (.ref r0), (.ref rv), (.ref r0)]) _
    refine st5.trans ?_
    show SS p e below T5 (mkF m 27 #[vr r0, vi (24 : Int32), vi (16 : Int32)] [(.int (34 : Int32)), (.ref rv), (.ref r0)]) _
    refine XS.aloadN X5.here hx rfl (hb hby d19_27) rfl rfl ?_
    show SS p e below T5 (mkF m 28 #[vr r0, vi (24 : Int32), vi (16 : Int32)] [(.ref r0), (.int (34 : Int32)), (.ref rv), (.ref r0)]) _
    refine st6 _ ?_
    show SS p e below T6 (mkF m 31 #[vr r0, vi (24 : Int32), vi (16 : Int32)] [(.int (0 : Int32)), (.int (34 : Int32)), (.ref rv), (.ref r0)]) _
    refine XS.ishl X6.here hx rfl (hb hby d19_31) rfl ?_
    show SS p e below T6 (mkF m 32 #[vr r0, vi (24 : Int32), vi (16 : Int32)] [(.int ((34 : Int32) <<< ((0 : Int32) &&& 31))), (.ref rv), (.ref r0)]) _
    rw [(show ((34 : Int32) <<< ((0 : Int32) &&& 31)) = (34 : Int32) from by decide)]
    show SS p e below T6 (mkF m 32 #[vr r0, vi (24 : Int32), vi (16 : Int32)] [(.int (34 : Int32)), (.ref rv), (.ref r0)]) _
    refine st7 _ ?_
    show SS p e below T7 (mkF m 35 #[vr r0, vi (24 : Int32), vi (16 : Int32)] [(.ref nb_7), (.ref r0)]) _
    refine st8 _ ?_
    show SS p e below T8 (mkF m 38 #[vr r0, vi (24 : Int32), vi (16 : Int32)] []) _
    exact X8.returnOut hx Bd.returns (hb hby d19_38) hr
  · show Q_rm_ensG_24_16_1 Z r0 rv kv vv h0 n0 _ T8.heap _
    rw [e8]
    exact ⟨nb_7, nk_7, nv_7, rfl, N8, K8, Fw8, c11, c12, sz_nb_7, c13, c14, f7_3⟩
def Q_rm_app_asb_1_23_16 (Z : State) (r0 : Addr) (r1 : Addr) (zc : Int32) (rv : Addr) (kv : ClassId) (vv : List Value) (rt : Addr) (kt : ClassId) (vt : List Value) (h0 : Heap) (n0 : Nat) (v : Option Value) (h : Heap) (L : List Loc) : Prop := ∃ (nb : Addr), ∃ (nk : ClassId), ∃ (nv : List Value), (v = some (.ref r0) ∧ Fr n0 L ∧ Keep h0 h [r0] ∧ Fld Z h r0 "java/lang/AbstractStringBuilder" "value" "[B" (.ref nb) ∧ Fld Z h r0 "java/lang/AbstractStringBuilder" "coder" "B" (.int (0 : Int32)) ∧ Fld Z h r0 "java/lang/AbstractStringBuilder" "count" "I" (.int (24 : Int32)) ∧ h0.size ≤ nb ∧ Exa Z h nb "[B" ∧ Arv Z h nb nk .byte (34 : Int32) nv (.int (0 : Int32)) ∧ nv.length = 34)
set_option maxRecDepth 65536 in
set_option maxHeartbeats 40000000 in
theorem rm_app_asb_1_23_16 (l : Launch) (Z : State) (a0 : Array Value) (hw : ∀ d ∈ tables_1, d.before a0 Z = true) (ws : List Jvm.Cond) (r0 : Addr) (r1 : Addr) (zc : Int32) (rv : Addr) (kv : ClassId) (vv : List Value) (rt : Addr) (kt : ClassId) (vt : List Value) (h0 : Heap) (n0 : Nat) (Z0 : n0 ≤ h0.size) (uO : Old Z n0 h0) (uS : Sta Z Z.heap "java/lang/String" "COMPACT_STRINGS" "Z" (.int zc)) (uP : ¬ zc = 0) (uE : Exa Z h0 r0 "java/lang/StringBuilder") (uv : Fld Z h0 r0 "java/lang/AbstractStringBuilder" "value" "[B" (.ref rv)) (uc : Fld Z h0 r0 "java/lang/AbstractStringBuilder" "coder" "B" (.int (0 : Int32))) (uV : Arv Z h0 rv kv .byte (16 : Int32) vv (.int (0 : Int32))) (uL : vv.length = 16) (uk : Fld Z h0 r0 "java/lang/AbstractStringBuilder" "count" "I" (.int (1 : Int32))) (us : Exa Z h0 r1 "java/lang/String") (usv : Fld Z h0 r1 "java/lang/String" "value" "[B" (.ref rt)) (usc : Fld Z h0 r1 "java/lang/String" "coder" "B" (.int (0 : Int32))) (usV : Arv Z h0 rt kt .byte (23 : Int32) vt (.int (0 : Int32))) (ug : n0 ≤ r0) (ugv : n0 ≤ rv) :
    MetFree l (⟨"java/lang/AbstractStringBuilder", "append", "(Ljava/lang/String;)Ljava/lang/AbstractStringBuilder;"⟩ : MethodName) (head1 (Jvm.Cond.code (⟨"java/lang/AbstractStringBuilder", "append", "(Ljava/lang/String;)Ljava/lang/AbstractStringBuilder;"⟩ : MethodName) jdk_68_method_22_code 3 (some (.object "java/lang/AbstractStringBuilder")) :: ws) ({ frames := 4, cells := 1, slots := 34, locals := 62 } : Room)) (fun a U => a = #[(.ref r0), (.ref r1)] ∧ Z.Warmed39 U.vm ∧ U.heap = h0) (fun _ _ _ _ _ => True) (fun _ U o U' => ∃ v L, o = .returned v ∧ Q_rm_app_asb_1_23_16 Z r0 r1 zc rv kv vv rt kt vt h0 n0 v U'.heap L ∧ FrameEnd U o U' L ({ frames := 4, cells := 1, slots := 34, locals := 62 } : Room).cells ({ frames := 4, cells := 1, slots := 34, locals := 62 } : Room).slots) := by
  refine MetFree.of_bodySF (plainFor_of_name pn_1) hisR ?_
  intro p e s m args below meth c s₁ Bd hml0 hP hK
  obtain ⟨rfl, hZ, hh⟩ := hP
  have hx := Bd.exec
  have hby := Bd.bytes
  have hml : c.maxLocals = 3 := hml0
  have hown : s.vm.findClass "java/lang/AbstractStringBuilder" = some m.cls := findClass_of_methodNamed Bd.named
  have hnm := (name_of_methodNamed Bd.named Bd.method).1
  have X0 : Stand p l e ({ frames := 4, cells := 1, slots := 34, locals := 62 } : Room) s m #[(.ref r0), (.ref r1)] below meth c s₁ [] 0 0 := Stand.of_body Bd
  have e0 : s₁.heap = h0 := by rw [← hh, Bd.state]; rfl
  have N0 := Fr.nil n0
  have pre0 : ∀ t, Steps p.tables e below (s₁.setTop (mkF m 0 #[vr r0, vr r1, uu] [])) t → Steps p.tables e below (s₁.setTop (entryFrame m #[(.ref r0), (.ref r1)] 3)) t := fun t k => castTop (ef_30 m r0 r1) k
  obtain ⟨cq1, kq1, q1a, q1b, q1c⟩ := isOf hZ e0 us
  obtain ⟨_, _, ⟨T1, Lw1, kw1, nw1⟩, -, X1, ⟨Lc1, hQ1, lq1, yq1, zq1⟩, st1⟩ := X0.virtualBack hx (y := (⟨"java/lang/String", "length", "()I"⟩ : MethodName)) (z := (⟨"java/lang/String", "length", "()I"⟩ : MethodName)) hown (mvT hZ (wd hw 110 rfl)) (mvT hZ (wd hw 111 rfl)) (notFace_of_selects (args := #[]) (mvT hZ (wd hw 113 rfl))) (mvT hZ (wd hw 113 rfl)) (mvT hZ (wd hw 112 rfl)) (by decide) (backOf (W := 0) (rmLen l Z a0 hw [] r1 zc rt kt (23 : Int32) vt h0 n0 Z0 uO uS uP us usv usc usV) hZ (wd hw 114 rfl) (wd hw 14 rfl) (by decide) (by decide)) q1a q1c (g := (mkF m 10 #[vr r0, vr r1, uu] [(.ref r1)])) rfl (by rw [hml]; rfl) (Steps.refl _) (argsL := []) (rest := []) (lenOf pd_2 rfl) rfl (by show 2 * 0 + _ ≤ _; exact Nat.le_of_eq rfl) (hb hby d16_10) (fun _ _ => ⟨rfl, e0, (by decide : 0 + 0 ≤ _), (by decide : 0 + 0 ≤ _)⟩)
  dsimp only [Pt.U, Pt.locs, Pt.cells, Pt.slots] at X1 lq1 yq1 zq1 st1 hQ1
  have X1 := own_reb X1 lq1 yq1 zq1
  obtain ⟨rfl, Nq1, eh1⟩ := hQ1
  have N1 := Fr.app N0 Nq1
  obtain ⟨T2, X2, e2, st2⟩ := getF X1 hx hZ hown (host := "") (Or.inl (wd hw 123 rfl)) Via.refl eh1 uk (g := (mkF m 16 #[vr r0, vr r1, vi (23 : Int32)] [(.ref r0), (.ref r0)])) rfl rfl (hb hby d16_16)
  obtain ⟨cq3, kq3, q3a, q3b, q3c⟩ := isOf hZ e2 uE
  obtain ⟨_, _, ⟨T3, Lw3, kw3, nw3⟩, -, X3, ⟨Lc3, hQ3, lq3, yq3, zq3⟩, st3⟩ := X2.virtualBack hx (y := (⟨"java/lang/AbstractStringBuilder", "ensureCapacityInternal", "(I)V"⟩ : MethodName)) (z := (⟨"java/lang/AbstractStringBuilder", "ensureCapacityInternal", "(I)V"⟩ : MethodName)) hown (mvT hZ (wd hw 125 rfl)) (mvT hZ (own_decl (wd hw 126 rfl) (wd hw 129 rfl))) (notFace_of_selects (args := #[]) (mvT hZ (wd hw 128 rfl))) (mvT hZ (wd hw 128 rfl)) (mvT hZ (wd hw 126 rfl)) (by decide) (backOf (W := 0) (rm_ensG_24_16_1 l Z a0 hw [] r0 rv kv vv h0 n0 Z0 uE uv uc uV uk ug) hZ (wd hw 129 rfl) (wd hw 92 rfl) (by decide) (by decide)) q3a q3c (g := (mkF m 21 #[vr r0, vr r1, vi (23 : Int32)] [(.int (24 : Int32)), (.ref r0)])) rfl (by rw [hml]; rfl) (Steps.refl _) (argsL := [(.int (24 : Int32))]) (rest := []) (lenOf pd_1 rfl) rfl (by show 2 * 0 + _ ≤ _; exact Nat.le_of_eq rfl) (hb hby d16_21) (fun _ _ => ⟨rfl, e2, (by decide : 0 + 1 ≤ _), (by decide : 0 + 34 ≤ _)⟩)
  dsimp only [Pt.U, Pt.locs, Pt.cells, Pt.slots] at X3 lq3 yq3 zq3 st3 hQ3
  have X3 := own_reb X3 lq3 yq3 zq3
  obtain ⟨nb_3, nk_3, nv_3, rfl, Nq3, Kq3, f3_0, f3_1, f3_2, f3_3, f3_4, f3_5, f3_6⟩ := hQ3
  have N3 := Fr.app N1 Nq3
  have ne_r0_nb_3 : r0 ≠ nb_3 := Nat.ne_of_lt (Nat.lt_of_lt_of_le uE.lt f3_3)
  have ne_rv_nb_3 : rv ≠ nb_3 := Nat.ne_of_lt (Nat.lt_of_lt_of_le uV.lt f3_3)
  have ne_r1_nb_3 : r1 ≠ nb_3 := Nat.ne_of_lt (Nat.lt_of_lt_of_le us.lt f3_3)
  have ne_rt_nb_3 : rt ≠ nb_3 := Nat.ne_of_lt (Nat.lt_of_lt_of_le usV.lt f3_3)
  have g_nb_3 : n0 ≤ nb_3 := Nat.le_trans Z0 f3_3
  have sz_nb_3 : h0.size ≤ nb_3 := Nat.le_trans (Keep.refl h0 [r0]).1 f3_3
  have K3 : Keep h0 T3.heap [r0] := (Keep.refl h0 [r0]).trans Kq3 (allS (Or.inl (List.mem_of_getElem? (i := 0) rfl)) all0)
  have Z3 : n0 ≤ T3.heap.size := Nat.le_trans Z0 Kq3.1
  obtain ⟨T4, X4, e4, st4⟩ := getF X3 hx hZ hown (host := "") (Or.inl (wd hw 123 rfl)) Via.refl rfl f3_2 (g := (mkF m 26 #[vr r0, vr r1, vi (23 : Int32)] [(.ref r0), (.ref r0)])) rfl rfl (hb hby d16_26)
  have c6 := (uO.keep Kq3 (allS ug all0))
  have c7 := (uE.keep Kq3)
  have c8 := (us.keep Kq3)
  have c9 := (usv.keep Kq3 (ninS (Exa.ne us uE (by decide)) nin0))
  have c10 := (usc.keep Kq3 (ninS (Exa.ne us uE (by decide)) nin0))
  have c11 := (usV.keep Kq3 (ninS (Ne.symm (Exa.neArv uE usV (wd hw 83 rfl))) nin0))
  obtain ⟨cq5, kq5, q5a, q5b, q5c⟩ := isOf hZ e4 c7
  obtain ⟨_, _, ⟨T5, Lw5, kw5, nw5⟩, -, X5, ⟨Lc5, hQ5, lq5, yq5, zq5⟩, st5⟩ := X4.virtualBack hx (y := (⟨"java/lang/AbstractStringBuilder", "putStringAt", "(ILjava/lang/String;)V"⟩ : MethodName)) (z := (⟨"java/lang/AbstractStringBuilder", "putStringAt", "(ILjava/lang/String;)V"⟩ : MethodName)) hown (mvT hZ (wd hw 130 rfl)) (mvT hZ (own_decl (wd hw 131 rfl) (wd hw 134 rfl))) (notFace_of_selects (args := #[]) (mvT hZ (wd hw 133 rfl))) (mvT hZ (wd hw 133 rfl)) (mvT hZ (wd hw 131 rfl)) (by decide) (backOf (W := 0) (rm_ps_1_23_34 l Z a0 hw [] r0 r1 zc nb_3 nk_3 nv_3 rt kt vt T3.heap n0 Z3 c6 uS uP c7 f3_0 f3_1 f3_5 f3_6 c8 c9 c10 c11 g_nb_3) hZ (wd hw 134 rfl) (wd hw 92 rfl) (by decide) (by decide)) q5a q5c (g := (mkF m 30 #[vr r0, vr r1, vi (23 : Int32)] [(.ref r1), (.int (1 : Int32)), (.ref r0)])) rfl (by rw [hml]; rfl) (Steps.refl _) (argsL := [(.int (1 : Int32)), (.ref r1)]) (rest := []) (lenOf pd_12 rfl) rfl (by show 2 * 0 + _ ≤ _; exact Nat.le_of_eq rfl) (hb hby d16_30) (fun _ _ => ⟨rfl, e4, (by decide : 1 + 0 ≤ _), (by decide : 34 + 0 ≤ _)⟩)
  dsimp only [Pt.U, Pt.locs, Pt.cells, Pt.slots] at X5 lq5 yq5 zq5 st5 hQ5
  have X5 := own_reb X5 lq5 yq5 zq5
  obtain ⟨nv_5, rfl, Nq5, Kq5, f5_0, f5_1⟩ := hQ5
  have N5 := Fr.app N3 Nq5
  have K5 : Keep h0 T5.heap [r0] := K3.trans Kq5 (allS (Or.inr sz_nb_3) all0)
  have Z5 : n0 ≤ T5.heap.size := Nat.le_trans Z3 Kq5.1
  have c13 := (f3_2.keep Kq5 (ninS ne_r0_nb_3 nin0))
  obtain ⟨T12, X12, e12, st12⟩ := getF X5 hx hZ hown (host := "") (Or.inl (wd hw 123 rfl)) Via.refl rfl c13 (g := (mkF m 35 #[vr r0, vr r1, vi (23 : Int32)] [(.ref r0), (.ref r0)])) rfl rfl (hb hby d16_35)
  have c15 := (c7.keep Kq5)
  obtain ⟨T14, h14, X14, e14, W14, st14⟩ := putF X12 hx hZ hown (host := "") (Or.inl (wd hw 123 rfl)) Via.refl e12 c13 c15 (Or.inl (wd hw 124 rfl)) (wd hw 83 rfl) (ty := .int) (by decide) rfl rfl (g := (mkF m 40 #[vr r0, vr r1, vi (23 : Int32)] [(.int (24 : Int32)), (.ref r0)])) rfl rfl (hb hby d16_40)
  have Fw14 := c13.same W14
  have N14 := Fr.snoc X14 N5 ug
  have K14 : Keep h0 h14 [r0] := K5.wr W14 (Or.inl (List.mem_of_getElem? (i := 0) rfl))
  have Z14 : n0 ≤ h14.size := by rw [W14.size]; exact Z5
  have c16 := ((f3_0.keep Kq5 (ninS ne_r0_nb_3 nin0)).other W14 (Or.inr (slot_ne (Or.inl (wd hw 97 rfl)) (Or.inl (wd hw 124 rfl)) (by decide) (t := (.array .byte)) (t' := .int) (by decide) (by decide))))
  have c17 := ((f3_1.keep Kq5 (ninS ne_r0_nb_3 nin0)).other W14 (Or.inr (slot_ne (Or.inl (wd hw 99 rfl)) (Or.inl (wd hw 124 rfl)) (by decide) (t := .byte) (t' := .int) (by decide) (by decide))))
  have c18 := ((f3_4.keep Kq5).wr W14)
  have c19 := (f5_0.other W14 (Ne.symm ne_r0_nb_3))
  obtain ⟨fs, hr, hrun, hended, hW, hsame⟩ := X14.leave (v := some (.ref r0)) (fun h => by rw [Bd.returns] at h; cases h)
  refine ⟨_, _, pre0 _ ?_, hrun, hended, _, _, rfl, ?_, ⟨_, rfl⟩, hW, hsame.mono (by decide) (by decide)⟩
  · show SS p e below s₁ (mkF m 0 #[vr r0, vr r1, uu] []) _
    refine XS.aloadN X0.here hx rfl (hb hby d16_0) rfl rfl ?_
    show SS p e below s₁ (mkF m 1 #[vr r0, vr r1, uu] [(.ref r1)]) _
    refine XS.ifnonnullYes X0.here hx rfl (pc0 := 1) (pc' := 9) rfl (hb hby d16_1) rfl (by decide) (by decide) ?_
    show SS p e below s₁ (mkF m 9 #[vr r0, vr r1, uu] []) _
    refine XS.aloadN X0.here hx rfl (hb hby d16_9) rfl rfl ?_
    show SS p e below s₁ (mkF m 10 #[vr r0, vr r1, uu] [(.ref r1)]) _
    refine st1.trans ?_
    show SS p e below T1 (mkF m 13 #[vr r0, vr r1, uu] [(.int (23 : Int32))]) _
    refine XS.istoreN X1.here hx rfl (hb hby d16_13) rfl (l' := #[vr r0, vr r1, vi (23 : Int32)]) rfl ?_
    show SS p e below T1 (mkF m 14 #[vr r0, vr r1, vi (23 : Int32)] []) _
    refine XS.aloadN X1.here hx rfl (hb hby d16_14) rfl rfl ?_
    show SS p e below T1 (mkF m 15 #[vr r0, vr r1, vi (23 : Int32)] [(.ref r0)]) _
    refine XS.aloadN X1.here hx rfl (hb hby d16_15) rfl rfl ?_
    show SS p e below T1 (mkF m 16 #[vr r0, vr r1, vi (23 : Int32)] [(.ref r0), (.ref r0)]) _
    refine st2 _ ?_
    show SS p e below T2 (mkF m 19 #[vr r0, vr r1, vi (23 : Int32)] [(.int (1 : Int32)), (.ref r0)]) _
    refine XS.iloadN X2.here hx rfl (hb hby d16_19) rfl ?_
    show SS p e below T2 (mkF m 20 #[vr r0, vr r1, vi (23 : Int32)] [(.int (23 : Int32)), (.int (1 : Int32)), (.ref r0)]) _
    refine XS.iadd X2.here hx rfl (hb hby d16_20) rfl ?_
    show SS p e below T2 (mkF m 21 #[vr r0, vr r1, vi (23 : Int32)] [(.int ((1 : Int32) + (23 : Int32))), (.ref r0)]) _
    rw [(show ((1 : Int32) + (23 : Int32)) = (24 : Int32) from by decide)]
    show SS p e below T2 (mkF m 21 #[vr r0, vr r1, vi (23 : Int32)] [(.int (24 : Int32)), (.ref r0)]) _
    refine st3.trans ?_
    show SS p e below T3 (mkF m 24 #[vr r0, vr r1, vi (23 : Int32)] []) _
    refine XS.aloadN X3.here hx rfl (hb hby d16_24) rfl rfl ?_
    show SS p e below T3 (mkF m 25 #[vr r0, vr r1, vi (23 : Int32)] [(.ref r0)]) _
    refine XS.aloadN X3.here hx rfl (hb hby d16_25) rfl rfl ?_
    show SS p e below T3 (mkF m 26 #[vr r0, vr r1, vi (23 : Int32)] [(.ref r0), (.ref r0)]) _
    refine st4 _ ?_
    show SS p e below T4 (mkF m 29 #[vr r0, vr r1, vi (23 : Int32)] [(.int (1 : Int32)), (.ref r0)]) _
    refine XS.aloadN X4.here hx rfl (hb hby d16_29) rfl rfl ?_
    show SS p e below T4 (mkF m 30 #[vr r0, vr r1, vi (23 : Int32)] [(.ref r1), (.int (1 : Int32)), (.ref r0)]) _
    refine st5.trans ?_
    show SS p e below T5 (mkF m 33 #[vr r0, vr r1, vi (23 : Int32)] []) _
    refine XS.aloadN X5.here hx rfl (hb hby d16_33) rfl rfl ?_
    show SS p e below T5 (mkF m 34 #[vr r0, vr r1, vi (23 : Int32)] [(.ref r0)]) _
    refine XS.dup X5.here hx rfl (hb hby d16_34) rfl rfl ?_
    show SS p e below T5 (mkF m 35 #[vr r0, vr r1, vi (23 : Int32)] [(.ref r0), (.ref r0)]) _
    refine st12 _ ?_
    show SS p e below T12 (mkF m 38 #[vr r0, vr r1, vi (23 : Int32)] [(.int (1 : Int32)), (.ref r0)]) _
    refine XS.iloadN X12.here hx rfl (hb hby d16_38) rfl ?_
    show SS p e below T12 (mkF m 39 #[vr r0, vr r1, vi (23 : Int32)] [(.int (23 : Int32)), (.int (1 : Int32)), (.ref r0)]) _
    refine XS.iadd X12.here hx rfl (hb hby d16_39) rfl ?_
    show SS p e below T12 (mkF m 40 #[vr r0, vr r1, vi (23 : Int32)] [(.int ((1 : Int32) + (23 : Int32))), (.ref r0)]) _
    rw [(show ((1 : Int32) + (23 : Int32)) = (24 : Int32) from by decide)]
    show SS p e below T12 (mkF m 40 #[vr r0, vr r1, vi (23 : Int32)] [(.int (24 : Int32)), (.ref r0)]) _
    refine st14 _ ?_
    show SS p e below T14 (mkF m 43 #[vr r0, vr r1, vi (23 : Int32)] []) _
    refine XS.aloadN X14.here hx rfl (hb hby d16_43) rfl rfl ?_
    show SS p e below T14 (mkF m 44 #[vr r0, vr r1, vi (23 : Int32)] [(.ref r0)]) _
    exact retOut X14 hx Bd.returns rfl (Or.inr (Or.inr (Or.inr (Or.inr ⟨rfl, rfl, rfl⟩)))) (hb hby d16_44) hr
  · show Q_rm_app_asb_1_23_16 Z r0 r1 zc rv kv vv rt kt vt h0 n0 _ T14.heap _
    rw [e14]
    exact ⟨nb_3, nk_3, nv_5, rfl, N14, K14, c16, c17, Fw14, sz_nb_3, c18, c19, f5_1⟩
def Q_rm_app_sb_1_23_16 (Z : State) (r0 : Addr) (r1 : Addr) (zc : Int32) (rv : Addr) (kv : ClassId) (vv : List Value) (rt : Addr) (kt : ClassId) (vt : List Value) (h0 : Heap) (n0 : Nat) (v : Option Value) (h : Heap) (L : List Loc) : Prop := ∃ (nb : Addr), ∃ (nk : ClassId), ∃ (nv : List Value), (v = some (.ref r0) ∧ Fr n0 L ∧ Keep h0 h [r0] ∧ Fld Z h r0 "java/lang/AbstractStringBuilder" "value" "[B" (.ref nb) ∧ Fld Z h r0 "java/lang/AbstractStringBuilder" "coder" "B" (.int (0 : Int32)) ∧ Fld Z h r0 "java/lang/AbstractStringBuilder" "count" "I" (.int (24 : Int32)) ∧ h0.size ≤ nb ∧ Exa Z h nb "[B" ∧ Arv Z h nb nk .byte (34 : Int32) nv (.int (0 : Int32)) ∧ nv.length = 34)
set_option maxRecDepth 65536 in
set_option maxHeartbeats 40000000 in
theorem rm_app_sb_1_23_16 (l : Launch) (Z : State) (a0 : Array Value) (hw : ∀ d ∈ tables_1, d.before a0 Z = true) (ws : List Jvm.Cond) (r0 : Addr) (r1 : Addr) (zc : Int32) (rv : Addr) (kv : ClassId) (vv : List Value) (rt : Addr) (kt : ClassId) (vt : List Value) (h0 : Heap) (n0 : Nat) (Z0 : n0 ≤ h0.size) (uO : Old Z n0 h0) (uS : Sta Z Z.heap "java/lang/String" "COMPACT_STRINGS" "Z" (.int zc)) (uP : ¬ zc = 0) (uE : Exa Z h0 r0 "java/lang/StringBuilder") (uv : Fld Z h0 r0 "java/lang/AbstractStringBuilder" "value" "[B" (.ref rv)) (uc : Fld Z h0 r0 "java/lang/AbstractStringBuilder" "coder" "B" (.int (0 : Int32))) (uV : Arv Z h0 rv kv .byte (16 : Int32) vv (.int (0 : Int32))) (uL : vv.length = 16) (uk : Fld Z h0 r0 "java/lang/AbstractStringBuilder" "count" "I" (.int (1 : Int32))) (us : Exa Z h0 r1 "java/lang/String") (usv : Fld Z h0 r1 "java/lang/String" "value" "[B" (.ref rt)) (usc : Fld Z h0 r1 "java/lang/String" "coder" "B" (.int (0 : Int32))) (usV : Arv Z h0 rt kt .byte (23 : Int32) vt (.int (0 : Int32))) (ug : n0 ≤ r0) (ugv : n0 ≤ rv) :
    MetFree l (⟨"java/lang/StringBuilder", "append", "(Ljava/lang/String;)Ljava/lang/StringBuilder;"⟩ : MethodName) (head1 (Jvm.Cond.code (⟨"java/lang/StringBuilder", "append", "(Ljava/lang/String;)Ljava/lang/StringBuilder;"⟩ : MethodName) jdk_67_method_7_code 2 (some (.object "java/lang/StringBuilder")) :: ws) ({ frames := 5, cells := 1, slots := 34, locals := 76 } : Room)) (fun a U => a = #[(.ref r0), (.ref r1)] ∧ Z.Warmed39 U.vm ∧ U.heap = h0) (fun _ _ _ _ _ => True) (fun _ U o U' => ∃ v L, o = .returned v ∧ Q_rm_app_sb_1_23_16 Z r0 r1 zc rv kv vv rt kt vt h0 n0 v U'.heap L ∧ FrameEnd U o U' L ({ frames := 5, cells := 1, slots := 34, locals := 76 } : Room).cells ({ frames := 5, cells := 1, slots := 34, locals := 76 } : Room).slots) := by
  refine MetFree.of_bodySF (plainFor_of_name pn_2) hisR ?_
  intro p e s m args below meth c s₁ Bd hml0 hP hK
  obtain ⟨rfl, hZ, hh⟩ := hP
  have hx := Bd.exec
  have hby := Bd.bytes
  have hml : c.maxLocals = 2 := hml0
  have hown : s.vm.findClass "java/lang/StringBuilder" = some m.cls := findClass_of_methodNamed Bd.named
  have hnm := (name_of_methodNamed Bd.named Bd.method).1
  have X0 : Stand p l e ({ frames := 5, cells := 1, slots := 34, locals := 76 } : Room) s m #[(.ref r0), (.ref r1)] below meth c s₁ [] 0 0 := Stand.of_body Bd
  have e0 : s₁.heap = h0 := by rw [← hh, Bd.state]; rfl
  have N0 := Fr.nil n0
  have pre0 : ∀ t, Steps p.tables e below (s₁.setTop (mkF m 0 #[vr r0, vr r1] [])) t → Steps p.tables e below (s₁.setTop (entryFrame m #[(.ref r0), (.ref r1)] 2)) t := fun t k => castTop (ef_31 m r0 r1) k
  obtain ⟨_, _, ⟨T1, Lw1, kw1, nw1⟩, -, X1, ⟨Lc1, hQ1, lq1, yq1, zq1⟩, st1⟩ := superBack X0 hx hZ (y := (⟨"java/lang/AbstractStringBuilder", "append", "(Ljava/lang/String;)Ljava/lang/AbstractStringBuilder;"⟩ : MethodName)) hown (wd hw 105 rfl) (own_same (wd hw 106 rfl) (own_face (wd hw 128 rfl) rfl) (by decide)) (wd hw 106 rfl) (wd hw 107 rfl) (by decide) (backOf (W := 0) (rm_app_asb_1_23_16 l Z a0 hw [] r0 r1 zc rv kv vv rt kt vt h0 n0 Z0 uO uS uP uE uv uc uV uL uk us usv usc usV ug ugv) hZ (wd hw 109 rfl) (wd hw 92 rfl) (by decide) (by decide)) e0 (Ins.self uE) (g := (mkF m 2 #[vr r0, vr r1] [(.ref r1), (.ref r0)])) rfl (by rw [hml]; rfl) (wd hw 109 rfl) (argsL := [(.ref r1)]) (rest := []) (lenOf pd_13 rfl) rfl (by show 2 * 0 + _ ≤ _; exact Nat.le_of_eq rfl) (hb hby d15_2) (fun _ _ => ⟨rfl, e0, (by decide : 0 + 1 ≤ _), (by decide : 0 + 34 ≤ _)⟩)
  dsimp only [Pt.U, Pt.locs, Pt.cells, Pt.slots] at X1 lq1 yq1 zq1 st1 hQ1
  have X1 := own_reb X1 lq1 yq1 zq1
  obtain ⟨nb_1, nk_1, nv_1, rfl, Nq1, Kq1, f1_0, f1_1, f1_2, f1_3, f1_4, f1_5, f1_6⟩ := hQ1
  have N1 := Fr.app N0 Nq1
  have ne_r0_nb_1 : r0 ≠ nb_1 := Nat.ne_of_lt (Nat.lt_of_lt_of_le uE.lt f1_3)
  have ne_rv_nb_1 : rv ≠ nb_1 := Nat.ne_of_lt (Nat.lt_of_lt_of_le uV.lt f1_3)
  have ne_r1_nb_1 : r1 ≠ nb_1 := Nat.ne_of_lt (Nat.lt_of_lt_of_le us.lt f1_3)
  have ne_rt_nb_1 : rt ≠ nb_1 := Nat.ne_of_lt (Nat.lt_of_lt_of_le usV.lt f1_3)
  have g_nb_1 : n0 ≤ nb_1 := Nat.le_trans Z0 f1_3
  have sz_nb_1 : h0.size ≤ nb_1 := Nat.le_trans (Keep.refl h0 [r0]).1 f1_3
  have K1 : Keep h0 T1.heap [r0] := (Keep.refl h0 [r0]).trans Kq1 (allS (Or.inl (List.mem_of_getElem? (i := 0) rfl)) all0)
  have Z1 : n0 ≤ T1.heap.size := Nat.le_trans Z0 Kq1.1
  obtain ⟨fs, hr, hrun, hended, hW, hsame⟩ := X1.leave (v := some (.ref r0)) (fun h => by rw [Bd.returns] at h; cases h)
  refine ⟨_, _, pre0 _ ?_, hrun, hended, _, _, rfl, ?_, ⟨_, rfl⟩, hW, hsame.mono (by decide) (by decide)⟩
  · show SS p e below s₁ (mkF m 0 #[vr r0, vr r1] []) _
    refine XS.aloadN X0.here hx rfl (hb hby d15_0) rfl rfl ?_
    show SS p e below s₁ (mkF m 1 #[vr r0, vr r1] [(.ref r0)]) _
    refine XS.aloadN X0.here hx rfl (hb hby d15_1) rfl rfl ?_
    show SS p e below s₁ (mkF m 2 #[vr r0, vr r1] [(.ref r1), (.ref r0)]) _
    refine st1.trans ?_
    show SS p e below T1 (mkF m 5 #[vr r0, vr r1] [(.ref r0)]) _
    refine XS.pop X1.here hx rfl (hb hby d15_5) rfl rfl ?_
    show SS p e below T1 (mkF m 6 #[vr r0, vr r1] []) _
    refine XS.aloadN X1.here hx rfl (hb hby d15_6) rfl rfl ?_
    show SS p e below T1 (mkF m 7 #[vr r0, vr r1] [(.ref r0)]) _
    exact retOut X1 hx Bd.returns rfl (Or.inr (Or.inr (Or.inr (Or.inr ⟨rfl, rfl, rfl⟩)))) (hb hby d15_7) hr
  · show Q_rm_app_sb_1_23_16 Z r0 r1 zc rv kv vv rt kt vt h0 n0 _ T1.heap _
    exact ⟨nb_1, nk_1, nv_1, rfl, N1, K1, f1_0, f1_1, f1_2, sz_nb_1, f1_4, f1_5, f1_6⟩
theorem ef_38 (m : MethodId) (x0 : Int32) : entryFrame m #[(.int x0)] 4 = mkF m 0 #[vi x0, uu, uu, uu] [] := by first | (simp [entryFrame, mkF, argsToLocals, Value.category]; done) | rfl
theorem pn_12 : plainName "java/lang/Integer" = true := by first | (simp [plainName, overriddenIn]; done) | decide +kernel
theorem d30_0 : decode jdk_33_method_13_code 0 = .ok (.iconst 1, 1) := by decide +kernel
theorem d30_1 : decode jdk_33_method_13_code 1 = .ok (.istore_n 1, 1) := by decide +kernel
theorem d30_2 : decode jdk_33_method_13_code 2 = .ok (.iload_n 0, 1) := by decide +kernel
theorem d30_3 : decode jdk_33_method_13_code 3 = .ok (.ifCond .lt 8, 3) := by decide +kernel
theorem d30_6 : decode jdk_33_method_13_code 6 = .ok (.iconst 0, 1) := by decide +kernel
theorem d30_7 : decode jdk_33_method_13_code 7 = .ok (.istore_n 1, 1) := by decide +kernel
theorem d30_8 : decode jdk_33_method_13_code 8 = .ok (.iload_n 0, 1) := by decide +kernel
theorem d30_9 : decode jdk_33_method_13_code 9 = .ok (.ineg, 1) := by decide +kernel
theorem d30_10 : decode jdk_33_method_13_code 10 = .ok (.istore_n 0, 1) := by decide +kernel
theorem d30_11 : decode jdk_33_method_13_code 11 = .ok (.bipush (-10), 2) := by decide +kernel
theorem d30_13 : decode jdk_33_method_13_code 13 = .ok (.istore_n 2, 1) := by decide +kernel
theorem d30_14 : decode jdk_33_method_13_code 14 = .ok (.iconst 1, 1) := by decide +kernel
theorem d30_15 : decode jdk_33_method_13_code 15 = .ok (.istore_n 3, 1) := by decide +kernel
theorem d30_16 : decode jdk_33_method_13_code 16 = .ok (.iload_n 3, 1) := by decide +kernel
theorem d30_17 : decode jdk_33_method_13_code 17 = .ok (.bipush 10, 2) := by decide +kernel
theorem d30_19 : decode jdk_33_method_13_code 19 = .ok (.if_icmp .ge 23, 3) := by decide +kernel
theorem d30_22 : decode jdk_33_method_13_code 22 = .ok (.iload_n 0, 1) := by decide +kernel
theorem d30_23 : decode jdk_33_method_13_code 23 = .ok (.iload_n 2, 1) := by decide +kernel
theorem d30_24 : decode jdk_33_method_13_code 24 = .ok (.if_icmp .le 7, 3) := by decide +kernel
theorem d30_27 : decode jdk_33_method_13_code 27 = .ok (.iload_n 3, 1) := by decide +kernel
theorem d30_28 : decode jdk_33_method_13_code 28 = .ok (.iload_n 1, 1) := by decide +kernel
theorem d30_29 : decode jdk_33_method_13_code 29 = .ok (.iadd, 1) := by decide +kernel
theorem d30_30 : decode jdk_33_method_13_code 30 = .ok (.ireturn, 1) := by decide +kernel
def Q_rm_sz1 (Z : State) (p0 : Int32) (h0 : Heap) (n0 : Nat) (v : Option Value) (h : Heap) (L : List Loc) : Prop := (v = some (.int (1 : Int32)) ∧ Fr n0 L ∧ h = h0)
set_option maxRecDepth 65536 in
set_option maxHeartbeats 40000000 in
theorem rm_sz1 (l : Launch) (Z : State) (a0 : Array Value) (hw : ∀ d ∈ tables_1, d.before a0 Z = true) (ws : List Jvm.Cond) (p0 : Int32) (h0 : Heap) (n0 : Nat) (Z0 : n0 ≤ h0.size) (u0 : ¬ p0 < 0) (u9 : (-10 : Int32) < (-p0)) :
    MetFree l (⟨"java/lang/Integer", "stringSize", "(I)I"⟩ : MethodName) (head1 (Jvm.Cond.code (⟨"java/lang/Integer", "stringSize", "(I)I"⟩ : MethodName) jdk_33_method_13_code 4 (some .int) :: ws) ({ frames := 0, cells := 0, slots := 0, locals := 0 } : Room)) (fun a U => a = #[(.int p0)] ∧ Z.Warmed39 U.vm ∧ U.heap = h0) (fun _ _ _ _ _ => True) (fun _ U o U' => ∃ v L, o = .returned v ∧ Q_rm_sz1 Z p0 h0 n0 v U'.heap L ∧ FrameEnd U o U' L ({ frames := 0, cells := 0, slots := 0, locals := 0 } : Room).cells ({ frames := 0, cells := 0, slots := 0, locals := 0 } : Room).slots) := by
  refine MetFree.of_bodySF (plainFor_of_name pn_12) hisR ?_
  intro p e s m args below meth c s₁ Bd hml0 hP hK
  obtain ⟨rfl, hZ, hh⟩ := hP
  have hx := Bd.exec
  have hby := Bd.bytes
  have hml : c.maxLocals = 4 := hml0
  have hown : s.vm.findClass "java/lang/Integer" = some m.cls := findClass_of_methodNamed Bd.named
  have hnm := (name_of_methodNamed Bd.named Bd.method).1
  have X0 : Stand p l e ({ frames := 0, cells := 0, slots := 0, locals := 0 } : Room) s m #[(.int p0)] below meth c s₁ [] 0 0 := Stand.of_body Bd
  have e0 : s₁.heap = h0 := by rw [← hh, Bd.state]; rfl
  have N0 := Fr.nil n0
  have pre0 : ∀ t, Steps p.tables e below (s₁.setTop (mkF m 0 #[vi p0, uu, uu, uu] [])) t → Steps p.tables e below (s₁.setTop (entryFrame m #[(.int p0)] 4)) t := fun t k => castTop (ef_38 m p0) k
  obtain ⟨fs, hr, hrun, hended, hW, hsame⟩ := X0.leave (v := some (.int (1 : Int32))) (fun h => by rw [Bd.returns] at h; cases h)
  refine ⟨_, _, pre0 _ ?_, hrun, hended, _, _, rfl, ?_, ⟨_, rfl⟩, hW, hsame.mono (by decide) (by decide)⟩
  · show SS p e below s₁ (mkF m 0 #[vi p0, uu, uu, uu] []) _
    refine XS.iconst X0.here hx rfl (hb hby d30_0) ?_
    show SS p e below s₁ (mkF m 1 #[vi p0, uu, uu, uu] [(.int (1 : Int32))]) _
    refine XS.istoreN X0.here hx rfl (hb hby d30_1) rfl (l' := #[vi p0, vi (1 : Int32), uu, uu]) rfl ?_
    show SS p e below s₁ (mkF m 2 #[vi p0, vi (1 : Int32), uu, uu] []) _
    refine XS.iloadN X0.here hx rfl (hb hby d30_2) rfl ?_
    show SS p e below s₁ (mkF m 3 #[vi p0, vi (1 : Int32), uu, uu] [(.int p0)]) _
    refine XS.ifNo X0.here hx rfl (hb hby d30_3) rfl ((if0 _ _).trans (flt (u0 : ¬ (p0 < (0 : Int32)))).1) ?_
    show SS p e below s₁ (mkF m 6 #[vi p0, vi (1 : Int32), uu, uu] []) _
    refine XS.iconst X0.here hx rfl (hb hby d30_6) ?_
    show SS p e below s₁ (mkF m 7 #[vi p0, vi (1 : Int32), uu, uu] [(.int (0 : Int32))]) _
    refine XS.istoreN X0.here hx rfl (hb hby d30_7) rfl (l' := #[vi p0, vi (0 : Int32), uu, uu]) rfl ?_
    show SS p e below s₁ (mkF m 8 #[vi p0, vi (0 : Int32), uu, uu] []) _
    refine XS.iloadN X0.here hx rfl (hb hby d30_8) rfl ?_
    show SS p e below s₁ (mkF m 9 #[vi p0, vi (0 : Int32), uu, uu] [(.int p0)]) _
    refine XS.ineg X0.here hx rfl (hb hby d30_9) rfl ?_
    show SS p e below s₁ (mkF m 10 #[vi p0, vi (0 : Int32), uu, uu] [(.int (-p0))]) _
    refine XS.istoreN X0.here hx rfl (hb hby d30_10) rfl (l' := #[vi (-p0), vi (0 : Int32), uu, uu]) rfl ?_
    show SS p e below s₁ (mkF m 11 #[vi (-p0), vi (0 : Int32), uu, uu] []) _
    refine XS.bipush X0.here hx rfl (hb hby d30_11) ?_
    show SS p e below s₁ (mkF m 13 #[vi (-p0), vi (0 : Int32), uu, uu] [(.int (-10 : Int32))]) _
    refine XS.istoreN X0.here hx rfl (hb hby d30_13) rfl (l' := #[vi (-p0), vi (0 : Int32), vi (-10 : Int32), uu]) rfl ?_
    show SS p e below s₁ (mkF m 14 #[vi (-p0), vi (0 : Int32), vi (-10 : Int32), uu] []) _
    refine XS.iconst X0.here hx rfl (hb hby d30_14) ?_
    show SS p e below s₁ (mkF m 15 #[vi (-p0), vi (0 : Int32), vi (-10 : Int32), uu] [(.int (1 : Int32))]) _
    refine XS.istoreN X0.here hx rfl (hb hby d30_15) rfl (l' := #[vi (-p0), vi (0 : Int32), vi (-10 : Int32), vi (1 : Int32)]) rfl ?_
    show SS p e below s₁ (mkF m 16 #[vi (-p0), vi (0 : Int32), vi (-10 : Int32), vi (1 : Int32)] []) _
    refine XS.iloadN X0.here hx rfl (hb hby d30_16) rfl ?_
    show SS p e below s₁ (mkF m 17 #[vi (-p0), vi (0 : Int32), vi (-10 : Int32), vi (1 : Int32)] [(.int (1 : Int32))]) _
    refine XS.bipush X0.here hx rfl (hb hby d30_17) ?_
    show SS p e below s₁ (mkF m 19 #[vi (-p0), vi (0 : Int32), vi (-10 : Int32), vi (1 : Int32)] [(.int (10 : Int32)), (.int (1 : Int32))]) _
    refine XS.icmpNo X0.here hx rfl (hb hby d30_19) rfl (tlt (by decide : (1 : Int32) < (10 : Int32))).2.1 ?_
    show SS p e below s₁ (mkF m 22 #[vi (-p0), vi (0 : Int32), vi (-10 : Int32), vi (1 : Int32)] []) _
    refine XS.iloadN X0.here hx rfl (hb hby d30_22) rfl ?_
    show SS p e below s₁ (mkF m 23 #[vi (-p0), vi (0 : Int32), vi (-10 : Int32), vi (1 : Int32)] [(.int (-p0))]) _
    refine XS.iloadN X0.here hx rfl (hb hby d30_23) rfl ?_
    show SS p e below s₁ (mkF m 24 #[vi (-p0), vi (0 : Int32), vi (-10 : Int32), vi (1 : Int32)] [(.int (-10 : Int32)), (.int (-p0))]) _
    refine XS.icmpNo X0.here hx rfl (hb hby d30_24) rfl (tlt (u9 : (-10 : Int32) < (-p0))).2.2.2 ?_
    show SS p e below s₁ (mkF m 27 #[vi (-p0), vi (0 : Int32), vi (-10 : Int32), vi (1 : Int32)] []) _
    refine XS.iloadN X0.here hx rfl (hb hby d30_27) rfl ?_
    show SS p e below s₁ (mkF m 28 #[vi (-p0), vi (0 : Int32), vi (-10 : Int32), vi (1 : Int32)] [(.int (1 : Int32))]) _
    refine XS.iloadN X0.here hx rfl (hb hby d30_28) rfl ?_
    show SS p e below s₁ (mkF m 29 #[vi (-p0), vi (0 : Int32), vi (-10 : Int32), vi (1 : Int32)] [(.int (0 : Int32)), (.int (1 : Int32))]) _
    refine XS.iadd X0.here hx rfl (hb hby d30_29) rfl ?_
    show SS p e below s₁ (mkF m 30 #[vi (-p0), vi (0 : Int32), vi (-10 : Int32), vi (1 : Int32)] [(.int ((1 : Int32) + (0 : Int32)))]) _
    rw [(show ((1 : Int32) + (0 : Int32)) = (1 : Int32) from by decide)]
    show SS p e below s₁ (mkF m 30 #[vi (-p0), vi (0 : Int32), vi (-10 : Int32), vi (1 : Int32)] [(.int (1 : Int32))]) _
    exact retI X0 hx Bd.returns (hb hby d30_30) hr
  · show Q_rm_sz1 Z p0 h0 n0 _ s₁.heap _
    rw [e0]
    exact ⟨rfl, N0, rfl⟩
theorem ef_39 (m : MethodId) (x0 : Int32) (x2 : Addr) : entryFrame m #[(.int x0), (.int (25 : Int32)), (.ref x2)] 7 = mkF m 0 #[vi x0, vi (25 : Int32), vr x2, uu, uu, uu, uu] [] := by first | (simp [entryFrame, mkF, argsToLocals, Value.category]; done) | rfl
theorem d32_0 : decode jdk_33_method_12_code 0 = .ok (.iload_n 1, 1) := by decide +kernel
theorem d32_1 : decode jdk_33_method_12_code 1 = .ok (.istore 5, 2) := by decide +kernel
theorem d32_3 : decode jdk_33_method_12_code 3 = .ok (.iload_n 0, 1) := by decide +kernel
theorem d32_4 : decode jdk_33_method_12_code 4 = .ok (.ifCond .ge 7, 3) := by decide +kernel
theorem d32_11 : decode jdk_33_method_12_code 11 = .ok (.iconst 0, 1) := by decide +kernel
theorem d32_12 : decode jdk_33_method_12_code 12 = .ok (.istore 6, 2) := by decide +kernel
theorem d32_14 : decode jdk_33_method_12_code 14 = .ok (.iload 6, 2) := by decide +kernel
theorem d32_16 : decode jdk_33_method_12_code 16 = .ok (.ifCond .ne 6, 3) := by decide +kernel
theorem d32_19 : decode jdk_33_method_12_code 19 = .ok (.iload_n 0, 1) := by decide +kernel
theorem d32_20 : decode jdk_33_method_12_code 20 = .ok (.ineg, 1) := by decide +kernel
theorem d32_21 : decode jdk_33_method_12_code 21 = .ok (.istore_n 0, 1) := by decide +kernel
theorem d32_22 : decode jdk_33_method_12_code 22 = .ok (.iload_n 0, 1) := by decide +kernel
theorem d32_23 : decode jdk_33_method_12_code 23 = .ok (.bipush (-100), 2) := by decide +kernel
theorem d32_25 : decode jdk_33_method_12_code 25 = .ok (.if_icmp .gt 47, 3) := by decide +kernel
theorem d32_72 : decode jdk_33_method_12_code 72 = .ok (.aload_n 2, 1) := by decide +kernel
theorem d32_73 : decode jdk_33_method_12_code 73 = .ok (.iinc 5 (-1), 3) := by decide +kernel
theorem d32_76 : decode jdk_33_method_12_code 76 = .ok (.iload 5, 2) := by decide +kernel
theorem d32_78 : decode jdk_33_method_12_code 78 = .ok (.getstatic 83, 3) := by decide +kernel
theorem d32_81 : decode jdk_33_method_12_code 81 = .ok (.iload_n 0, 1) := by decide +kernel
theorem d32_82 : decode jdk_33_method_12_code 82 = .ok (.ineg, 1) := by decide +kernel
theorem d32_83 : decode jdk_33_method_12_code 83 = .ok (.baload, 1) := by decide +kernel
theorem d32_84 : decode jdk_33_method_12_code 84 = .ok (.bastore, 1) := by decide +kernel
theorem d32_85 : decode jdk_33_method_12_code 85 = .ok (.iload_n 0, 1) := by decide +kernel
theorem d32_86 : decode jdk_33_method_12_code 86 = .ok (.bipush (-9), 2) := by decide +kernel
theorem d32_88 : decode jdk_33_method_12_code 88 = .ok (.if_icmp .ge 16, 3) := by decide +kernel
theorem d32_104 : decode jdk_33_method_12_code 104 = .ok (.iload 6, 2) := by decide +kernel
theorem d32_106 : decode jdk_33_method_12_code 106 = .ok (.ifCond .eq 12, 3) := by decide +kernel
theorem d32_118 : decode jdk_33_method_12_code 118 = .ok (.iload 5, 2) := by decide +kernel
theorem d32_120 : decode jdk_33_method_12_code 120 = .ok (.ireturn, 1) := by decide +kernel
def Q_rm_gc1_25_34 (Z : State) (p0 : Int32) (r2 : Addr) (dg : Addr) (kd : ClassId) (kv : ClassId) (vv : List Value) (h0 : Heap) (n0 : Nat) (v : Option Value) (h : Heap) (L : List Loc) : Prop := ∃ (nv : List Value), (v = some (.int (24 : Int32)) ∧ Fr n0 L ∧ Keep h0 h [r2] ∧ Arv Z h r2 kv .byte (34 : Int32) nv (.int (0 : Int32)) ∧ nv.length = 34)
set_option maxRecDepth 65536 in
set_option maxHeartbeats 40000000 in
theorem rm_gc1_25_34 (l : Launch) (Z : State) (a0 : Array Value) (hw : ∀ d ∈ tables_1, d.before a0 Z = true) (ws : List Jvm.Cond) (p0 : Int32) (r2 : Addr) (dg : Addr) (kd : ClassId) (kv : ClassId) (vv : List Value) (h0 : Heap) (n0 : Nat) (Z0 : n0 ≤ h0.size) (uO : Old Z n0 h0) (uD : Sta Z Z.heap "java/lang/Integer" "DigitOnes" "[B" (.ref dg)) (uDV : Arv Z Z.heap dg kd .byte (100 : Int32) own_ones (.int (0 : Int32))) (u0 : ¬ p0 < 0) (u9 : (-10 : Int32) < (-p0)) (u99 : (-100 : Int32) < (-p0)) (u8 : ¬ (-p0) < (-9 : Int32)) (u100 : p0 < (100 : Int32)) (uV : Arv Z h0 r2 kv .byte (34 : Int32) vv (.int (0 : Int32))) (uL : vv.length = 34) (ug : n0 ≤ r2) :
    MetFree l (⟨"java/lang/Integer", "getChars", "(II[B)I"⟩ : MethodName) (head1 (Jvm.Cond.code (⟨"java/lang/Integer", "getChars", "(II[B)I"⟩ : MethodName) jdk_33_method_12_code 7 (some .int) :: ws) ({ frames := 0, cells := 0, slots := 0, locals := 0 } : Room)) (fun a U => a = #[(.int p0), (.int (25 : Int32)), (.ref r2)] ∧ Z.Warmed39 U.vm ∧ U.heap = h0) (fun _ _ _ _ _ => True) (fun _ U o U' => ∃ v L, o = .returned v ∧ Q_rm_gc1_25_34 Z p0 r2 dg kd kv vv h0 n0 v U'.heap L ∧ FrameEnd U o U' L ({ frames := 0, cells := 0, slots := 0, locals := 0 } : Room).cells ({ frames := 0, cells := 0, slots := 0, locals := 0 } : Room).slots) := by
  refine MetFree.of_bodySF (plainFor_of_name pn_12) hisR ?_
  intro p e s m args below meth c s₁ Bd hml0 hP hK
  obtain ⟨rfl, hZ, hh⟩ := hP
  have hx := Bd.exec
  have hby := Bd.bytes
  have hml : c.maxLocals = 7 := hml0
  have hown : s.vm.findClass "java/lang/Integer" = some m.cls := findClass_of_methodNamed Bd.named
  have hnm := (name_of_methodNamed Bd.named Bd.method).1
  have X0 : Stand p l e ({ frames := 0, cells := 0, slots := 0, locals := 0 } : Room) s m #[(.int p0), (.int (25 : Int32)), (.ref r2)] below meth c s₁ [] 0 0 := Stand.of_body Bd
  have e0 : s₁.heap = h0 := by rw [← hh, Bd.state]; rfl
  have N0 := Fr.nil n0
  have pre0 : ∀ t, Steps p.tables e below (s₁.setTop (mkF m 0 #[vi p0, vi (25 : Int32), vr r2, uu, uu, uu, uu] [])) t → Steps p.tables e below (s₁.setTop (entryFrame m #[(.int p0), (.int (25 : Int32)), (.ref r2)] 7)) t := fun t k => castTop (ef_39 m p0 r2) k
  obtain ⟨T1, X1, e1, st1⟩ := getS2 X0 hx hZ hown (host := "") (Or.inl (wd hw 194 rfl)) Via.refl e0 (uD.ext uO.2) (g := (mkF m 78 #[vi (-p0), vi (25 : Int32), vr r2, uu, uu, vi (24 : Int32), vi (0 : Int32)] [(.int (24 : Int32)), (.ref r2)])) rfl (hb hby d32_78)
  obtain ⟨cl2, Ar2, q2, S2, Nn2, H2, G2⟩ := (id (uDV.ext uO.2))
  have hin2 : ¬ (p0 < 0 ∨ cl2.slots.size ≤ (p0).toNatClampNeg) := inb_of S2 ⟨u0, u100⟩
  have hat2 : cl2.slots[(p0).toNatClampNeg]? = some (.int (own_dig p0)) := H2.at hin2 (own_onesAt u0 u100)
  obtain ⟨cl3, Ar3, q3, S3, Nn3, H3, G3⟩ := (id uV)
  have hin3 : ¬ ((24 : Int32) < 0 ∨ cl3.slots.size ≤ ((24 : Int32)).toNatClampNeg) := inb_of S3 ⟨by decide, by decide⟩
  obtain ⟨T3, h3, X3, e3, W3, st3⟩ := stB X1 hx hZ e1 Ar3 (j := (24 : Int32)) hin3 (g := (mkF m 84 #[vi (-p0), vi (25 : Int32), vr r2, uu, uu, vi (24 : Int32), vi (0 : Int32)] [(.int (own_dig p0)), (.int (24 : Int32)), (.ref r2)])) rfl rfl (hb hby d32_84)
  have V3 : Arv Z h3 r2 kv .byte (34 : Int32) (vv.set 24 (.int (nar .byte (own_dig p0)))) (.int (0 : Int32)) := Arv.set Ar3 q3 S3 Nn3 H3 G3 (fits_nar_byte _) W3 24 rfl (by rw [uL]; decide)
  have N3 := Fr.snoc X3 N0 ug
  have K3 : Keep h0 h3 [r2] := (Keep.refl h0 [r2]).wr W3 (Or.inl (List.mem_of_getElem? (i := 0) rfl))
  have Z3 : n0 ≤ h3.size := by rw [W3.size]; exact Z0
  obtain ⟨fs, hr, hrun, hended, hW, hsame⟩ := X3.leave (v := some (.int (24 : Int32))) (fun h => by rw [Bd.returns] at h; cases h)
  refine ⟨_, _, pre0 _ ?_, hrun, hended, _, _, rfl, ?_, ⟨_, rfl⟩, hW, hsame.mono (by decide) (by decide)⟩
  · show SS p e below s₁ (mkF m 0 #[vi p0, vi (25 : Int32), vr r2, uu, uu, uu, uu] []) _
    refine XS.iloadN X0.here hx rfl (hb hby d32_0) rfl ?_
    show SS p e below s₁ (mkF m 1 #[vi p0, vi (25 : Int32), vr r2, uu, uu, uu, uu] [(.int (25 : Int32))]) _
    refine XS.istore X0.here hx rfl (hb hby d32_1) rfl (l' := #[vi p0, vi (25 : Int32), vr r2, uu, uu, vi (25 : Int32), uu]) rfl ?_
    show SS p e below s₁ (mkF m 3 #[vi p0, vi (25 : Int32), vr r2, uu, uu, vi (25 : Int32), uu] []) _
    refine XS.iloadN X0.here hx rfl (hb hby d32_3) rfl ?_
    show SS p e below s₁ (mkF m 4 #[vi p0, vi (25 : Int32), vr r2, uu, uu, vi (25 : Int32), uu] [(.int p0)]) _
    refine XS.ifYes X0.here hx rfl (pc0 := 4) (pc' := 11) rfl (hb hby d32_4) rfl ((if0 _ _).trans (flt (u0 : ¬ (p0 < (0 : Int32)))).2.1) (by decide) (by decide) ?_
    show SS p e below s₁ (mkF m 11 #[vi p0, vi (25 : Int32), vr r2, uu, uu, vi (25 : Int32), uu] []) _
    refine XS.iconst X0.here hx rfl (hb hby d32_11) ?_
    show SS p e below s₁ (mkF m 12 #[vi p0, vi (25 : Int32), vr r2, uu, uu, vi (25 : Int32), uu] [(.int (0 : Int32))]) _
    refine XS.istore X0.here hx rfl (hb hby d32_12) rfl (l' := #[vi p0, vi (25 : Int32), vr r2, uu, uu, vi (25 : Int32), vi (0 : Int32)]) rfl ?_
    show SS p e below s₁ (mkF m 14 #[vi p0, vi (25 : Int32), vr r2, uu, uu, vi (25 : Int32), vi (0 : Int32)] []) _
    refine XS.iload X0.here hx rfl (hb hby d32_14) rfl ?_
    show SS p e below s₁ (mkF m 16 #[vi p0, vi (25 : Int32), vr r2, uu, uu, vi (25 : Int32), vi (0 : Int32)] [(.int (0 : Int32))]) _
    refine XS.ifNo X0.here hx rfl (hb hby d32_16) rfl ((if0 _ _).trans (teq (by decide : (0 : Int32) = (0 : Int32))).2) ?_
    show SS p e below s₁ (mkF m 19 #[vi p0, vi (25 : Int32), vr r2, uu, uu, vi (25 : Int32), vi (0 : Int32)] []) _
    refine XS.iloadN X0.here hx rfl (hb hby d32_19) rfl ?_
    show SS p e below s₁ (mkF m 20 #[vi p0, vi (25 : Int32), vr r2, uu, uu, vi (25 : Int32), vi (0 : Int32)] [(.int p0)]) _
    refine XS.ineg X0.here hx rfl (hb hby d32_20) rfl ?_
    show SS p e below s₁ (mkF m 21 #[vi p0, vi (25 : Int32), vr r2, uu, uu, vi (25 : Int32), vi (0 : Int32)] [(.int (-p0))]) _
    refine XS.istoreN X0.here hx rfl (hb hby d32_21) rfl (l' := #[vi (-p0), vi (25 : Int32), vr r2, uu, uu, vi (25 : Int32), vi (0 : Int32)]) rfl ?_
    show SS p e below s₁ (mkF m 22 #[vi (-p0), vi (25 : Int32), vr r2, uu, uu, vi (25 : Int32), vi (0 : Int32)] []) _
    refine XS.iloadN X0.here hx rfl (hb hby d32_22) rfl ?_
    show SS p e below s₁ (mkF m 23 #[vi (-p0), vi (25 : Int32), vr r2, uu, uu, vi (25 : Int32), vi (0 : Int32)] [(.int (-p0))]) _
    refine XS.bipush X0.here hx rfl (hb hby d32_23) ?_
    show SS p e below s₁ (mkF m 25 #[vi (-p0), vi (25 : Int32), vr r2, uu, uu, vi (25 : Int32), vi (0 : Int32)] [(.int (-100 : Int32)), (.int (-p0))]) _
    refine XS.icmpYes X0.here hx rfl (pc0 := 25) (pc' := 72) rfl (hb hby d32_25) rfl (tlt (u99 : (-100 : Int32) < (-p0))).2.2.1 (by decide) (by decide) ?_
    show SS p e below s₁ (mkF m 72 #[vi (-p0), vi (25 : Int32), vr r2, uu, uu, vi (25 : Int32), vi (0 : Int32)] []) _
    refine XS.aloadN X0.here hx rfl (hb hby d32_72) rfl rfl ?_
    show SS p e below s₁ (mkF m 73 #[vi (-p0), vi (25 : Int32), vr r2, uu, uu, vi (25 : Int32), vi (0 : Int32)] [(.ref r2)]) _
    refine XS.iinc X0.here hx rfl (hb hby d32_73) rfl (l' := #[vi (-p0), vi (25 : Int32), vr r2, uu, uu, vi ((25 : Int32) + (-1 : Int32)), vi (0 : Int32)]) rfl ?_
    show SS p e below s₁ (mkF m 76 #[vi (-p0), vi (25 : Int32), vr r2, uu, uu, vi ((25 : Int32) + (-1 : Int32)), vi (0 : Int32)] [(.ref r2)]) _
    rw [(show ((25 : Int32) + (-1 : Int32)) = (24 : Int32) from by decide)]
    show SS p e below s₁ (mkF m 76 #[vi (-p0), vi (25 : Int32), vr r2, uu, uu, vi (24 : Int32), vi (0 : Int32)] [(.ref r2)]) _
    refine XS.iload X0.here hx rfl (hb hby d32_76) rfl ?_
    show SS p e below s₁ (mkF m 78 #[vi (-p0), vi (25 : Int32), vr r2, uu, uu, vi (24 : Int32), vi (0 : Int32)] [(.int (24 : Int32)), (.ref r2)]) _
    refine st1 _ ?_
    show SS p e below T1 (mkF m 81 #[vi (-p0), vi (25 : Int32), vr r2, uu, uu, vi (24 : Int32), vi (0 : Int32)] [(.ref dg), (.int (24 : Int32)), (.ref r2)]) _
    refine XS.iloadN X1.here hx rfl (hb hby d32_81) rfl ?_
    show SS p e below T1 (mkF m 82 #[vi (-p0), vi (25 : Int32), vr r2, uu, uu, vi (24 : Int32), vi (0 : Int32)] [(.int (-p0)), (.ref dg), (.int (24 : Int32)), (.ref r2)]) _
    refine XS.ineg X1.here hx rfl (hb hby d32_82) rfl ?_
    show SS p e below T1 (mkF m 83 #[vi (-p0), vi (25 : Int32), vr r2, uu, uu, vi (24 : Int32), vi (0 : Int32)] [(.int (-(-p0))), (.ref dg), (.int (24 : Int32)), (.ref r2)]) _
    rw [own_nn p0]
    show SS p e below T1 (mkF m 83 #[vi (-p0), vi (25 : Int32), vr r2, uu, uu, vi (24 : Int32), vi (0 : Int32)] [(.int p0), (.ref dg), (.int (24 : Int32)), (.ref r2)]) _
    refine X1.baloadBytes hx (j := p0) (v := (.int (own_dig p0))) (own_at e1 Ar2.1) (State.isArrayOf_alike hZ.alike Ar2.2.1) Ar2.2.2 hin2 hat2 (g := (mkF m 83 #[vi (-p0), vi (25 : Int32), vr r2, uu, uu, vi (24 : Int32), vi (0 : Int32)] [(.int p0), (.ref dg), (.int (24 : Int32)), (.ref r2)])) rfl rfl (hb hby d32_83) _ ?_
    show SS p e below T1 (mkF m 84 #[vi (-p0), vi (25 : Int32), vr r2, uu, uu, vi (24 : Int32), vi (0 : Int32)] [(.int (own_dig p0)), (.int (24 : Int32)), (.ref r2)]) _
    refine st3 _ ?_
    show SS p e below T3 (mkF m 85 #[vi (-p0), vi (25 : Int32), vr r2, uu, uu, vi (24 : Int32), vi (0 : Int32)] []) _
    refine XS.iloadN X3.here hx rfl (hb hby d32_85) rfl ?_
    show SS p e below T3 (mkF m 86 #[vi (-p0), vi (25 : Int32), vr r2, uu, uu, vi (24 : Int32), vi (0 : Int32)] [(.int (-p0))]) _
    refine XS.bipush X3.here hx rfl (hb hby d32_86) ?_
    show SS p e below T3 (mkF m 88 #[vi (-p0), vi (25 : Int32), vr r2, uu, uu, vi (24 : Int32), vi (0 : Int32)] [(.int (-9 : Int32)), (.int (-p0))]) _
    refine XS.icmpYes X3.here hx rfl (pc0 := 88) (pc' := 104) rfl (hb hby d32_88) rfl (flt (u8 : ¬ ((-p0) < (-9 : Int32)))).2.1 (by decide) (by decide) ?_
    show SS p e below T3 (mkF m 104 #[vi (-p0), vi (25 : Int32), vr r2, uu, uu, vi (24 : Int32), vi (0 : Int32)] []) _
    refine XS.iload X3.here hx rfl (hb hby d32_104) rfl ?_
    show SS p e below T3 (mkF m 106 #[vi (-p0), vi (25 : Int32), vr r2, uu, uu, vi (24 : Int32), vi (0 : Int32)] [(.int (0 : Int32))]) _
    refine XS.ifYes X3.here hx rfl (pc0 := 106) (pc' := 118) rfl (hb hby d32_106) rfl ((if0 _ _).trans (teq (by decide : (0 : Int32) = (0 : Int32))).1) (by decide) (by decide) ?_
    show SS p e below T3 (mkF m 118 #[vi (-p0), vi (25 : Int32), vr r2, uu, uu, vi (24 : Int32), vi (0 : Int32)] []) _
    refine XS.iload X3.here hx rfl (hb hby d32_118) rfl ?_
    show SS p e below T3 (mkF m 120 #[vi (-p0), vi (25 : Int32), vr r2, uu, uu, vi (24 : Int32), vi (0 : Int32)] [(.int (24 : Int32))]) _
    exact retI X3 hx Bd.returns (hb hby d32_120) hr
  · show Q_rm_gc1_25_34 Z p0 r2 dg kd kv vv h0 n0 _ T3.heap _
    rw [e3]
    exact ⟨(vv.set 24 (.int (nar .byte (own_dig p0)))), rfl, N3, K3, V3, (List.length_set.trans uL)⟩
theorem ef_40 (m : MethodId) (x0 : Addr) : entryFrame m #[(.ref x0), (.int (25 : Int32))] 3 = mkF m 0 #[vr x0, vi (25 : Int32), uu] [] := by first | (simp [entryFrame, mkF, argsToLocals, Value.category]; done) | rfl
def Q_rm_ensK_25_34 (Z : State) (r0 : Addr) (rv : Addr) (kv : ClassId) (vv : List Value) (h0 : Heap) (n0 : Nat) (v : Option Value) (h : Heap) (L : List Loc) : Prop := (v = none ∧ Fr n0 L ∧ h = h0)
set_option maxRecDepth 65536 in
set_option maxHeartbeats 40000000 in
theorem rm_ensK_25_34 (l : Launch) (Z : State) (a0 : Array Value) (hw : ∀ d ∈ tables_1, d.before a0 Z = true) (ws : List Jvm.Cond) (r0 : Addr) (rv : Addr) (kv : ClassId) (vv : List Value) (h0 : Heap) (n0 : Nat) (Z0 : n0 ≤ h0.size) (uE : Exa Z h0 r0 "java/lang/StringBuilder") (uv : Fld Z h0 r0 "java/lang/AbstractStringBuilder" "value" "[B" (.ref rv)) (uc : Fld Z h0 r0 "java/lang/AbstractStringBuilder" "coder" "B" (.int (0 : Int32))) (uV : Arv Z h0 rv kv .byte (34 : Int32) vv (.int (0 : Int32))) :
    MetFree l (⟨"java/lang/AbstractStringBuilder", "ensureCapacityInternal", "(I)V"⟩ : MethodName) (head1 (Jvm.Cond.code (⟨"java/lang/AbstractStringBuilder", "ensureCapacityInternal", "(I)V"⟩ : MethodName) jdk_68_method_9_code 3 none :: ws) ({ frames := 0, cells := 0, slots := 0, locals := 0 } : Room)) (fun a U => a = #[(.ref r0), (.int (25 : Int32))] ∧ Z.Warmed39 U.vm ∧ U.heap = h0) (fun _ _ _ _ _ => True) (fun _ U o U' => ∃ v L, o = .returned v ∧ Q_rm_ensK_25_34 Z r0 rv kv vv h0 n0 v U'.heap L ∧ FrameEnd U o U' L ({ frames := 0, cells := 0, slots := 0, locals := 0 } : Room).cells ({ frames := 0, cells := 0, slots := 0, locals := 0 } : Room).slots) := by
  refine MetFree.of_bodySF (plainFor_of_name pn_1) hisR ?_
  intro p e s m args below meth c s₁ Bd hml0 hP hK
  obtain ⟨rfl, hZ, hh⟩ := hP
  have hx := Bd.exec
  have hby := Bd.bytes
  have hml : c.maxLocals = 3 := hml0
  have hown : s.vm.findClass "java/lang/AbstractStringBuilder" = some m.cls := findClass_of_methodNamed Bd.named
  have hnm := (name_of_methodNamed Bd.named Bd.method).1
  have X0 : Stand p l e ({ frames := 0, cells := 0, slots := 0, locals := 0 } : Room) s m #[(.ref r0), (.int (25 : Int32))] below meth c s₁ [] 0 0 := Stand.of_body Bd
  have e0 : s₁.heap = h0 := by rw [← hh, Bd.state]; rfl
  have N0 := Fr.nil n0
  have pre0 : ∀ t, Steps p.tables e below (s₁.setTop (mkF m 0 #[vr r0, vi (25 : Int32), uu] [])) t → Steps p.tables e below (s₁.setTop (entryFrame m #[(.ref r0), (.int (25 : Int32))] 3)) t := fun t k => castTop (ef_40 m r0) k
  obtain ⟨T1, X1, e1, st1⟩ := getF X0 hx hZ hown (host := "") (Or.inl (wd hw 96 rfl)) Via.refl e0 uv (g := (mkF m 1 #[vr r0, vi (25 : Int32), uu] [(.ref r0)])) rfl rfl (hb hby d19_1)
  obtain ⟨cl2, Ar2, q2, S2, Nn2, H2, G2⟩ := (id uV)
  obtain ⟨T3, X3, e3, st3⟩ := getF X1 hx hZ hown (host := "") (Or.inl (wd hw 98 rfl)) Via.refl e1 uc (g := (mkF m 6 #[vr r0, vi (25 : Int32), uu] [(.ref r0), (.int (34 : Int32))])) rfl rfl (hb hby d19_6)
  obtain ⟨fs, hr, hrun, hended, hW, hsame⟩ := X3.leave (v := none) (fun _ => rfl)
  refine ⟨_, _, pre0 _ ?_, hrun, hended, _, _, rfl, ?_, ⟨_, rfl⟩, hW, hsame.mono (by decide) (by decide)⟩
  · show SS p e below s₁ (mkF m 0 #[vr r0, vi (25 : Int32), uu] []) _
    refine XS.aloadN X0.here hx rfl (hb hby d19_0) rfl rfl ?_
    show SS p e below s₁ (mkF m 1 #[vr r0, vi (25 : Int32), uu] [(.ref r0)]) _
    refine st1 _ ?_
    show SS p e below T1 (mkF m 4 #[vr r0, vi (25 : Int32), uu] [(.ref rv)]) _
    refine X1.arraylength hx (own_at e1 Ar2.1) (State.isArrayOf_alike hZ.alike Ar2.2.1) (g := (mkF m 4 #[vr r0, vi (25 : Int32), uu] [(.ref rv)])) rfl rfl (hb hby d19_4) _ ?_
    rw [len_of S2 Nn2]
    show SS p e below T1 (mkF m 5 #[vr r0, vi (25 : Int32), uu] [(.int (34 : Int32))]) _
    refine XS.aloadN X1.here hx rfl (hb hby d19_5) rfl rfl ?_
    show SS p e below T1 (mkF m 6 #[vr r0, vi (25 : Int32), uu] [(.ref r0), (.int (34 : Int32))]) _
    refine st3 _ ?_
    show SS p e below T3 (mkF m 9 #[vr r0, vi (25 : Int32), uu] [(.int (0 : Int32)), (.int (34 : Int32))]) _
    refine XS.ishr X3.here hx rfl (hb hby d19_9) rfl ?_
    show SS p e below T3 (mkF m 10 #[vr r0, vi (25 : Int32), uu] [(.int ((34 : Int32) >>> ((0 : Int32) &&& 31)))]) _
    rw [own_shr0 _]
    show SS p e below T3 (mkF m 10 #[vr r0, vi (25 : Int32), uu] [(.int (34 : Int32))]) _
    refine XS.istoreN X3.here hx rfl (hb hby d19_10) rfl (l' := #[vr r0, vi (25 : Int32), vi (34 : Int32)]) rfl ?_
    show SS p e below T3 (mkF m 11 #[vr r0, vi (25 : Int32), vi (34 : Int32)] []) _
    refine XS.iloadN X3.here hx rfl (hb hby d19_11) rfl ?_
    show SS p e below T3 (mkF m 12 #[vr r0, vi (25 : Int32), vi (34 : Int32)] [(.int (25 : Int32))]) _
    refine XS.iloadN X3.here hx rfl (hb hby d19_12) rfl ?_
    show SS p e below T3 (mkF m 13 #[vr r0, vi (25 : Int32), vi (34 : Int32)] [(.int (34 : Int32)), (.int (25 : Int32))]) _
    refine XS.isub X3.here hx rfl (hb hby d19_13) rfl ?_
    show SS p e below T3 (mkF m 14 #[vr r0, vi (25 : Int32), vi (34 : Int32)] [(.int ((25 : Int32) - (34 : Int32)))]) _
    refine XS.ifYes X3.here hx rfl (pc0 := 14) (pc' := 38) rfl (hb hby d19_14) rfl ((if0 _ _).trans (flt (by decide : ¬ ((0 : Int32) < ((25 : Int32) - (34 : Int32))))).2.2.2) (by decide) (by decide) ?_
    show SS p e below T3 (mkF m 38 #[vr r0, vi (25 : Int32), vi (34 : Int32)] []) _
    exact X3.returnOut hx Bd.returns (hb hby d19_38) hr
  · show Q_rm_ensK_25_34 Z r0 rv kv vv h0 n0 _ T3.heap _
    rw [e3]
    exact ⟨rfl, N0, rfl⟩
theorem ef_41 (m : MethodId) (x0 : Addr) (x1 : Int32) : entryFrame m #[(.ref x0), (.int x1)] 4 = mkF m 0 #[vr x0, vi x1, uu, uu] [] := by first | (simp [entryFrame, mkF, argsToLocals, Value.category]; done) | rfl
theorem d29_0 : decode jdk_68_method_32_code 0 = .ok (.aload_n 0, 1) := by decide +kernel
theorem d29_1 : decode jdk_68_method_32_code 1 = .ok (.getfield 79, 3) := by decide +kernel
theorem d29_4 : decode jdk_68_method_32_code 4 = .ok (.istore_n 2, 1) := by decide +kernel
theorem d29_5 : decode jdk_68_method_32_code 5 = .ok (.iload_n 2, 1) := by decide +kernel
theorem d29_6 : decode jdk_68_method_32_code 6 = .ok (.iload_n 1, 1) := by decide +kernel
theorem d29_7 : decode jdk_68_method_32_code 7 = .ok (.invokestatic 245, 3) := by decide +kernel
theorem d29_10 : decode jdk_68_method_32_code 10 = .ok (.iadd, 1) := by decide +kernel
theorem d29_11 : decode jdk_68_method_32_code 11 = .ok (.istore_n 3, 1) := by decide +kernel
theorem d29_12 : decode jdk_68_method_32_code 12 = .ok (.aload_n 0, 1) := by decide +kernel
theorem d29_13 : decode jdk_68_method_32_code 13 = .ok (.iload_n 3, 1) := by decide +kernel
theorem d29_14 : decode jdk_68_method_32_code 14 = .ok (.invokevirtual 100, 3) := by decide +kernel
theorem d29_17 : decode jdk_68_method_32_code 17 = .ok (.aload_n 0, 1) := by decide +kernel
theorem d29_18 : decode jdk_68_method_32_code 18 = .ok (.invokevirtual 83, 3) := by decide +kernel
theorem pd_16 : parseMethodDescriptor "()Z" = some ⟨[], some .boolean⟩ := by decide +kernel
theorem d29_21 : decode jdk_68_method_32_code 21 = .ok (.ifCond .eq 16, 3) := by decide +kernel
theorem d29_24 : decode jdk_68_method_32_code 24 = .ok (.iload_n 1, 1) := by decide +kernel
theorem d29_25 : decode jdk_68_method_32_code 25 = .ok (.iload_n 3, 1) := by decide +kernel
theorem d29_26 : decode jdk_68_method_32_code 26 = .ok (.aload_n 0, 1) := by decide +kernel
theorem d29_27 : decode jdk_68_method_32_code 27 = .ok (.getfield 15, 3) := by decide +kernel
theorem d29_30 : decode jdk_68_method_32_code 30 = .ok (.invokestatic 248, 3) := by decide +kernel
theorem pd_17 : parseMethodDescriptor "(II[B)I" = some ⟨[.int, .int, (.array .byte)], some .int⟩ := by decide +kernel
theorem d29_33 : decode jdk_68_method_32_code 33 = .ok (.pop, 1) := by decide +kernel
theorem d29_34 : decode jdk_68_method_32_code 34 = .ok (.goto 14, 3) := by decide +kernel
theorem d29_48 : decode jdk_68_method_32_code 48 = .ok (.aload_n 0, 1) := by decide +kernel
theorem d29_49 : decode jdk_68_method_32_code 49 = .ok (.iload_n 3, 1) := by decide +kernel
theorem d29_50 : decode jdk_68_method_32_code 50 = .ok (.putfield 79, 3) := by decide +kernel
theorem d29_53 : decode jdk_68_method_32_code 53 = .ok (.aload_n 0, 1) := by decide +kernel
theorem d29_54 : decode jdk_68_method_32_code 54 = .ok (.areturn, 1) := by decide +kernel
def Q_rm_appd_asb_24_34 (Z : State) (r0 : Addr) (p1 : Int32) (zc : Int32) (dg : Addr) (kd : ClassId) (rv : Addr) (kv : ClassId) (vv : List Value) (h0 : Heap) (n0 : Nat) (v : Option Value) (h : Heap) (L : List Loc) : Prop := ∃ (nv : List Value), (v = some (.ref r0) ∧ Fr n0 L ∧ Keep h0 h [r0, rv] ∧ Fld Z h r0 "java/lang/AbstractStringBuilder" "value" "[B" (.ref rv) ∧ Fld Z h r0 "java/lang/AbstractStringBuilder" "coder" "B" (.int (0 : Int32)) ∧ Fld Z h r0 "java/lang/AbstractStringBuilder" "count" "I" (.int (25 : Int32)) ∧ Arv Z h rv kv .byte (34 : Int32) nv (.int (0 : Int32)) ∧ nv.length = 34)
set_option maxRecDepth 65536 in
set_option maxHeartbeats 40000000 in
theorem rm_appd_asb_24_34 (l : Launch) (Z : State) (a0 : Array Value) (hw : ∀ d ∈ tables_1, d.before a0 Z = true) (ws : List Jvm.Cond) (r0 : Addr) (p1 : Int32) (zc : Int32) (dg : Addr) (kd : ClassId) (rv : Addr) (kv : ClassId) (vv : List Value) (h0 : Heap) (n0 : Nat) (Z0 : n0 ≤ h0.size) (uO : Old Z n0 h0) (uS : Sta Z Z.heap "java/lang/String" "COMPACT_STRINGS" "Z" (.int zc)) (uP : ¬ zc = 0) (uD : Sta Z Z.heap "java/lang/Integer" "DigitOnes" "[B" (.ref dg)) (uDV : Arv Z Z.heap dg kd .byte (100 : Int32) own_ones (.int (0 : Int32))) (u0 : ¬ p1 < 0) (u9 : (-10 : Int32) < (-p1)) (u99 : (-100 : Int32) < (-p1)) (u8 : ¬ (-p1) < (-9 : Int32)) (u100 : p1 < (100 : Int32)) (uE : Exa Z h0 r0 "java/lang/StringBuilder") (uv : Fld Z h0 r0 "java/lang/AbstractStringBuilder" "value" "[B" (.ref rv)) (uc : Fld Z h0 r0 "java/lang/AbstractStringBuilder" "coder" "B" (.int (0 : Int32))) (uV : Arv Z h0 rv kv .byte (34 : Int32) vv (.int (0 : Int32))) (uL : vv.length = 34) (uk : Fld Z h0 r0 "java/lang/AbstractStringBuilder" "count" "I" (.int (24 : Int32))) (ug : n0 ≤ r0) (ugv : n0 ≤ rv) :
    MetFree l (⟨"java/lang/AbstractStringBuilder", "append", "(I)Ljava/lang/AbstractStringBuilder;"⟩ : MethodName) (head1 (Jvm.Cond.code (⟨"java/lang/AbstractStringBuilder", "append", "(I)Ljava/lang/AbstractStringBuilder;"⟩ : MethodName) jdk_68_method_32_code 4 (some (.object "java/lang/AbstractStringBuilder")) :: ws) ({ frames := 1, cells := 0, slots := 0, locals := 18 } : Room)) (fun a U => a = #[(.ref r0), (.int p1)] ∧ Z.Warmed39 U.vm ∧ U.heap = h0) (fun _ _ _ _ _ => True) (fun _ U o U' => ∃ v L, o = .returned v ∧ Q_rm_appd_asb_24_34 Z r0 p1 zc dg kd rv kv vv h0 n0 v U'.heap L ∧ FrameEnd U o U' L ({ frames := 1, cells := 0, slots := 0, locals := 18 } : Room).cells ({ frames := 1, cells := 0, slots := 0, locals := 18 } : Room).slots) := by
  refine MetFree.of_bodySF (plainFor_of_name pn_1) hisR ?_
  intro p e s m args below meth c s₁ Bd hml0 hP hK
  obtain ⟨rfl, hZ, hh⟩ := hP
  have hx := Bd.exec
  have hby := Bd.bytes
  have hml : c.maxLocals = 4 := hml0
  have hown : s.vm.findClass "java/lang/AbstractStringBuilder" = some m.cls := findClass_of_methodNamed Bd.named
  have hnm := (name_of_methodNamed Bd.named Bd.method).1
  have X0 : Stand p l e ({ frames := 1, cells := 0, slots := 0, locals := 18 } : Room) s m #[(.ref r0), (.int p1)] below meth c s₁ [] 0 0 := Stand.of_body Bd
  have e0 : s₁.heap = h0 := by rw [← hh, Bd.state]; rfl
  have N0 := Fr.nil n0
  have pre0 : ∀ t, Steps p.tables e below (s₁.setTop (mkF m 0 #[vr r0, vi p1, uu, uu] [])) t → Steps p.tables e below (s₁.setTop (entryFrame m #[(.ref r0), (.int p1)] 4)) t := fun t k => castTop (ef_41 m r0 p1) k
  obtain ⟨T1, X1, e1, st1⟩ := getF X0 hx hZ hown (host := "") (Or.inl (wd hw 123 rfl)) Via.refl e0 uk (g := (mkF m 1 #[vr r0, vi p1, uu, uu] [(.ref r0)])) rfl rfl (hb hby d29_1)
  obtain ⟨_, _, ⟨T2, Lw2, kw2, nw2⟩, -, X2, ⟨Lc2, hQ2, lq2, yq2, zq2⟩, st2⟩ := Jvm.LawKit.callS X1 hx (y := (⟨"java/lang/Integer", "stringSize", "(I)I"⟩ : MethodName)) hown (mvT hZ (wd hw 182 rfl)) (mvT hZ (wd hw 183 rfl)) (mvT hZ (wd hw 184 rfl)) (mvT hZ (wd hw 185 rfl)) (by decide) (backOf (W := 1) (rm_sz1 l Z a0 hw [] p1 h0 n0 Z0 u0 u9) hZ (wd hw 185 rfl) (wd hw 184 rfl) (by decide) (by decide)) (g := (mkF m 7 #[vr r0, vi p1, vi (24 : Int32), uu] [(.int p1), (.int (24 : Int32))])) rfl (by rw [hml]; rfl) (argsL := [(.int p1)]) (rest := [(.int (24 : Int32))]) (lenOf pd_4 rfl) rfl (by show 2 * 0 + _ ≤ _; exact Nat.le_of_eq rfl) (hb hby d29_7) (fun _ _ => ⟨rfl, e1, (by decide : 0 + 0 ≤ _), (by decide : 0 + 0 ≤ _)⟩)
  dsimp only [Pt.U, Pt.locs, Pt.cells, Pt.slots] at X2 lq2 yq2 zq2 st2 hQ2
  have X2 := own_reb X2 lq2 yq2 zq2
  obtain ⟨rfl, Nq2, eh2⟩ := hQ2
  have N2 := Fr.app N0 Nq2
  obtain ⟨cq3, kq3, q3a, q3b, q3c⟩ := isOf hZ eh2 uE
  obtain ⟨_, _, ⟨T3, Lw3, kw3, nw3⟩, -, X3, ⟨Lc3, hQ3, lq3, yq3, zq3⟩, st3⟩ := X2.virtualBack hx (y := (⟨"java/lang/AbstractStringBuilder", "ensureCapacityInternal", "(I)V"⟩ : MethodName)) (z := (⟨"java/lang/AbstractStringBuilder", "ensureCapacityInternal", "(I)V"⟩ : MethodName)) hown (mvT hZ (wd hw 125 rfl)) (mvT hZ (own_decl (wd hw 126 rfl) (wd hw 129 rfl))) (notFace_of_selects (args := #[]) (mvT hZ (wd hw 128 rfl))) (mvT hZ (wd hw 128 rfl)) (mvT hZ (wd hw 126 rfl)) (by decide) (backOf (W := 0) (rm_ensK_25_34 l Z a0 hw [] r0 rv kv vv h0 n0 Z0 uE uv uc uV) hZ (wd hw 129 rfl) (wd hw 92 rfl) (by decide) (by decide)) q3a q3c (g := (mkF m 14 #[vr r0, vi p1, vi (24 : Int32), vi (25 : Int32)] [(.int (25 : Int32)), (.ref r0)])) rfl (by rw [hml]; rfl) (Steps.refl _) (argsL := [(.int (25 : Int32))]) (rest := []) (lenOf pd_1 rfl) rfl (by show 2 * 0 + _ ≤ _; exact Nat.le_of_eq rfl) (hb hby d29_14) (fun _ _ => ⟨rfl, eh2, (by decide : 0 + 0 ≤ _), (by decide : 0 + 0 ≤ _)⟩)
  dsimp only [Pt.U, Pt.locs, Pt.cells, Pt.slots] at X3 lq3 yq3 zq3 st3 hQ3
  have X3 := own_reb X3 lq3 yq3 zq3
  obtain ⟨rfl, Nq3, eh3⟩ := hQ3
  have N3 := Fr.app N2 Nq3
  obtain ⟨cq4, kq4, q4a, q4b, q4c⟩ := isOf hZ eh3 uE
  obtain ⟨_, _, ⟨T4, Lw4, kw4, nw4⟩, -, X4, ⟨Lc4, hQ4, lq4, yq4, zq4⟩, st4⟩ := X3.virtualBack hx (y := (⟨"java/lang/AbstractStringBuilder", "isLatin1", "()Z"⟩ : MethodName)) (z := (⟨"java/lang/AbstractStringBuilder", "isLatin1", "()Z"⟩ : MethodName)) hown (mvT hZ (wd hw 186 rfl)) (mvT hZ (wd hw 187 rfl)) (notFace_of_selects (args := #[]) (mvT hZ (wd hw 189 rfl))) (mvT hZ (wd hw 189 rfl)) (mvT hZ (wd hw 188 rfl)) (by decide) (backOf (W := 0) (rmIL l Z a0 hw [] r0 zc h0 n0 Z0 uO uS uP uc) hZ (wd hw 190 rfl) (wd hw 92 rfl) (by decide) (by decide)) q4a q4c (g := (mkF m 18 #[vr r0, vi p1, vi (24 : Int32), vi (25 : Int32)] [(.ref r0)])) rfl (by rw [hml]; rfl) (Steps.refl _) (argsL := []) (rest := []) (lenOf pd_16 rfl) rfl (by show 2 * 0 + _ ≤ _; exact Nat.le_of_eq rfl) (hb hby d29_18) (fun _ _ => ⟨rfl, eh3, (by decide : 0 + 0 ≤ _), (by decide : 0 + 0 ≤ _)⟩)
  dsimp only [Pt.U, Pt.locs, Pt.cells, Pt.slots] at X4 lq4 yq4 zq4 st4 hQ4
  have X4 := own_reb X4 lq4 yq4 zq4
  obtain ⟨rfl, Nq4, eh4⟩ := hQ4
  have N4 := Fr.app N3 Nq4
  obtain ⟨T5, X5, e5, st5⟩ := getF X4 hx hZ hown (host := "") (Or.inl (wd hw 96 rfl)) Via.refl eh4 uv (g := (mkF m 27 #[vr r0, vi p1, vi (24 : Int32), vi (25 : Int32)] [(.ref r0), (.int (25 : Int32)), (.int p1)])) rfl rfl (hb hby d29_27)
  obtain ⟨_, _, ⟨T6, Lw6, kw6, nw6⟩, -, X6, ⟨Lc6, hQ6, lq6, yq6, zq6⟩, st6⟩ := Jvm.LawKit.callS X5 hx (y := (⟨"java/lang/Integer", "getChars", "(II[B)I"⟩ : MethodName)) hown (mvT hZ (wd hw 191 rfl)) (mvT hZ (wd hw 192 rfl)) (mvT hZ (wd hw 184 rfl)) (mvT hZ (wd hw 193 rfl)) (by decide) (backOf (W := 0) (rm_gc1_25_34 l Z a0 hw [] p1 rv dg kd kv vv h0 n0 Z0 uO uD uDV u0 u9 u99 u8 u100 uV uL ugv) hZ (wd hw 193 rfl) (wd hw 184 rfl) (by decide) (by decide)) (g := (mkF m 30 #[vr r0, vi p1, vi (24 : Int32), vi (25 : Int32)] [(.ref rv), (.int (25 : Int32)), (.int p1)])) rfl (by rw [hml]; rfl) (argsL := [(.int p1), (.int (25 : Int32)), (.ref rv)]) (rest := []) (lenOf pd_17 rfl) rfl (by show 2 * 0 + _ ≤ _; exact Nat.le_of_eq rfl) (hb hby d29_30) (fun _ _ => ⟨rfl, e5, (by decide : 0 + 0 ≤ _), (by decide : 0 + 0 ≤ _)⟩)
  dsimp only [Pt.U, Pt.locs, Pt.cells, Pt.slots] at X6 lq6 yq6 zq6 st6 hQ6
  have X6 := own_reb X6 lq6 yq6 zq6
  obtain ⟨nv_6, rfl, Nq6, Kq6, f6_0, f6_1⟩ := hQ6
  have N6 := Fr.app N4 Nq6
  have K6 : Keep h0 T6.heap [r0, rv] := (Keep.refl h0 [r0, rv]).trans Kq6 (allS (Or.inl (List.mem_of_getElem? (i := 1) rfl)) all0)
  have Z6 : n0 ≤ T6.heap.size := Nat.le_trans Z0 Kq6.1
  have c8 := (uE.keep Kq6)
  have c9 := (uk.keep Kq6 (ninS (Exa.neArv uE uV (wd hw 83 rfl)) nin0))
  obtain ⟨T7, h7, X7, e7, W7, st7⟩ := putF X6 hx hZ hown (host := "") (Or.inl (wd hw 123 rfl)) Via.refl rfl c9 c8 (Or.inl (wd hw 124 rfl)) (wd hw 83 rfl) (ty := .int) (by decide) rfl rfl (g := (mkF m 50 #[vr r0, vi p1, vi (24 : Int32), vi (25 : Int32)] [(.int (25 : Int32)), (.ref r0)])) rfl rfl (hb hby d29_50)
  have Fw7 := c9.same W7
  have N7 := Fr.snoc X7 N6 ug
  have K7 : Keep h0 h7 [r0, rv] := K6.wr W7 (Or.inl (List.mem_of_getElem? (i := 0) rfl))
  have Z7 : n0 ≤ h7.size := by rw [W7.size]; exact Z6
  have c10 := ((uv.keep Kq6 (ninS (Exa.neArv uE uV (wd hw 83 rfl)) nin0)).other W7 (Or.inr (slot_ne (Or.inl (wd hw 97 rfl)) (Or.inl (wd hw 124 rfl)) (by decide) (t := (.array .byte)) (t' := .int) (by decide) (by decide))))
  have c11 := ((uc.keep Kq6 (ninS (Exa.neArv uE uV (wd hw 83 rfl)) nin0)).other W7 (Or.inr (slot_ne (Or.inl (wd hw 99 rfl)) (Or.inl (wd hw 124 rfl)) (by decide) (t := .byte) (t' := .int) (by decide) (by decide))))
  have c12 := (f6_0.other W7 (Ne.symm (Exa.neArv uE uV (wd hw 83 rfl))))
  obtain ⟨fs, hr, hrun, hended, hW, hsame⟩ := X7.leave (v := some (.ref r0)) (fun h => by rw [Bd.returns] at h; cases h)
  refine ⟨_, _, pre0 _ ?_, hrun, hended, _, _, rfl, ?_, ⟨_, rfl⟩, hW, hsame.mono (by decide) (by decide)⟩
  · show SS p e below s₁ (mkF m 0 #[vr r0, vi p1, uu, uu] []) _
    refine XS.aloadN X0.here hx rfl (hb hby d29_0) rfl rfl ?_
    show SS p e below s₁ (mkF m 1 #[vr r0, vi p1, uu, uu] [(.ref r0)]) _
    refine st1 _ ?_
    show SS p e below T1 (mkF m 4 #[vr r0, vi p1, uu, uu] [(.int (24 : Int32))]) _
    refine XS.istoreN X1.here hx rfl (hb hby d29_4) rfl (l' := #[vr r0, vi p1, vi (24 : Int32), uu]) rfl ?_
    show SS p e below T1 (mkF m 5 #[vr r0, vi p1, vi (24 : Int32), uu] []) _
    refine XS.iloadN X1.here hx rfl (hb hby d29_5) rfl ?_
    show SS p e below T1 (mkF m 6 #[vr r0, vi p1, vi (24 : Int32), uu] [(.int (24 : Int32))]) _
    refine XS.iloadN X1.here hx rfl (hb hby d29_6) rfl ?_
    show SS p e below T1 (mkF m 7 #[vr r0, vi p1, vi (24 : Int32), uu] [(.int p1), (.int (24 : Int32))]) _
    refine st2 _ ?_
    show SS p e below T2 (mkF m 10 #[vr r0, vi p1, vi (24 : Int32), uu] [(.int (1 : Int32)), (.int (24 : Int32))]) _
    refine XS.iadd X2.here hx rfl (hb hby d29_10) rfl ?_
    show SS p e below T2 (mkF m 11 #[vr r0, vi p1, vi (24 : Int32), uu] [(.int ((24 : Int32) + (1 : Int32)))]) _
    rw [(show ((24 : Int32) + (1 : Int32)) = (25 : Int32) from by decide)]
    show SS p e below T2 (mkF m 11 #[vr r0, vi p1, vi (24 : Int32), uu] [(.int (25 : Int32))]) _
    refine XS.istoreN X2.here hx rfl (hb hby d29_11) rfl (l' := #[vr r0, vi p1, vi (24 : Int32), vi (25 : Int32)]) rfl ?_
    show SS p e below T2 (mkF m 12 #[vr r0, vi p1, vi (24 : Int32), vi (25 : Int32)] []) _
    refine XS.aloadN X2.here hx rfl (hb hby d29_12) rfl rfl ?_
    show SS p e below T2 (mkF m 13 #[vr r0, vi p1, vi (24 : Int32), vi (25 : Int32)] [(.ref r0)]) _
    refine XS.iloadN X2.here hx rfl (hb hby d29_13) rfl ?_
    show SS p e below T2 (mkF m 14 #[vr r0, vi p1, vi (24 : Int32), vi (25 : Int32)] [(.int (25 : Int32)), (.ref r0)]) _
    refine st3.trans ?_
    show SS p e below T3 (mkF m 17 #[vr r0, vi p1, vi (24 : Int32), vi (25 : Int32)] []) _
    refine XS.aloadN X3.here hx rfl (hb hby d29_17) rfl rfl ?_
    show SS p e below T3 (mkF m 18 #[vr r0, vi p1, vi (24 : Int32), vi (25 : Int32)] [(.ref r0)]) _
    refine st4.trans ?_
    show SS p e below T4 (mkF m 21 #[vr r0, vi p1, vi (24 : Int32), vi (25 : Int32)] [(.int (1 : Int32))]) _
    refine XS.ifNo X4.here hx rfl (hb hby d29_21) rfl ((if0 _ _).trans (feq (by decide : ¬ ((1 : Int32) = (0 : Int32)))).1) ?_
    show SS p e below T4 (mkF m 24 #[vr r0, vi p1, vi (24 : Int32), vi (25 : Int32)] []) _
    refine XS.iloadN X4.here hx rfl (hb hby d29_24) rfl ?_
    show SS p e below T4 (mkF m 25 #[vr r0, vi p1, vi (24 : Int32), vi (25 : Int32)] [(.int p1)]) _
    refine XS.iloadN X4.here hx rfl (hb hby d29_25) rfl ?_
    show SS p e below T4 (mkF m 26 #[vr r0, vi p1, vi (24 : Int32), vi (25 : Int32)] [(.int (25 : Int32)), (.int p1)]) _
    refine XS.aloadN X4.here hx rfl (hb hby d29_26) rfl rfl ?_
    show SS p e below T4 (mkF m 27 #[vr r0, vi p1, vi (24 : Int32), vi (25 : Int32)] [(.ref r0), (.int (25 : Int32)), (.int p1)]) _
    refine st5 _ ?_
    show SS p e below T5 (mkF m 30 #[vr r0, vi p1, vi (24 : Int32), vi (25 : Int32)] [(.ref rv), (.int (25 : Int32)), (.int p1)]) _
    refine st6 _ ?_
    show SS p e below T6 (mkF m 33 #[vr r0, vi p1, vi (24 : Int32), vi (25 : Int32)] [(.int (24 : Int32))]) _
    refine XS.pop X6.here hx rfl (hb hby d29_33) rfl rfl ?_
    show SS p e below T6 (mkF m 34 #[vr r0, vi p1, vi (24 : Int32), vi (25 : Int32)] []) _
    refine XS.goto X6.here hx rfl (pc0 := 34) (pc' := 48) rfl (hb hby d29_34) (by decide) (by decide) ?_
    show SS p e below T6 (mkF m 48 #[vr r0, vi p1, vi (24 : Int32), vi (25 : Int32)] []) _
    refine XS.aloadN X6.here hx rfl (hb hby d29_48) rfl rfl ?_
    show SS p e below T6 (mkF m 49 #[vr r0, vi p1, vi (24 : Int32), vi (25 : Int32)] [(.ref r0)]) _
    refine XS.iloadN X6.here hx rfl (hb hby d29_49) rfl ?_
    show SS p e below T6 (mkF m 50 #[vr r0, vi p1, vi (24 : Int32), vi (25 : Int32)] [(.int (25 : Int32)), (.ref r0)]) _
    refine st7 _ ?_
    show SS p e below T7 (mkF m 53 #[vr r0, vi p1, vi (24 : Int32), vi (25 : Int32)] []) _
    refine XS.aloadN X7.here hx rfl (hb hby d29_53) rfl rfl ?_
    show SS p e below T7 (mkF m 54 #[vr r0, vi p1, vi (24 : Int32), vi (25 : Int32)] [(.ref r0)]) _
    exact retOut X7 hx Bd.returns rfl (Or.inr (Or.inr (Or.inr (Or.inr ⟨rfl, rfl, rfl⟩)))) (hb hby d29_54) hr
  · show Q_rm_appd_asb_24_34 Z r0 p1 zc dg kd rv kv vv h0 n0 _ T7.heap _
    rw [e7]
    exact ⟨nv_6, rfl, N7, K7, c10, c11, Fw7, c12, f6_1⟩
theorem ef_42 (m : MethodId) (x0 : Addr) (x1 : Int32) : entryFrame m #[(.ref x0), (.int x1)] 2 = mkF m 0 #[vr x0, vi x1] [] := by first | (simp [entryFrame, mkF, argsToLocals, Value.category]; done) | rfl
theorem d28_0 : decode jdk_67_method_15_code 0 = .ok (.aload_n 0, 1) := by decide +kernel
theorem d28_1 : decode jdk_67_method_15_code 1 = .ok (.iload_n 1, 1) := by decide +kernel
theorem d28_2 : decode jdk_67_method_15_code 2 = .ok (.invokespecial 53, 3) := by decide +kernel
theorem pd_18 : parseMethodDescriptor "(I)Ljava/lang/AbstractStringBuilder;" = some ⟨[.int], some (.object "java/lang/AbstractStringBuilder")⟩ := by decide +kernel
theorem d28_5 : decode jdk_67_method_15_code 5 = .ok (.pop, 1) := by decide +kernel
theorem d28_6 : decode jdk_67_method_15_code 6 = .ok (.aload_n 0, 1) := by decide +kernel
theorem d28_7 : decode jdk_67_method_15_code 7 = .ok (.areturn, 1) := by decide +kernel
def Q_rm_appd_sb_24_34 (Z : State) (r0 : Addr) (p1 : Int32) (zc : Int32) (dg : Addr) (kd : ClassId) (rv : Addr) (kv : ClassId) (vv : List Value) (h0 : Heap) (n0 : Nat) (v : Option Value) (h : Heap) (L : List Loc) : Prop := ∃ (nv : List Value), (v = some (.ref r0) ∧ Fr n0 L ∧ Keep h0 h [r0, rv] ∧ Fld Z h r0 "java/lang/AbstractStringBuilder" "value" "[B" (.ref rv) ∧ Fld Z h r0 "java/lang/AbstractStringBuilder" "coder" "B" (.int (0 : Int32)) ∧ Fld Z h r0 "java/lang/AbstractStringBuilder" "count" "I" (.int (25 : Int32)) ∧ Arv Z h rv kv .byte (34 : Int32) nv (.int (0 : Int32)) ∧ nv.length = 34)
set_option maxRecDepth 65536 in
set_option maxHeartbeats 40000000 in
theorem rm_appd_sb_24_34 (l : Launch) (Z : State) (a0 : Array Value) (hw : ∀ d ∈ tables_1, d.before a0 Z = true) (ws : List Jvm.Cond) (r0 : Addr) (p1 : Int32) (zc : Int32) (dg : Addr) (kd : ClassId) (rv : Addr) (kv : ClassId) (vv : List Value) (h0 : Heap) (n0 : Nat) (Z0 : n0 ≤ h0.size) (uO : Old Z n0 h0) (uS : Sta Z Z.heap "java/lang/String" "COMPACT_STRINGS" "Z" (.int zc)) (uP : ¬ zc = 0) (uD : Sta Z Z.heap "java/lang/Integer" "DigitOnes" "[B" (.ref dg)) (uDV : Arv Z Z.heap dg kd .byte (100 : Int32) own_ones (.int (0 : Int32))) (u0 : ¬ p1 < 0) (u9 : (-10 : Int32) < (-p1)) (u99 : (-100 : Int32) < (-p1)) (u8 : ¬ (-p1) < (-9 : Int32)) (u100 : p1 < (100 : Int32)) (uE : Exa Z h0 r0 "java/lang/StringBuilder") (uv : Fld Z h0 r0 "java/lang/AbstractStringBuilder" "value" "[B" (.ref rv)) (uc : Fld Z h0 r0 "java/lang/AbstractStringBuilder" "coder" "B" (.int (0 : Int32))) (uV : Arv Z h0 rv kv .byte (34 : Int32) vv (.int (0 : Int32))) (uL : vv.length = 34) (uk : Fld Z h0 r0 "java/lang/AbstractStringBuilder" "count" "I" (.int (24 : Int32))) (ug : n0 ≤ r0) (ugv : n0 ≤ rv) :
    MetFree l (⟨"java/lang/StringBuilder", "append", "(I)Ljava/lang/StringBuilder;"⟩ : MethodName) (head1 (Jvm.Cond.code (⟨"java/lang/StringBuilder", "append", "(I)Ljava/lang/StringBuilder;"⟩ : MethodName) jdk_67_method_15_code 2 (some (.object "java/lang/StringBuilder")) :: ws) ({ frames := 2, cells := 0, slots := 0, locals := 33 } : Room)) (fun a U => a = #[(.ref r0), (.int p1)] ∧ Z.Warmed39 U.vm ∧ U.heap = h0) (fun _ _ _ _ _ => True) (fun _ U o U' => ∃ v L, o = .returned v ∧ Q_rm_appd_sb_24_34 Z r0 p1 zc dg kd rv kv vv h0 n0 v U'.heap L ∧ FrameEnd U o U' L ({ frames := 2, cells := 0, slots := 0, locals := 33 } : Room).cells ({ frames := 2, cells := 0, slots := 0, locals := 33 } : Room).slots) := by
  refine MetFree.of_bodySF (plainFor_of_name pn_2) hisR ?_
  intro p e s m args below meth c s₁ Bd hml0 hP hK
  obtain ⟨rfl, hZ, hh⟩ := hP
  have hx := Bd.exec
  have hby := Bd.bytes
  have hml : c.maxLocals = 2 := hml0
  have hown : s.vm.findClass "java/lang/StringBuilder" = some m.cls := findClass_of_methodNamed Bd.named
  have hnm := (name_of_methodNamed Bd.named Bd.method).1
  have X0 : Stand p l e ({ frames := 2, cells := 0, slots := 0, locals := 33 } : Room) s m #[(.ref r0), (.int p1)] below meth c s₁ [] 0 0 := Stand.of_body Bd
  have e0 : s₁.heap = h0 := by rw [← hh, Bd.state]; rfl
  have N0 := Fr.nil n0
  have pre0 : ∀ t, Steps p.tables e below (s₁.setTop (mkF m 0 #[vr r0, vi p1] [])) t → Steps p.tables e below (s₁.setTop (entryFrame m #[(.ref r0), (.int p1)] 2)) t := fun t k => castTop (ef_42 m r0 p1) k
  obtain ⟨_, _, ⟨T1, Lw1, kw1, nw1⟩, -, X1, ⟨Lc1, hQ1, lq1, yq1, zq1⟩, st1⟩ := superBack X0 hx hZ (y := (⟨"java/lang/AbstractStringBuilder", "append", "(I)Ljava/lang/AbstractStringBuilder;"⟩ : MethodName)) hown (wd hw 178 rfl) (own_same (wd hw 179 rfl) (own_face (wd hw 128 rfl) rfl) (by decide)) (wd hw 179 rfl) (wd hw 107 rfl) (by decide) (backOf (W := 0) (rm_appd_asb_24_34 l Z a0 hw [] r0 p1 zc dg kd rv kv vv h0 n0 Z0 uO uS uP uD uDV u0 u9 u99 u8 u100 uE uv uc uV uL uk ug ugv) hZ (wd hw 181 rfl) (wd hw 92 rfl) (by decide) (by decide)) e0 (Ins.self uE) (g := (mkF m 2 #[vr r0, vi p1] [(.int p1), (.ref r0)])) rfl (by rw [hml]; rfl) (wd hw 181 rfl) (argsL := [(.int p1)]) (rest := []) (lenOf pd_18 rfl) rfl (by show 2 * 0 + _ ≤ _; exact Nat.le_of_eq rfl) (hb hby d28_2) (fun _ _ => ⟨rfl, e0, (by decide : 0 + 0 ≤ _), (by decide : 0 + 0 ≤ _)⟩)
  dsimp only [Pt.U, Pt.locs, Pt.cells, Pt.slots] at X1 lq1 yq1 zq1 st1 hQ1
  have X1 := own_reb X1 lq1 yq1 zq1
  obtain ⟨nv_1, rfl, Nq1, Kq1, f1_0, f1_1, f1_2, f1_3, f1_4⟩ := hQ1
  have N1 := Fr.app N0 Nq1
  have K1 : Keep h0 T1.heap [r0, rv] := (Keep.refl h0 [r0, rv]).trans Kq1 (allS (Or.inl (List.mem_of_getElem? (i := 0) rfl)) (allS (Or.inl (List.mem_of_getElem? (i := 1) rfl)) all0))
  have Z1 : n0 ≤ T1.heap.size := Nat.le_trans Z0 Kq1.1
  obtain ⟨fs, hr, hrun, hended, hW, hsame⟩ := X1.leave (v := some (.ref r0)) (fun h => by rw [Bd.returns] at h; cases h)
  refine ⟨_, _, pre0 _ ?_, hrun, hended, _, _, rfl, ?_, ⟨_, rfl⟩, hW, hsame.mono (by decide) (by decide)⟩
  · show SS p e below s₁ (mkF m 0 #[vr r0, vi p1] []) _
    refine XS.aloadN X0.here hx rfl (hb hby d28_0) rfl rfl ?_
    show SS p e below s₁ (mkF m 1 #[vr r0, vi p1] [(.ref r0)]) _
    refine XS.iloadN X0.here hx rfl (hb hby d28_1) rfl ?_
    show SS p e below s₁ (mkF m 2 #[vr r0, vi p1] [(.int p1), (.ref r0)]) _
    refine st1.trans ?_
    show SS p e below T1 (mkF m 5 #[vr r0, vi p1] [(.ref r0)]) _
    refine XS.pop X1.here hx rfl (hb hby d28_5) rfl rfl ?_
    show SS p e below T1 (mkF m 6 #[vr r0, vi p1] []) _
    refine XS.aloadN X1.here hx rfl (hb hby d28_6) rfl rfl ?_
    show SS p e below T1 (mkF m 7 #[vr r0, vi p1] [(.ref r0)]) _
    exact retOut X1 hx Bd.returns rfl (Or.inr (Or.inr (Or.inr (Or.inr ⟨rfl, rfl, rfl⟩)))) (hb hby d28_7) hr
  · show Q_rm_appd_sb_24_34 Z r0 p1 zc dg kd rv kv vv h0 n0 _ T1.heap _
    exact ⟨nv_1, rfl, N1, K1, f1_0, f1_1, f1_2, f1_3, f1_4⟩
theorem ef_43 (m : MethodId) (x0 : Addr) (x1 : Addr) : entryFrame m #[(.ref x0), (.ref x1), (.int (25 : Int32)), (.int (0 : Int32))] 4 = mkF m 0 #[vr x0, vr x1, vi (25 : Int32), vi (0 : Int32)] [] := by first | (simp [entryFrame, mkF, argsToLocals, Value.category]; done) | rfl
def Q_rm_gb_25_1_34 (Z : State) (r0 : Addr) (r1 : Addr) (zc : Int32) (rt : Addr) (kt : ClassId) (vt : List Value) (kd : ClassId) (vd : List Value) (h0 : Heap) (n0 : Nat) (v : Option Value) (h : Heap) (L : List Loc) : Prop := ∃ (nv : List Value), (v = none ∧ Fr n0 L ∧ Keep h0 h [r1] ∧ Arv Z h r1 kd .byte (34 : Int32) nv (.int (0 : Int32)) ∧ nv.length = 34)
set_option maxRecDepth 65536 in
set_option maxHeartbeats 40000000 in
theorem rm_gb_25_1_34 (l : Launch) (Z : State) (a0 : Array Value) (hw : ∀ d ∈ tables_1, d.before a0 Z = true) (ws : List Jvm.Cond) (r0 : Addr) (r1 : Addr) (zc : Int32) (rt : Addr) (kt : ClassId) (vt : List Value) (kd : ClassId) (vd : List Value) (h0 : Heap) (n0 : Nat) (Z0 : n0 ≤ h0.size) (uO : Old Z n0 h0) (uS : Sta Z Z.heap "java/lang/String" "COMPACT_STRINGS" "Z" (.int zc)) (uP : ¬ zc = 0) (us : Exa Z h0 r0 "java/lang/String") (usv : Fld Z h0 r0 "java/lang/String" "value" "[B" (.ref rt)) (usc : Fld Z h0 r0 "java/lang/String" "coder" "B" (.int (0 : Int32))) (usV : Arv Z h0 rt kt .byte (1 : Int32) vt (.int (0 : Int32))) (uVd : Arv Z h0 r1 kd .byte (34 : Int32) vd (.int (0 : Int32))) (uL : vd.length = 34) (ug : n0 ≤ r1) :
    MetFree l (⟨"java/lang/String", "getBytes", "([BIB)V"⟩ : MethodName) (head1 (Jvm.Cond.code (⟨"java/lang/String", "getBytes", "([BIB)V"⟩ : MethodName) jdk_42_method_147_code 4 none :: ws) ({ frames := 1, cells := 0, slots := 0, locals := 18 } : Room)) (fun a U => a = #[(.ref r0), (.ref r1), (.int (25 : Int32)), (.int (0 : Int32))] ∧ Z.Warmed39 U.vm ∧ U.heap = h0) (fun _ _ _ _ _ => True) (fun _ U o U' => ∃ v L, o = .returned v ∧ Q_rm_gb_25_1_34 Z r0 r1 zc rt kt vt kd vd h0 n0 v U'.heap L ∧ FrameEnd U o U' L ({ frames := 1, cells := 0, slots := 0, locals := 18 } : Room).cells ({ frames := 1, cells := 0, slots := 0, locals := 18 } : Room).slots) := by
  refine MetFree.of_bodySF (plainFor_of_name pn_0) hisR ?_
  intro p e s m args below meth c s₁ Bd hml0 hP hK
  obtain ⟨rfl, hZ, hh⟩ := hP
  have hx := Bd.exec
  have hby := Bd.bytes
  have hml : c.maxLocals = 4 := hml0
  have hown : s.vm.findClass "java/lang/String" = some m.cls := findClass_of_methodNamed Bd.named
  have hnm := (name_of_methodNamed Bd.named Bd.method).1
  have X0 : Stand p l e ({ frames := 1, cells := 0, slots := 0, locals := 18 } : Room) s m #[(.ref r0), (.ref r1), (.int (25 : Int32)), (.int (0 : Int32))] below meth c s₁ [] 0 0 := Stand.of_body Bd
  have e0 : s₁.heap = h0 := by rw [← hh, Bd.state]; rfl
  have N0 := Fr.nil n0
  have pre0 : ∀ t, Steps p.tables e below (s₁.setTop (mkF m 0 #[vr r0, vr r1, vi (25 : Int32), vi (0 : Int32)] [])) t → Steps p.tables e below (s₁.setTop (entryFrame m #[(.ref r0), (.ref r1), (.int (25 : Int32)), (.int (0 : Int32))] 4)) t := fun t k => castTop (ef_43 m r0 r1) k
  obtain ⟨cq1, kq1, q1a, q1b, q1c⟩ := isOf hZ e0 us
  obtain ⟨_, _, ⟨T1, Lw1, kw1, nw1⟩, -, X1, ⟨Lc1, hQ1, lq1, yq1, zq1⟩, st1⟩ := X0.virtualBack hx (y := (⟨"java/lang/String", "coder", "()B"⟩ : MethodName)) (z := (⟨"java/lang/String", "coder", "()B"⟩ : MethodName)) hown (mvT hZ (wd hw 116 rfl)) (mvT hZ (wd hw 117 rfl)) (notFace_of_selects (args := #[]) (mvT hZ (wd hw 119 rfl))) (mvT hZ (wd hw 119 rfl)) (mvT hZ (wd hw 118 rfl)) (by decide) (backOf (W := 0) (rmCoder l Z a0 hw [] r0 zc h0 n0 Z0 uO uS uP usc) hZ (wd hw 120 rfl) (wd hw 14 rfl) (by decide) (by decide)) q1a q1c (g := (mkF m 1 #[vr r0, vr r1, vi (25 : Int32), vi (0 : Int32)] [(.ref r0)])) rfl (by rw [hml]; rfl) (Steps.refl _) (argsL := []) (rest := []) (lenOf pd_0 rfl) rfl (by show 2 * 0 + _ ≤ _; exact Nat.le_of_eq rfl) (hb hby d22_1) (fun _ _ => ⟨rfl, e0, (by decide : 0 + 0 ≤ _), (by decide : 0 + 0 ≤ _)⟩)
  dsimp only [Pt.U, Pt.locs, Pt.cells, Pt.slots] at X1 lq1 yq1 zq1 st1 hQ1
  have X1 := own_reb X1 lq1 yq1 zq1
  obtain ⟨rfl, Nq1, eh1⟩ := hQ1
  have N1 := Fr.app N0 Nq1
  obtain ⟨T2, X2, e2, st2⟩ := getF X1 hx hZ hown (host := "") (Or.inl (wd hw 115 rfl)) Via.refl eh1 usv (g := (mkF m 9 #[vr r0, vr r1, vi (25 : Int32), vi (0 : Int32)] [(.ref r0)])) rfl rfl (hb hby d22_9)
  obtain ⟨T3, X3, e3, st3⟩ := getF X2 hx hZ hown (host := "") (Or.inl (wd hw 115 rfl)) Via.refl e2 usv (g := (mkF m 18 #[vr r0, vr r1, vi (25 : Int32), vi (0 : Int32)] [(.ref r0), (.int (25 : Int32)), (.ref r1), (.int (0 : Int32)), (.ref rt)])) rfl rfl (hb hby d22_18)
  obtain ⟨cl4, Ar4, q4, S4, Nn4, H4, G4⟩ := (id usV)
  obtain ⟨T5, h5, L5, X5, e5, N5, Kq5, V5, st5⟩ := cpA X3 hx hZ hown (wd hw 146 rfl) (wd hw 149 rfl) (wd hw 147 rfl) (wd hw 148 rfl) e3 (us := ((List.range ((1 : Int32)).toNatClampNeg).map fun i => List.getD vt (((0 : Int32)).toNatClampNeg + i) (.int (0 : Int32)))) usV uVd (Or.inl ⟨rfl, rfl⟩) (by decide) (by decide) (by decide) (by decide) (by decide) rfl (by rw [uL]; decide) N1 ug (g := (mkF m 22 #[vr r0, vr r1, vi (25 : Int32), vi (0 : Int32)] [(.int (1 : Int32)), (.int (25 : Int32)), (.ref r1), (.int (0 : Int32)), (.ref rt)])) rfl (by rw [hml]; rfl) rfl (hb hby d22_22) (by decide) (W := 0) (by show 2 * 0 + _ ≤ _; exact Nat.le_of_eq rfl) (by decide)
  have K5 : Keep h0 h5 [r1] := (Keep.refl h0 [r1]).trans Kq5 (allS (Or.inl (List.mem_of_getElem? (i := 0) rfl)) all0)
  have Z5 : n0 ≤ h5.size := Nat.le_trans Z0 Kq5.1
  obtain ⟨fs, hr, hrun, hended, hW, hsame⟩ := X5.leave (v := none) (fun _ => rfl)
  refine ⟨_, _, pre0 _ ?_, hrun, hended, _, _, rfl, ?_, ⟨_, rfl⟩, hW, hsame.mono (by decide) (by decide)⟩
  · show SS p e below s₁ (mkF m 0 #[vr r0, vr r1, vi (25 : Int32), vi (0 : Int32)] []) _
    refine XS.aloadN X0.here hx rfl (hb hby d22_0) rfl rfl ?_
    show SS p e below s₁ (mkF m 1 #[vr r0, vr r1, vi (25 : Int32), vi (0 : Int32)] [(.ref r0)]) _
    refine st1.trans ?_
    show SS p e below T1 (mkF m 4 #[vr r0, vr r1, vi (25 : Int32), vi (0 : Int32)] [(.int (0 : Int32))]) _
    refine XS.iloadN X1.here hx rfl (hb hby d22_4) rfl ?_
    show SS p e below T1 (mkF m 5 #[vr r0, vr r1, vi (25 : Int32), vi (0 : Int32)] [(.int (0 : Int32)), (.int (0 : Int32))]) _
    refine XS.icmpNo X1.here hx rfl (hb hby d22_5) rfl (teq (by decide : (0 : Int32) = (0 : Int32))).2 ?_
    show SS p e below T1 (mkF m 8 #[vr r0, vr r1, vi (25 : Int32), vi (0 : Int32)] []) _
    refine XS.aloadN X1.here hx rfl (hb hby d22_8) rfl rfl ?_
    show SS p e below T1 (mkF m 9 #[vr r0, vr r1, vi (25 : Int32), vi (0 : Int32)] [(.ref r0)]) _
    refine st2 _ ?_
    show SS p e below T2 (mkF m 12 #[vr r0, vr r1, vi (25 : Int32), vi (0 : Int32)] [(.ref rt)]) _
    refine XS.iconst X2.here hx rfl (hb hby d22_12) ?_
    show SS p e below T2 (mkF m 13 #[vr r0, vr r1, vi (25 : Int32), vi (0 : Int32)] [(.int (0 : Int32)), (.ref rt)]) _
    refine XS.aloadN X2.here hx rfl (hb hby d22_13) rfl rfl ?_
    show SS p e below T2 (mkF m 14 #[vr r0, vr r1, vi (25 : Int32), vi (0 : Int32)] [(.ref r1), (.int (0 : Int32)), (.ref rt)]) _
    refine XS.iloadN X2.here hx rfl (hb hby d22_14) rfl ?_
    show SS p e below T2 (mkF m 15 #[vr r0, vr r1, vi (25 : Int32), vi (0 : Int32)] [(.int (25 : Int32)), (.ref r1), (.int (0 : Int32)), (.ref rt)]) _
    refine XS.iloadN X2.here hx rfl (hb hby d22_15) rfl ?_
    show SS p e below T2 (mkF m 16 #[vr r0, vr r1, vi (25 : Int32), vi (0 : Int32)] [(.int (0 : Int32)), (.int (25 : Int32)), (.ref r1), (.int (0 : Int32)), (.ref rt)]) _
    refine XS.ishl X2.here hx rfl (hb hby d22_16) rfl ?_
    show SS p e below T2 (mkF m 17 #[vr r0, vr r1, vi (25 : Int32), vi (0 : Int32)] [(.int ((25 : Int32) <<< ((0 : Int32) &&& 31))), (.ref r1), (.int (0 : Int32)), (.ref rt)]) _
    rw [(show ((25 : Int32) <<< ((0 : Int32) &&& 31)) = (25 : Int32) from by decide)]
    show SS p e below T2 (mkF m 17 #[vr r0, vr r1, vi (25 : Int32), vi (0 : Int32)] [(.int (25 : Int32)), (.ref r1), (.int (0 : Int32)), (.ref rt)]) _
    refine XS.aloadN X2.here hx rfl (hb hby d22_17) rfl rfl ?_
    show SS p e below T2 (mkF m 18 #[vr r0, vr r1, vi (25 : Int32), vi (0 : Int32)] [(.ref r0), (.int (25 : Int32)), (.ref r1), (.int (0 : Int32)), (.ref rt)]) _
    refine st3 _ ?_
    show SS p e below T3 (mkF m 21 #[vr r0, vr r1, vi (25 : Int32), vi (0 : Int32)] [(.ref rt), (.int (25 : Int32)), (.ref r1), (.int (0 : Int32)), (.ref rt)]) _
    refine X3.arraylength hx (own_at e3 Ar4.1) (State.isArrayOf_alike hZ.alike Ar4.2.1) (g := (mkF m 21 #[vr r0, vr r1, vi (25 : Int32), vi (0 : Int32)] [(.ref rt), (.int (25 : Int32)), (.ref r1), (.int (0 : Int32)), (.ref rt)])) rfl rfl (hb hby d22_21) _ ?_
    rw [len_of S4 Nn4]
    show SS p e below T3 (mkF m 22 #[vr r0, vr r1, vi (25 : Int32), vi (0 : Int32)] [(.int (1 : Int32)), (.int (25 : Int32)), (.ref r1), (.int (0 : Int32)), (.ref rt)]) _
    refine st5 _ ?_
    show SS p e below T5 (mkF m 25 #[vr r0, vr r1, vi (25 : Int32), vi (0 : Int32)] []) _
    refine XS.goto X5.here hx rfl (pc0 := 25) (pc' := 43) rfl (hb hby d22_25) (by decide) (by decide) ?_
    show SS p e below T5 (mkF m 43 #[vr r0, vr r1, vi (25 : Int32), vi (0 : Int32)] []) _
    exact X5.returnOut hx Bd.returns (hb hby d22_43) hr
  · show Q_rm_gb_25_1_34 Z r0 r1 zc rt kt vt kd vd h0 n0 _ T5.heap _
    rw [e5]
    exact ⟨(List.take ((25 : Int32)).toNatClampNeg vd ++ ((List.range ((1 : Int32)).toNatClampNeg).map fun i => List.getD vt (((0 : Int32)).toNatClampNeg + i) (.int (0 : Int32))) ++ List.drop (((25 : Int32)).toNatClampNeg + ((1 : Int32)).toNatClampNeg) vd), rfl, N5, K5, V5, (own_len3 uL (by simp only [List.length_map, List.length_range]) (by decide))⟩
theorem ef_44 (m : MethodId) (x0 : Addr) (x2 : Addr) : entryFrame m #[(.ref x0), (.int (25 : Int32)), (.ref x2)] 3 = mkF m 0 #[vr x0, vi (25 : Int32), vr x2] [] := by first | (simp [entryFrame, mkF, argsToLocals, Value.category]; done) | rfl
def Q_rm_ps_25_1_34 (Z : State) (r0 : Addr) (r2 : Addr) (zc : Int32) (rv : Addr) (kv : ClassId) (vv : List Value) (rt : Addr) (kt : ClassId) (vt : List Value) (h0 : Heap) (n0 : Nat) (v : Option Value) (h : Heap) (L : List Loc) : Prop := ∃ (nv : List Value), (v = none ∧ Fr n0 L ∧ Keep h0 h [rv] ∧ Arv Z h rv kv .byte (34 : Int32) nv (.int (0 : Int32)) ∧ nv.length = 34)
set_option maxRecDepth 65536 in
set_option maxHeartbeats 40000000 in
theorem rm_ps_25_1_34 (l : Launch) (Z : State) (a0 : Array Value) (hw : ∀ d ∈ tables_1, d.before a0 Z = true) (ws : List Jvm.Cond) (r0 : Addr) (r2 : Addr) (zc : Int32) (rv : Addr) (kv : ClassId) (vv : List Value) (rt : Addr) (kt : ClassId) (vt : List Value) (h0 : Heap) (n0 : Nat) (Z0 : n0 ≤ h0.size) (uO : Old Z n0 h0) (uS : Sta Z Z.heap "java/lang/String" "COMPACT_STRINGS" "Z" (.int zc)) (uP : ¬ zc = 0) (uE : Exa Z h0 r0 "java/lang/StringBuilder") (uv : Fld Z h0 r0 "java/lang/AbstractStringBuilder" "value" "[B" (.ref rv)) (uc : Fld Z h0 r0 "java/lang/AbstractStringBuilder" "coder" "B" (.int (0 : Int32))) (uV : Arv Z h0 rv kv .byte (34 : Int32) vv (.int (0 : Int32))) (uL : vv.length = 34) (us : Exa Z h0 r2 "java/lang/String") (usv : Fld Z h0 r2 "java/lang/String" "value" "[B" (.ref rt)) (usc : Fld Z h0 r2 "java/lang/String" "coder" "B" (.int (0 : Int32))) (usV : Arv Z h0 rt kt .byte (1 : Int32) vt (.int (0 : Int32))) (ug : n0 ≤ rv) :
    MetFree l (⟨"java/lang/AbstractStringBuilder", "putStringAt", "(ILjava/lang/String;)V"⟩ : MethodName) (head1 (Jvm.Cond.code (⟨"java/lang/AbstractStringBuilder", "putStringAt", "(ILjava/lang/String;)V"⟩ : MethodName) jdk_68_method_73_code 3 none :: ws) ({ frames := 2, cells := 0, slots := 0, locals := 33 } : Room)) (fun a U => a = #[(.ref r0), (.int (25 : Int32)), (.ref r2)] ∧ Z.Warmed39 U.vm ∧ U.heap = h0) (fun _ _ _ _ _ => True) (fun _ U o U' => ∃ v L, o = .returned v ∧ Q_rm_ps_25_1_34 Z r0 r2 zc rv kv vv rt kt vt h0 n0 v U'.heap L ∧ FrameEnd U o U' L ({ frames := 2, cells := 0, slots := 0, locals := 33 } : Room).cells ({ frames := 2, cells := 0, slots := 0, locals := 33 } : Room).slots) := by
  refine MetFree.of_bodySF (plainFor_of_name pn_1) hisR ?_
  intro p e s m args below meth c s₁ Bd hml0 hP hK
  obtain ⟨rfl, hZ, hh⟩ := hP
  have hx := Bd.exec
  have hby := Bd.bytes
  have hml : c.maxLocals = 3 := hml0
  have hown : s.vm.findClass "java/lang/AbstractStringBuilder" = some m.cls := findClass_of_methodNamed Bd.named
  have hnm := (name_of_methodNamed Bd.named Bd.method).1
  have X0 : Stand p l e ({ frames := 2, cells := 0, slots := 0, locals := 33 } : Room) s m #[(.ref r0), (.int (25 : Int32)), (.ref r2)] below meth c s₁ [] 0 0 := Stand.of_body Bd
  have e0 : s₁.heap = h0 := by rw [← hh, Bd.state]; rfl
  have N0 := Fr.nil n0
  have pre0 : ∀ t, Steps p.tables e below (s₁.setTop (mkF m 0 #[vr r0, vi (25 : Int32), vr r2] [])) t → Steps p.tables e below (s₁.setTop (entryFrame m #[(.ref r0), (.int (25 : Int32)), (.ref r2)] 3)) t := fun t k => castTop (ef_44 m r0 r2) k
  obtain ⟨cq1, kq1, q1a, q1b, q1c⟩ := isOf hZ e0 uE
  obtain ⟨_, _, ⟨T1, Lw1, kw1, nw1⟩, -, X1, ⟨Lc1, hQ1, lq1, yq1, zq1⟩, st1⟩ := X0.virtualBack hx (y := (⟨"java/lang/AbstractStringBuilder", "inflateIfNeededFor", "(Ljava/lang/String;)V"⟩ : MethodName)) (z := (⟨"java/lang/AbstractStringBuilder", "inflateIfNeededFor", "(Ljava/lang/String;)V"⟩ : MethodName)) hown (mvT hZ (wd hw 135 rfl)) (mvT hZ (own_decl (wd hw 136 rfl) (wd hw 139 rfl))) (notFace_of_selects (args := #[]) (mvT hZ (wd hw 138 rfl))) (mvT hZ (wd hw 138 rfl)) (mvT hZ (wd hw 136 rfl)) (by decide) (backOf (W := 0) (rmInf l Z a0 hw [] r0 r2 zc h0 n0 Z0 uO uS uP uc us usc) hZ (wd hw 139 rfl) (wd hw 92 rfl) (by decide) (by decide)) q1a q1c (g := (mkF m 2 #[vr r0, vi (25 : Int32), vr r2] [(.ref r2), (.ref r0)])) rfl (by rw [hml]; rfl) (Steps.refl _) (argsL := [(.ref r2)]) (rest := []) (lenOf pd_10 rfl) rfl (by show 2 * 0 + _ ≤ _; exact Nat.le_of_eq rfl) (hb hby d20_2) (fun _ _ => ⟨rfl, e0, (by decide : 0 + 0 ≤ _), (by decide : 0 + 0 ≤ _)⟩)
  dsimp only [Pt.U, Pt.locs, Pt.cells, Pt.slots] at X1 lq1 yq1 zq1 st1 hQ1
  have X1 := own_reb X1 lq1 yq1 zq1
  obtain ⟨rfl, Nq1, eh1⟩ := hQ1
  have N1 := Fr.app N0 Nq1
  obtain ⟨T2, X2, e2, st2⟩ := getF X1 hx hZ hown (host := "") (Or.inl (wd hw 96 rfl)) Via.refl eh1 uv (g := (mkF m 7 #[vr r0, vi (25 : Int32), vr r2] [(.ref r0), (.ref r2)])) rfl rfl (hb hby d20_7)
  obtain ⟨T3, X3, e3, st3⟩ := getF X2 hx hZ hown (host := "") (Or.inl (wd hw 98 rfl)) Via.refl e2 uc (g := (mkF m 12 #[vr r0, vi (25 : Int32), vr r2] [(.ref r0), (.int (25 : Int32)), (.ref rv), (.ref r2)])) rfl rfl (hb hby d20_12)
  obtain ⟨cq4, kq4, q4a, q4b, q4c⟩ := isOf hZ e3 us
  obtain ⟨_, _, ⟨T4, Lw4, kw4, nw4⟩, -, X4, ⟨Lc4, hQ4, lq4, yq4, zq4⟩, st4⟩ := X3.virtualBack hx (y := (⟨"java/lang/String", "getBytes", "([BIB)V"⟩ : MethodName)) (z := (⟨"java/lang/String", "getBytes", "([BIB)V"⟩ : MethodName)) hown (mvT hZ (wd hw 141 rfl)) (mvT hZ (wd hw 142 rfl)) (notFace_of_selects (args := #[]) (mvT hZ (wd hw 144 rfl))) (mvT hZ (wd hw 144 rfl)) (mvT hZ (wd hw 143 rfl)) (by decide) (backOf (W := 0) (rm_gb_25_1_34 l Z a0 hw [] r2 rv zc rt kt vt kv vv h0 n0 Z0 uO uS uP us usv usc usV uV uL ug) hZ (wd hw 145 rfl) (wd hw 14 rfl) (by decide) (by decide)) q4a q4c (g := (mkF m 15 #[vr r0, vi (25 : Int32), vr r2] [(.int (0 : Int32)), (.int (25 : Int32)), (.ref rv), (.ref r2)])) rfl (by rw [hml]; rfl) (Steps.refl _) (argsL := [(.ref rv), (.int (25 : Int32)), (.int (0 : Int32))]) (rest := []) (lenOf pd_11 rfl) rfl (by show 2 * 0 + _ ≤ _; exact Nat.le_of_eq rfl) (hb hby d20_15) (fun _ _ => ⟨rfl, e3, (by decide : 0 + 0 ≤ _), (by decide : 0 + 0 ≤ _)⟩)
  dsimp only [Pt.U, Pt.locs, Pt.cells, Pt.slots] at X4 lq4 yq4 zq4 st4 hQ4
  have X4 := own_reb X4 lq4 yq4 zq4
  obtain ⟨nv_4, rfl, Nq4, Kq4, f4_0, f4_1⟩ := hQ4
  have N4 := Fr.app N1 Nq4
  have K4 : Keep h0 T4.heap [rv] := (Keep.refl h0 [rv]).trans Kq4 (allS (Or.inl (List.mem_of_getElem? (i := 0) rfl)) all0)
  have Z4 : n0 ≤ T4.heap.size := Nat.le_trans Z0 Kq4.1
  obtain ⟨fs, hr, hrun, hended, hW, hsame⟩ := X4.leave (v := none) (fun _ => rfl)
  refine ⟨_, _, pre0 _ ?_, hrun, hended, _, _, rfl, ?_, ⟨_, rfl⟩, hW, hsame.mono (by decide) (by decide)⟩
  · show SS p e below s₁ (mkF m 0 #[vr r0, vi (25 : Int32), vr r2] []) _
    refine XS.aloadN X0.here hx rfl (hb hby d20_0) rfl rfl ?_
    show SS p e below s₁ (mkF m 1 #[vr r0, vi (25 : Int32), vr r2] [(.ref r0)]) _
    refine XS.aloadN X0.here hx rfl (hb hby d20_1) rfl rfl ?_
    show SS p e below s₁ (mkF m 2 #[vr r0, vi (25 : Int32), vr r2] [(.ref r2), (.ref r0)]) _
    refine st1.trans ?_
    show SS p e below T1 (mkF m 5 #[vr r0, vi (25 : Int32), vr r2] []) _
    refine XS.aloadN X1.here hx rfl (hb hby d20_5) rfl rfl ?_
    show SS p e below T1 (mkF m 6 #[vr r0, vi (25 : Int32), vr r2] [(.ref r2)]) _
    refine XS.aloadN X1.here hx rfl (hb hby d20_6) rfl rfl ?_
    show SS p e below T1 (mkF m 7 #[vr r0, vi (25 : Int32), vr r2] [(.ref r0), (.ref r2)]) _
    refine st2 _ ?_
    show SS p e below T2 (mkF m 10 #[vr r0, vi (25 : Int32), vr r2] [(.ref rv), (.ref r2)]) _
    refine XS.iloadN X2.here hx rfl (hb hby d20_10) rfl ?_
    show SS p e below T2 (mkF m 11 #[vr r0, vi (25 : Int32), vr r2] [(.int (25 : Int32)), (.ref rv), (.ref r2)]) _
    refine XS.aloadN X2.here hx rfl (hb hby d20_11) rfl rfl ?_
    show SS p e below T2 (mkF m 12 #[vr r0, vi (25 : Int32), vr r2] [(.ref r0), (.int (25 : Int32)), (.ref rv), (.ref r2)]) _
    refine st3 _ ?_
    show SS p e below T3 (mkF m 15 #[vr r0, vi (25 : Int32), vr r2] [(.int (0 : Int32)), (.int (25 : Int32)), (.ref rv), (.ref r2)]) _
    refine st4.trans ?_
    show SS p e below T4 (mkF m 18 #[vr r0, vi (25 : Int32), vr r2] []) _
    exact X4.returnOut hx Bd.returns (hb hby d20_18) hr
  · show Q_rm_ps_25_1_34 Z r0 r2 zc rv kv vv rt kt vt h0 n0 _ T4.heap _
    exact ⟨nv_4, rfl, N4, K4, f4_0, f4_1⟩
theorem ef_45 (m : MethodId) (x0 : Addr) : entryFrame m #[(.ref x0), (.int (26 : Int32))] 3 = mkF m 0 #[vr x0, vi (26 : Int32), uu] [] := by first | (simp [entryFrame, mkF, argsToLocals, Value.category]; done) | rfl
def Q_rm_ensK_26_34 (Z : State) (r0 : Addr) (rv : Addr) (kv : ClassId) (vv : List Value) (h0 : Heap) (n0 : Nat) (v : Option Value) (h : Heap) (L : List Loc) : Prop := (v = none ∧ Fr n0 L ∧ h = h0)
set_option maxRecDepth 65536 in
set_option maxHeartbeats 40000000 in
theorem rm_ensK_26_34 (l : Launch) (Z : State) (a0 : Array Value) (hw : ∀ d ∈ tables_1, d.before a0 Z = true) (ws : List Jvm.Cond) (r0 : Addr) (rv : Addr) (kv : ClassId) (vv : List Value) (h0 : Heap) (n0 : Nat) (Z0 : n0 ≤ h0.size) (uE : Exa Z h0 r0 "java/lang/StringBuilder") (uv : Fld Z h0 r0 "java/lang/AbstractStringBuilder" "value" "[B" (.ref rv)) (uc : Fld Z h0 r0 "java/lang/AbstractStringBuilder" "coder" "B" (.int (0 : Int32))) (uV : Arv Z h0 rv kv .byte (34 : Int32) vv (.int (0 : Int32))) :
    MetFree l (⟨"java/lang/AbstractStringBuilder", "ensureCapacityInternal", "(I)V"⟩ : MethodName) (head1 (Jvm.Cond.code (⟨"java/lang/AbstractStringBuilder", "ensureCapacityInternal", "(I)V"⟩ : MethodName) jdk_68_method_9_code 3 none :: ws) ({ frames := 0, cells := 0, slots := 0, locals := 0 } : Room)) (fun a U => a = #[(.ref r0), (.int (26 : Int32))] ∧ Z.Warmed39 U.vm ∧ U.heap = h0) (fun _ _ _ _ _ => True) (fun _ U o U' => ∃ v L, o = .returned v ∧ Q_rm_ensK_26_34 Z r0 rv kv vv h0 n0 v U'.heap L ∧ FrameEnd U o U' L ({ frames := 0, cells := 0, slots := 0, locals := 0 } : Room).cells ({ frames := 0, cells := 0, slots := 0, locals := 0 } : Room).slots) := by
  refine MetFree.of_bodySF (plainFor_of_name pn_1) hisR ?_
  intro p e s m args below meth c s₁ Bd hml0 hP hK
  obtain ⟨rfl, hZ, hh⟩ := hP
  have hx := Bd.exec
  have hby := Bd.bytes
  have hml : c.maxLocals = 3 := hml0
  have hown : s.vm.findClass "java/lang/AbstractStringBuilder" = some m.cls := findClass_of_methodNamed Bd.named
  have hnm := (name_of_methodNamed Bd.named Bd.method).1
  have X0 : Stand p l e ({ frames := 0, cells := 0, slots := 0, locals := 0 } : Room) s m #[(.ref r0), (.int (26 : Int32))] below meth c s₁ [] 0 0 := Stand.of_body Bd
  have e0 : s₁.heap = h0 := by rw [← hh, Bd.state]; rfl
  have N0 := Fr.nil n0
  have pre0 : ∀ t, Steps p.tables e below (s₁.setTop (mkF m 0 #[vr r0, vi (26 : Int32), uu] [])) t → Steps p.tables e below (s₁.setTop (entryFrame m #[(.ref r0), (.int (26 : Int32))] 3)) t := fun t k => castTop (ef_45 m r0) k
  obtain ⟨T1, X1, e1, st1⟩ := getF X0 hx hZ hown (host := "") (Or.inl (wd hw 96 rfl)) Via.refl e0 uv (g := (mkF m 1 #[vr r0, vi (26 : Int32), uu] [(.ref r0)])) rfl rfl (hb hby d19_1)
  obtain ⟨cl2, Ar2, q2, S2, Nn2, H2, G2⟩ := (id uV)
  obtain ⟨T3, X3, e3, st3⟩ := getF X1 hx hZ hown (host := "") (Or.inl (wd hw 98 rfl)) Via.refl e1 uc (g := (mkF m 6 #[vr r0, vi (26 : Int32), uu] [(.ref r0), (.int (34 : Int32))])) rfl rfl (hb hby d19_6)
  obtain ⟨fs, hr, hrun, hended, hW, hsame⟩ := X3.leave (v := none) (fun _ => rfl)
  refine ⟨_, _, pre0 _ ?_, hrun, hended, _, _, rfl, ?_, ⟨_, rfl⟩, hW, hsame.mono (by decide) (by decide)⟩
  · show SS p e below s₁ (mkF m 0 #[vr r0, vi (26 : Int32), uu] []) _
    refine XS.aloadN X0.here hx rfl (hb hby d19_0) rfl rfl ?_
    show SS p e below s₁ (mkF m 1 #[vr r0, vi (26 : Int32), uu] [(.ref r0)]) _
    refine st1 _ ?_
    show SS p e below T1 (mkF m 4 #[vr r0, vi (26 : Int32), uu] [(.ref rv)]) _
    refine X1.arraylength hx (own_at e1 Ar2.1) (State.isArrayOf_alike hZ.alike Ar2.2.1) (g := (mkF m 4 #[vr r0, vi (26 : Int32), uu] [(.ref rv)])) rfl rfl (hb hby d19_4) _ ?_
    rw [len_of S2 Nn2]
    show SS p e below T1 (mkF m 5 #[vr r0, vi (26 : Int32), uu] [(.int (34 : Int32))]) _
    refine XS.aloadN X1.here hx rfl (hb hby d19_5) rfl rfl ?_
    show SS p e below T1 (mkF m 6 #[vr r0, vi (26 : Int32), uu] [(.ref r0), (.int (34 : Int32))]) _
    refine st3 _ ?_
    show SS p e below T3 (mkF m 9 #[vr r0, vi (26 : Int32), uu] [(.int (0 : Int32)), (.int (34 : Int32))]) _
    refine XS.ishr X3.here hx rfl (hb hby d19_9) rfl ?_
    show SS p e below T3 (mkF m 10 #[vr r0, vi (26 : Int32), uu] [(.int ((34 : Int32) >>> ((0 : Int32) &&& 31)))]) _
    rw [own_shr0 _]
    show SS p e below T3 (mkF m 10 #[vr r0, vi (26 : Int32), uu] [(.int (34 : Int32))]) _
    refine XS.istoreN X3.here hx rfl (hb hby d19_10) rfl (l' := #[vr r0, vi (26 : Int32), vi (34 : Int32)]) rfl ?_
    show SS p e below T3 (mkF m 11 #[vr r0, vi (26 : Int32), vi (34 : Int32)] []) _
    refine XS.iloadN X3.here hx rfl (hb hby d19_11) rfl ?_
    show SS p e below T3 (mkF m 12 #[vr r0, vi (26 : Int32), vi (34 : Int32)] [(.int (26 : Int32))]) _
    refine XS.iloadN X3.here hx rfl (hb hby d19_12) rfl ?_
    show SS p e below T3 (mkF m 13 #[vr r0, vi (26 : Int32), vi (34 : Int32)] [(.int (34 : Int32)), (.int (26 : Int32))]) _
    refine XS.isub X3.here hx rfl (hb hby d19_13) rfl ?_
    show SS p e below T3 (mkF m 14 #[vr r0, vi (26 : Int32), vi (34 : Int32)] [(.int ((26 : Int32) - (34 : Int32)))]) _
    refine XS.ifYes X3.here hx rfl (pc0 := 14) (pc' := 38) rfl (hb hby d19_14) rfl ((if0 _ _).trans (flt (by decide : ¬ ((0 : Int32) < ((26 : Int32) - (34 : Int32))))).2.2.2) (by decide) (by decide) ?_
    show SS p e below T3 (mkF m 38 #[vr r0, vi (26 : Int32), vi (34 : Int32)] []) _
    exact X3.returnOut hx Bd.returns (hb hby d19_38) hr
  · show Q_rm_ensK_26_34 Z r0 rv kv vv h0 n0 _ T3.heap _
    rw [e3]
    exact ⟨rfl, N0, rfl⟩
def Q_rm_app_asb_25_1_34 (Z : State) (r0 : Addr) (r1 : Addr) (zc : Int32) (rv : Addr) (kv : ClassId) (vv : List Value) (rt : Addr) (kt : ClassId) (vt : List Value) (h0 : Heap) (n0 : Nat) (v : Option Value) (h : Heap) (L : List Loc) : Prop := ∃ (nv : List Value), (v = some (.ref r0) ∧ Fr n0 L ∧ Keep h0 h [r0, rv] ∧ Fld Z h r0 "java/lang/AbstractStringBuilder" "value" "[B" (.ref rv) ∧ Fld Z h r0 "java/lang/AbstractStringBuilder" "coder" "B" (.int (0 : Int32)) ∧ Fld Z h r0 "java/lang/AbstractStringBuilder" "count" "I" (.int (26 : Int32)) ∧ Arv Z h rv kv .byte (34 : Int32) nv (.int (0 : Int32)) ∧ nv.length = 34)
set_option maxRecDepth 65536 in
set_option maxHeartbeats 40000000 in
theorem rm_app_asb_25_1_34 (l : Launch) (Z : State) (a0 : Array Value) (hw : ∀ d ∈ tables_1, d.before a0 Z = true) (ws : List Jvm.Cond) (r0 : Addr) (r1 : Addr) (zc : Int32) (rv : Addr) (kv : ClassId) (vv : List Value) (rt : Addr) (kt : ClassId) (vt : List Value) (h0 : Heap) (n0 : Nat) (Z0 : n0 ≤ h0.size) (uO : Old Z n0 h0) (uS : Sta Z Z.heap "java/lang/String" "COMPACT_STRINGS" "Z" (.int zc)) (uP : ¬ zc = 0) (uE : Exa Z h0 r0 "java/lang/StringBuilder") (uv : Fld Z h0 r0 "java/lang/AbstractStringBuilder" "value" "[B" (.ref rv)) (uc : Fld Z h0 r0 "java/lang/AbstractStringBuilder" "coder" "B" (.int (0 : Int32))) (uV : Arv Z h0 rv kv .byte (34 : Int32) vv (.int (0 : Int32))) (uL : vv.length = 34) (uk : Fld Z h0 r0 "java/lang/AbstractStringBuilder" "count" "I" (.int (25 : Int32))) (us : Exa Z h0 r1 "java/lang/String") (usv : Fld Z h0 r1 "java/lang/String" "value" "[B" (.ref rt)) (usc : Fld Z h0 r1 "java/lang/String" "coder" "B" (.int (0 : Int32))) (usV : Arv Z h0 rt kt .byte (1 : Int32) vt (.int (0 : Int32))) (ug : n0 ≤ r0) (ugv : n0 ≤ rv) :
    MetFree l (⟨"java/lang/AbstractStringBuilder", "append", "(Ljava/lang/String;)Ljava/lang/AbstractStringBuilder;"⟩ : MethodName) (head1 (Jvm.Cond.code (⟨"java/lang/AbstractStringBuilder", "append", "(Ljava/lang/String;)Ljava/lang/AbstractStringBuilder;"⟩ : MethodName) jdk_68_method_22_code 3 (some (.object "java/lang/AbstractStringBuilder")) :: ws) ({ frames := 3, cells := 0, slots := 0, locals := 47 } : Room)) (fun a U => a = #[(.ref r0), (.ref r1)] ∧ Z.Warmed39 U.vm ∧ U.heap = h0) (fun _ _ _ _ _ => True) (fun _ U o U' => ∃ v L, o = .returned v ∧ Q_rm_app_asb_25_1_34 Z r0 r1 zc rv kv vv rt kt vt h0 n0 v U'.heap L ∧ FrameEnd U o U' L ({ frames := 3, cells := 0, slots := 0, locals := 47 } : Room).cells ({ frames := 3, cells := 0, slots := 0, locals := 47 } : Room).slots) := by
  refine MetFree.of_bodySF (plainFor_of_name pn_1) hisR ?_
  intro p e s m args below meth c s₁ Bd hml0 hP hK
  obtain ⟨rfl, hZ, hh⟩ := hP
  have hx := Bd.exec
  have hby := Bd.bytes
  have hml : c.maxLocals = 3 := hml0
  have hown : s.vm.findClass "java/lang/AbstractStringBuilder" = some m.cls := findClass_of_methodNamed Bd.named
  have hnm := (name_of_methodNamed Bd.named Bd.method).1
  have X0 : Stand p l e ({ frames := 3, cells := 0, slots := 0, locals := 47 } : Room) s m #[(.ref r0), (.ref r1)] below meth c s₁ [] 0 0 := Stand.of_body Bd
  have e0 : s₁.heap = h0 := by rw [← hh, Bd.state]; rfl
  have N0 := Fr.nil n0
  have pre0 : ∀ t, Steps p.tables e below (s₁.setTop (mkF m 0 #[vr r0, vr r1, uu] [])) t → Steps p.tables e below (s₁.setTop (entryFrame m #[(.ref r0), (.ref r1)] 3)) t := fun t k => castTop (ef_30 m r0 r1) k
  obtain ⟨cq1, kq1, q1a, q1b, q1c⟩ := isOf hZ e0 us
  obtain ⟨_, _, ⟨T1, Lw1, kw1, nw1⟩, -, X1, ⟨Lc1, hQ1, lq1, yq1, zq1⟩, st1⟩ := X0.virtualBack hx (y := (⟨"java/lang/String", "length", "()I"⟩ : MethodName)) (z := (⟨"java/lang/String", "length", "()I"⟩ : MethodName)) hown (mvT hZ (wd hw 110 rfl)) (mvT hZ (wd hw 111 rfl)) (notFace_of_selects (args := #[]) (mvT hZ (wd hw 113 rfl))) (mvT hZ (wd hw 113 rfl)) (mvT hZ (wd hw 112 rfl)) (by decide) (backOf (W := 0) (rmLen l Z a0 hw [] r1 zc rt kt (1 : Int32) vt h0 n0 Z0 uO uS uP us usv usc usV) hZ (wd hw 114 rfl) (wd hw 14 rfl) (by decide) (by decide)) q1a q1c (g := (mkF m 10 #[vr r0, vr r1, uu] [(.ref r1)])) rfl (by rw [hml]; rfl) (Steps.refl _) (argsL := []) (rest := []) (lenOf pd_2 rfl) rfl (by show 2 * 0 + _ ≤ _; exact Nat.le_of_eq rfl) (hb hby d16_10) (fun _ _ => ⟨rfl, e0, (by decide : 0 + 0 ≤ _), (by decide : 0 + 0 ≤ _)⟩)
  dsimp only [Pt.U, Pt.locs, Pt.cells, Pt.slots] at X1 lq1 yq1 zq1 st1 hQ1
  have X1 := own_reb X1 lq1 yq1 zq1
  obtain ⟨rfl, Nq1, eh1⟩ := hQ1
  have N1 := Fr.app N0 Nq1
  obtain ⟨T2, X2, e2, st2⟩ := getF X1 hx hZ hown (host := "") (Or.inl (wd hw 123 rfl)) Via.refl eh1 uk (g := (mkF m 16 #[vr r0, vr r1, vi (1 : Int32)] [(.ref r0), (.ref r0)])) rfl rfl (hb hby d16_16)
  obtain ⟨cq3, kq3, q3a, q3b, q3c⟩ := isOf hZ e2 uE
  obtain ⟨_, _, ⟨T3, Lw3, kw3, nw3⟩, -, X3, ⟨Lc3, hQ3, lq3, yq3, zq3⟩, st3⟩ := X2.virtualBack hx (y := (⟨"java/lang/AbstractStringBuilder", "ensureCapacityInternal", "(I)V"⟩ : MethodName)) (z := (⟨"java/lang/AbstractStringBuilder", "ensureCapacityInternal", "(I)V"⟩ : MethodName)) hown (mvT hZ (wd hw 125 rfl)) (mvT hZ (own_decl (wd hw 126 rfl) (wd hw 129 rfl))) (notFace_of_selects (args := #[]) (mvT hZ (wd hw 128 rfl))) (mvT hZ (wd hw 128 rfl)) (mvT hZ (wd hw 126 rfl)) (by decide) (backOf (W := 0) (rm_ensK_26_34 l Z a0 hw [] r0 rv kv vv h0 n0 Z0 uE uv uc uV) hZ (wd hw 129 rfl) (wd hw 92 rfl) (by decide) (by decide)) q3a q3c (g := (mkF m 21 #[vr r0, vr r1, vi (1 : Int32)] [(.int (26 : Int32)), (.ref r0)])) rfl (by rw [hml]; rfl) (Steps.refl _) (argsL := [(.int (26 : Int32))]) (rest := []) (lenOf pd_1 rfl) rfl (by show 2 * 0 + _ ≤ _; exact Nat.le_of_eq rfl) (hb hby d16_21) (fun _ _ => ⟨rfl, e2, (by decide : 0 + 0 ≤ _), (by decide : 0 + 0 ≤ _)⟩)
  dsimp only [Pt.U, Pt.locs, Pt.cells, Pt.slots] at X3 lq3 yq3 zq3 st3 hQ3
  have X3 := own_reb X3 lq3 yq3 zq3
  obtain ⟨rfl, Nq3, eh3⟩ := hQ3
  have N3 := Fr.app N1 Nq3
  obtain ⟨T4, X4, e4, st4⟩ := getF X3 hx hZ hown (host := "") (Or.inl (wd hw 123 rfl)) Via.refl eh3 uk (g := (mkF m 26 #[vr r0, vr r1, vi (1 : Int32)] [(.ref r0), (.ref r0)])) rfl rfl (hb hby d16_26)
  obtain ⟨cq5, kq5, q5a, q5b, q5c⟩ := isOf hZ e4 uE
  obtain ⟨_, _, ⟨T5, Lw5, kw5, nw5⟩, -, X5, ⟨Lc5, hQ5, lq5, yq5, zq5⟩, st5⟩ := X4.virtualBack hx (y := (⟨"java/lang/AbstractStringBuilder", "putStringAt", "(ILjava/lang/String;)V"⟩ : MethodName)) (z := (⟨"java/lang/AbstractStringBuilder", "putStringAt", "(ILjava/lang/String;)V"⟩ : MethodName)) hown (mvT hZ (wd hw 130 rfl)) (mvT hZ (own_decl (wd hw 131 rfl) (wd hw 134 rfl))) (notFace_of_selects (args := #[]) (mvT hZ (wd hw 133 rfl))) (mvT hZ (wd hw 133 rfl)) (mvT hZ (wd hw 131 rfl)) (by decide) (backOf (W := 0) (rm_ps_25_1_34 l Z a0 hw [] r0 r1 zc rv kv vv rt kt vt h0 n0 Z0 uO uS uP uE uv uc uV uL us usv usc usV ugv) hZ (wd hw 134 rfl) (wd hw 92 rfl) (by decide) (by decide)) q5a q5c (g := (mkF m 30 #[vr r0, vr r1, vi (1 : Int32)] [(.ref r1), (.int (25 : Int32)), (.ref r0)])) rfl (by rw [hml]; rfl) (Steps.refl _) (argsL := [(.int (25 : Int32)), (.ref r1)]) (rest := []) (lenOf pd_12 rfl) rfl (by show 2 * 0 + _ ≤ _; exact Nat.le_of_eq rfl) (hb hby d16_30) (fun _ _ => ⟨rfl, e4, (by decide : 0 + 0 ≤ _), (by decide : 0 + 0 ≤ _)⟩)
  dsimp only [Pt.U, Pt.locs, Pt.cells, Pt.slots] at X5 lq5 yq5 zq5 st5 hQ5
  have X5 := own_reb X5 lq5 yq5 zq5
  obtain ⟨nv_5, rfl, Nq5, Kq5, f5_0, f5_1⟩ := hQ5
  have N5 := Fr.app N3 Nq5
  have K5 : Keep h0 T5.heap [r0, rv] := (Keep.refl h0 [r0, rv]).trans Kq5 (allS (Or.inl (List.mem_of_getElem? (i := 1) rfl)) all0)
  have Z5 : n0 ≤ T5.heap.size := Nat.le_trans Z0 Kq5.1
  have c7 := (uk.keep Kq5 (ninS (Exa.neArv uE uV (wd hw 83 rfl)) nin0))
  obtain ⟨T6, X6, e6, st6⟩ := getF X5 hx hZ hown (host := "") (Or.inl (wd hw 123 rfl)) Via.refl rfl c7 (g := (mkF m 35 #[vr r0, vr r1, vi (1 : Int32)] [(.ref r0), (.ref r0)])) rfl rfl (hb hby d16_35)
  have c9 := (uE.keep Kq5)
  obtain ⟨T8, h8, X8, e8, W8, st8⟩ := putF X6 hx hZ hown (host := "") (Or.inl (wd hw 123 rfl)) Via.refl e6 c7 c9 (Or.inl (wd hw 124 rfl)) (wd hw 83 rfl) (ty := .int) (by decide) rfl rfl (g := (mkF m 40 #[vr r0, vr r1, vi (1 : Int32)] [(.int (26 : Int32)), (.ref r0)])) rfl rfl (hb hby d16_40)
  have Fw8 := c7.same W8
  have N8 := Fr.snoc X8 N5 ug
  have K8 : Keep h0 h8 [r0, rv] := K5.wr W8 (Or.inl (List.mem_of_getElem? (i := 0) rfl))
  have Z8 : n0 ≤ h8.size := by rw [W8.size]; exact Z5
  have c10 := ((uv.keep Kq5 (ninS (Exa.neArv uE uV (wd hw 83 rfl)) nin0)).other W8 (Or.inr (slot_ne (Or.inl (wd hw 97 rfl)) (Or.inl (wd hw 124 rfl)) (by decide) (t := (.array .byte)) (t' := .int) (by decide) (by decide))))
  have c11 := ((uc.keep Kq5 (ninS (Exa.neArv uE uV (wd hw 83 rfl)) nin0)).other W8 (Or.inr (slot_ne (Or.inl (wd hw 99 rfl)) (Or.inl (wd hw 124 rfl)) (by decide) (t := .byte) (t' := .int) (by decide) (by decide))))
  have c12 := (f5_0.other W8 (Ne.symm (Exa.neArv uE uV (wd hw 83 rfl))))
  obtain ⟨fs, hr, hrun, hended, hW, hsame⟩ := X8.leave (v := some (.ref r0)) (fun h => by rw [Bd.returns] at h; cases h)
  refine ⟨_, _, pre0 _ ?_, hrun, hended, _, _, rfl, ?_, ⟨_, rfl⟩, hW, hsame.mono (by decide) (by decide)⟩
  · show SS p e below s₁ (mkF m 0 #[vr r0, vr r1, uu] []) _
    refine XS.aloadN X0.here hx rfl (hb hby d16_0) rfl rfl ?_
    show SS p e below s₁ (mkF m 1 #[vr r0, vr r1, uu] [(.ref r1)]) _
    refine XS.ifnonnullYes X0.here hx rfl (pc0 := 1) (pc' := 9) rfl (hb hby d16_1) rfl (by decide) (by decide) ?_
    show SS p e below s₁ (mkF m 9 #[vr r0, vr r1, uu] []) _
    refine XS.aloadN X0.here hx rfl (hb hby d16_9) rfl rfl ?_
    show SS p e below s₁ (mkF m 10 #[vr r0, vr r1, uu] [(.ref r1)]) _
    refine st1.trans ?_
    show SS p e below T1 (mkF m 13 #[vr r0, vr r1, uu] [(.int (1 : Int32))]) _
    refine XS.istoreN X1.here hx rfl (hb hby d16_13) rfl (l' := #[vr r0, vr r1, vi (1 : Int32)]) rfl ?_
    show SS p e below T1 (mkF m 14 #[vr r0, vr r1, vi (1 : Int32)] []) _
    refine XS.aloadN X1.here hx rfl (hb hby d16_14) rfl rfl ?_
    show SS p e below T1 (mkF m 15 #[vr r0, vr r1, vi (1 : Int32)] [(.ref r0)]) _
    refine XS.aloadN X1.here hx rfl (hb hby d16_15) rfl rfl ?_
    show SS p e below T1 (mkF m 16 #[vr r0, vr r1, vi (1 : Int32)] [(.ref r0), (.ref r0)]) _
    refine st2 _ ?_
    show SS p e below T2 (mkF m 19 #[vr r0, vr r1, vi (1 : Int32)] [(.int (25 : Int32)), (.ref r0)]) _
    refine XS.iloadN X2.here hx rfl (hb hby d16_19) rfl ?_
    show SS p e below T2 (mkF m 20 #[vr r0, vr r1, vi (1 : Int32)] [(.int (1 : Int32)), (.int (25 : Int32)), (.ref r0)]) _
    refine XS.iadd X2.here hx rfl (hb hby d16_20) rfl ?_
    show SS p e below T2 (mkF m 21 #[vr r0, vr r1, vi (1 : Int32)] [(.int ((25 : Int32) + (1 : Int32))), (.ref r0)]) _
    rw [(show ((25 : Int32) + (1 : Int32)) = (26 : Int32) from by decide)]
    show SS p e below T2 (mkF m 21 #[vr r0, vr r1, vi (1 : Int32)] [(.int (26 : Int32)), (.ref r0)]) _
    refine st3.trans ?_
    show SS p e below T3 (mkF m 24 #[vr r0, vr r1, vi (1 : Int32)] []) _
    refine XS.aloadN X3.here hx rfl (hb hby d16_24) rfl rfl ?_
    show SS p e below T3 (mkF m 25 #[vr r0, vr r1, vi (1 : Int32)] [(.ref r0)]) _
    refine XS.aloadN X3.here hx rfl (hb hby d16_25) rfl rfl ?_
    show SS p e below T3 (mkF m 26 #[vr r0, vr r1, vi (1 : Int32)] [(.ref r0), (.ref r0)]) _
    refine st4 _ ?_
    show SS p e below T4 (mkF m 29 #[vr r0, vr r1, vi (1 : Int32)] [(.int (25 : Int32)), (.ref r0)]) _
    refine XS.aloadN X4.here hx rfl (hb hby d16_29) rfl rfl ?_
    show SS p e below T4 (mkF m 30 #[vr r0, vr r1, vi (1 : Int32)] [(.ref r1), (.int (25 : Int32)), (.ref r0)]) _
    refine st5.trans ?_
    show SS p e below T5 (mkF m 33 #[vr r0, vr r1, vi (1 : Int32)] []) _
    refine XS.aloadN X5.here hx rfl (hb hby d16_33) rfl rfl ?_
    show SS p e below T5 (mkF m 34 #[vr r0, vr r1, vi (1 : Int32)] [(.ref r0)]) _
    refine XS.dup X5.here hx rfl (hb hby d16_34) rfl rfl ?_
    show SS p e below T5 (mkF m 35 #[vr r0, vr r1, vi (1 : Int32)] [(.ref r0), (.ref r0)]) _
    refine st6 _ ?_
    show SS p e below T6 (mkF m 38 #[vr r0, vr r1, vi (1 : Int32)] [(.int (25 : Int32)), (.ref r0)]) _
    refine XS.iloadN X6.here hx rfl (hb hby d16_38) rfl ?_
    show SS p e below T6 (mkF m 39 #[vr r0, vr r1, vi (1 : Int32)] [(.int (1 : Int32)), (.int (25 : Int32)), (.ref r0)]) _
    refine XS.iadd X6.here hx rfl (hb hby d16_39) rfl ?_
    show SS p e below T6 (mkF m 40 #[vr r0, vr r1, vi (1 : Int32)] [(.int ((25 : Int32) + (1 : Int32))), (.ref r0)]) _
    rw [(show ((25 : Int32) + (1 : Int32)) = (26 : Int32) from by decide)]
    show SS p e below T6 (mkF m 40 #[vr r0, vr r1, vi (1 : Int32)] [(.int (26 : Int32)), (.ref r0)]) _
    refine st8 _ ?_
    show SS p e below T8 (mkF m 43 #[vr r0, vr r1, vi (1 : Int32)] []) _
    refine XS.aloadN X8.here hx rfl (hb hby d16_43) rfl rfl ?_
    show SS p e below T8 (mkF m 44 #[vr r0, vr r1, vi (1 : Int32)] [(.ref r0)]) _
    exact retOut X8 hx Bd.returns rfl (Or.inr (Or.inr (Or.inr (Or.inr ⟨rfl, rfl, rfl⟩)))) (hb hby d16_44) hr
  · show Q_rm_app_asb_25_1_34 Z r0 r1 zc rv kv vv rt kt vt h0 n0 _ T8.heap _
    rw [e8]
    exact ⟨nv_5, rfl, N8, K8, c10, c11, Fw8, c12, f5_1⟩
def Q_rm_app_sb_25_1_34 (Z : State) (r0 : Addr) (r1 : Addr) (zc : Int32) (rv : Addr) (kv : ClassId) (vv : List Value) (rt : Addr) (kt : ClassId) (vt : List Value) (h0 : Heap) (n0 : Nat) (v : Option Value) (h : Heap) (L : List Loc) : Prop := ∃ (nv : List Value), (v = some (.ref r0) ∧ Fr n0 L ∧ Keep h0 h [r0, rv] ∧ Fld Z h r0 "java/lang/AbstractStringBuilder" "value" "[B" (.ref rv) ∧ Fld Z h r0 "java/lang/AbstractStringBuilder" "coder" "B" (.int (0 : Int32)) ∧ Fld Z h r0 "java/lang/AbstractStringBuilder" "count" "I" (.int (26 : Int32)) ∧ Arv Z h rv kv .byte (34 : Int32) nv (.int (0 : Int32)) ∧ nv.length = 34)
set_option maxRecDepth 65536 in
set_option maxHeartbeats 40000000 in
theorem rm_app_sb_25_1_34 (l : Launch) (Z : State) (a0 : Array Value) (hw : ∀ d ∈ tables_1, d.before a0 Z = true) (ws : List Jvm.Cond) (r0 : Addr) (r1 : Addr) (zc : Int32) (rv : Addr) (kv : ClassId) (vv : List Value) (rt : Addr) (kt : ClassId) (vt : List Value) (h0 : Heap) (n0 : Nat) (Z0 : n0 ≤ h0.size) (uO : Old Z n0 h0) (uS : Sta Z Z.heap "java/lang/String" "COMPACT_STRINGS" "Z" (.int zc)) (uP : ¬ zc = 0) (uE : Exa Z h0 r0 "java/lang/StringBuilder") (uv : Fld Z h0 r0 "java/lang/AbstractStringBuilder" "value" "[B" (.ref rv)) (uc : Fld Z h0 r0 "java/lang/AbstractStringBuilder" "coder" "B" (.int (0 : Int32))) (uV : Arv Z h0 rv kv .byte (34 : Int32) vv (.int (0 : Int32))) (uL : vv.length = 34) (uk : Fld Z h0 r0 "java/lang/AbstractStringBuilder" "count" "I" (.int (25 : Int32))) (us : Exa Z h0 r1 "java/lang/String") (usv : Fld Z h0 r1 "java/lang/String" "value" "[B" (.ref rt)) (usc : Fld Z h0 r1 "java/lang/String" "coder" "B" (.int (0 : Int32))) (usV : Arv Z h0 rt kt .byte (1 : Int32) vt (.int (0 : Int32))) (ug : n0 ≤ r0) (ugv : n0 ≤ rv) :
    MetFree l (⟨"java/lang/StringBuilder", "append", "(Ljava/lang/String;)Ljava/lang/StringBuilder;"⟩ : MethodName) (head1 (Jvm.Cond.code (⟨"java/lang/StringBuilder", "append", "(Ljava/lang/String;)Ljava/lang/StringBuilder;"⟩ : MethodName) jdk_67_method_7_code 2 (some (.object "java/lang/StringBuilder")) :: ws) ({ frames := 4, cells := 0, slots := 0, locals := 61 } : Room)) (fun a U => a = #[(.ref r0), (.ref r1)] ∧ Z.Warmed39 U.vm ∧ U.heap = h0) (fun _ _ _ _ _ => True) (fun _ U o U' => ∃ v L, o = .returned v ∧ Q_rm_app_sb_25_1_34 Z r0 r1 zc rv kv vv rt kt vt h0 n0 v U'.heap L ∧ FrameEnd U o U' L ({ frames := 4, cells := 0, slots := 0, locals := 61 } : Room).cells ({ frames := 4, cells := 0, slots := 0, locals := 61 } : Room).slots) := by
  refine MetFree.of_bodySF (plainFor_of_name pn_2) hisR ?_
  intro p e s m args below meth c s₁ Bd hml0 hP hK
  obtain ⟨rfl, hZ, hh⟩ := hP
  have hx := Bd.exec
  have hby := Bd.bytes
  have hml : c.maxLocals = 2 := hml0
  have hown : s.vm.findClass "java/lang/StringBuilder" = some m.cls := findClass_of_methodNamed Bd.named
  have hnm := (name_of_methodNamed Bd.named Bd.method).1
  have X0 : Stand p l e ({ frames := 4, cells := 0, slots := 0, locals := 61 } : Room) s m #[(.ref r0), (.ref r1)] below meth c s₁ [] 0 0 := Stand.of_body Bd
  have e0 : s₁.heap = h0 := by rw [← hh, Bd.state]; rfl
  have N0 := Fr.nil n0
  have pre0 : ∀ t, Steps p.tables e below (s₁.setTop (mkF m 0 #[vr r0, vr r1] [])) t → Steps p.tables e below (s₁.setTop (entryFrame m #[(.ref r0), (.ref r1)] 2)) t := fun t k => castTop (ef_31 m r0 r1) k
  obtain ⟨_, _, ⟨T1, Lw1, kw1, nw1⟩, -, X1, ⟨Lc1, hQ1, lq1, yq1, zq1⟩, st1⟩ := superBack X0 hx hZ (y := (⟨"java/lang/AbstractStringBuilder", "append", "(Ljava/lang/String;)Ljava/lang/AbstractStringBuilder;"⟩ : MethodName)) hown (wd hw 105 rfl) (own_same (wd hw 106 rfl) (own_face (wd hw 128 rfl) rfl) (by decide)) (wd hw 106 rfl) (wd hw 107 rfl) (by decide) (backOf (W := 0) (rm_app_asb_25_1_34 l Z a0 hw [] r0 r1 zc rv kv vv rt kt vt h0 n0 Z0 uO uS uP uE uv uc uV uL uk us usv usc usV ug ugv) hZ (wd hw 109 rfl) (wd hw 92 rfl) (by decide) (by decide)) e0 (Ins.self uE) (g := (mkF m 2 #[vr r0, vr r1] [(.ref r1), (.ref r0)])) rfl (by rw [hml]; rfl) (wd hw 109 rfl) (argsL := [(.ref r1)]) (rest := []) (lenOf pd_13 rfl) rfl (by show 2 * 0 + _ ≤ _; exact Nat.le_of_eq rfl) (hb hby d15_2) (fun _ _ => ⟨rfl, e0, (by decide : 0 + 0 ≤ _), (by decide : 0 + 0 ≤ _)⟩)
  dsimp only [Pt.U, Pt.locs, Pt.cells, Pt.slots] at X1 lq1 yq1 zq1 st1 hQ1
  have X1 := own_reb X1 lq1 yq1 zq1
  obtain ⟨nv_1, rfl, Nq1, Kq1, f1_0, f1_1, f1_2, f1_3, f1_4⟩ := hQ1
  have N1 := Fr.app N0 Nq1
  have K1 : Keep h0 T1.heap [r0, rv] := (Keep.refl h0 [r0, rv]).trans Kq1 (allS (Or.inl (List.mem_of_getElem? (i := 0) rfl)) (allS (Or.inl (List.mem_of_getElem? (i := 1) rfl)) all0))
  have Z1 : n0 ≤ T1.heap.size := Nat.le_trans Z0 Kq1.1
  obtain ⟨fs, hr, hrun, hended, hW, hsame⟩ := X1.leave (v := some (.ref r0)) (fun h => by rw [Bd.returns] at h; cases h)
  refine ⟨_, _, pre0 _ ?_, hrun, hended, _, _, rfl, ?_, ⟨_, rfl⟩, hW, hsame.mono (by decide) (by decide)⟩
  · show SS p e below s₁ (mkF m 0 #[vr r0, vr r1] []) _
    refine XS.aloadN X0.here hx rfl (hb hby d15_0) rfl rfl ?_
    show SS p e below s₁ (mkF m 1 #[vr r0, vr r1] [(.ref r0)]) _
    refine XS.aloadN X0.here hx rfl (hb hby d15_1) rfl rfl ?_
    show SS p e below s₁ (mkF m 2 #[vr r0, vr r1] [(.ref r1), (.ref r0)]) _
    refine st1.trans ?_
    show SS p e below T1 (mkF m 5 #[vr r0, vr r1] [(.ref r0)]) _
    refine XS.pop X1.here hx rfl (hb hby d15_5) rfl rfl ?_
    show SS p e below T1 (mkF m 6 #[vr r0, vr r1] []) _
    refine XS.aloadN X1.here hx rfl (hb hby d15_6) rfl rfl ?_
    show SS p e below T1 (mkF m 7 #[vr r0, vr r1] [(.ref r0)]) _
    exact retOut X1 hx Bd.returns rfl (Or.inr (Or.inr (Or.inr (Or.inr ⟨rfl, rfl, rfl⟩)))) (hb hby d15_7) hr
  · show Q_rm_app_sb_25_1_34 Z r0 r1 zc rv kv vv rt kt vt h0 n0 _ T1.heap _
    exact ⟨nv_1, rfl, N1, K1, f1_0, f1_1, f1_2, f1_3, f1_4⟩
theorem ef_46 (m : MethodId) (x0 : Addr) : entryFrame m #[(.ref x0), (.int (0 : Int32)), (.int (26 : Int32))] 5 = mkF m 0 #[vr x0, vi (0 : Int32), vi (26 : Int32), uu, uu] [] := by first | (simp [entryFrame, mkF, argsToLocals, Value.category]; done) | rfl
def Q_rm_corb_26_34 (Z : State) (r0 : Addr) (kv : ClassId) (vv : List Value) (h0 : Heap) (n0 : Nat) (v : Option Value) (h : Heap) (L : List Loc) : Prop := ∃ (nb : Addr), ∃ (nk : ClassId), ∃ (nv : List Value), (v = some (.ref nb) ∧ Fr n0 L ∧ Keep h0 h [] ∧ h0.size ≤ nb ∧ Exa Z h nb "[B" ∧ Arv Z h nb nk .byte (26 : Int32) nv (.int (0 : Int32)) ∧ nv.length = 26)
set_option maxRecDepth 65536 in
set_option maxHeartbeats 40000000 in
theorem rm_corb_26_34 (l : Launch) (Z : State) (a0 : Array Value) (hw : ∀ d ∈ tables_1, d.before a0 Z = true) (ws : List Jvm.Cond) (r0 : Addr) (kv : ClassId) (vv : List Value) (h0 : Heap) (n0 : Nat) (Z0 : n0 ≤ h0.size) (uV : Arv Z h0 r0 kv .byte (34 : Int32) vv (.int (0 : Int32))) :
    MetFree l (⟨"java/util/Arrays", "copyOfRangeByte", "([BII)[B"⟩ : MethodName) (head1 (Jvm.Cond.code (⟨"java/util/Arrays", "copyOfRangeByte", "([BII)[B"⟩ : MethodName) jdk_65_method_133_code 5 (some (.array .byte)) :: ws) ({ frames := 1, cells := 1, slots := 26, locals := 18 } : Room)) (fun a U => a = #[(.ref r0), (.int (0 : Int32)), (.int (26 : Int32))] ∧ Z.Warmed39 U.vm ∧ U.heap = h0) (fun _ _ _ _ _ => True) (fun _ U o U' => ∃ v L, o = .returned v ∧ Q_rm_corb_26_34 Z r0 kv vv h0 n0 v U'.heap L ∧ FrameEnd U o U' L ({ frames := 1, cells := 1, slots := 26, locals := 18 } : Room).cells ({ frames := 1, cells := 1, slots := 26, locals := 18 } : Room).slots) := by
  refine MetFree.of_bodySF (plainFor_of_name pn_3) hisR ?_
  intro p e s m args below meth c s₁ Bd hml0 hP hK
  obtain ⟨rfl, hZ, hh⟩ := hP
  have hx := Bd.exec
  have hby := Bd.bytes
  have hml : c.maxLocals = 5 := hml0
  have hown : s.vm.findClass "java/util/Arrays" = some m.cls := findClass_of_methodNamed Bd.named
  have hnm := (name_of_methodNamed Bd.named Bd.method).1
  have X0 : Stand p l e ({ frames := 1, cells := 1, slots := 26, locals := 18 } : Room) s m #[(.ref r0), (.int (0 : Int32)), (.int (26 : Int32))] below meth c s₁ [] 0 0 := Stand.of_body Bd
  have e0 : s₁.heap = h0 := by rw [← hh, Bd.state]; rfl
  have N0 := Fr.nil n0
  have pre0 : ∀ t, Steps p.tables e below (s₁.setTop (mkF m 0 #[vr r0, vi (0 : Int32), vi (26 : Int32), uu, uu] [])) t → Steps p.tables e below (s₁.setTop (entryFrame m #[(.ref r0), (.int (0 : Int32)), (.int (26 : Int32))] 5)) t := fun t k => castTop (ef_46 m r0) k
  obtain ⟨_, _, ⟨T1, Lw1, kw1, nw1⟩, -, X1, ⟨Lc1, hQ1, lq1, yq1, zq1⟩, st1⟩ := Jvm.LawKit.callS X0 hx (y := (⟨"java/util/Arrays", "checkLength", "(II)V"⟩ : MethodName)) hown (mvT hZ (wd hw 228 rfl)) (mvT hZ (wd hw 229 rfl)) (mvT hZ (wd hw 56 rfl)) (mvT hZ (wd hw 230 rfl)) (by decide) (backOf (W := 0) (rmChk l Z a0 hw [] (0 : Int32) (26 : Int32) h0 n0 Z0 (by decide)) hZ (wd hw 230 rfl) (wd hw 56 rfl) (by decide) (by decide)) (g := (mkF m 2 #[vr r0, vi (0 : Int32), vi (26 : Int32), uu, uu] [(.int (26 : Int32)), (.int (0 : Int32))])) rfl (by rw [hml]; rfl) (argsL := [(.int (0 : Int32)), (.int (26 : Int32))]) (rest := []) (lenOf pd_6 rfl) rfl (by show 2 * 0 + _ ≤ _; exact Nat.le_of_eq rfl) (hb hby d39_2) (fun _ _ => ⟨rfl, e0, (by decide : 0 + 0 ≤ _), (by decide : 0 + 0 ≤ _)⟩)
  dsimp only [Pt.U, Pt.locs, Pt.cells, Pt.slots] at X1 lq1 yq1 zq1 st1 hQ1
  have X1 := own_reb X1 lq1 yq1 zq1
  obtain ⟨rfl, Nq1, eh1⟩ := hQ1
  have N1 := Fr.app N0 Nq1
  obtain ⟨T2, h2, k2, X2, e2, E2, A2, AX2, st2⟩ := newPE X1 hx hZ (wd hw 3 rfl) eh1 (g := (mkF m 10 #[vr r0, vi (0 : Int32), vi (26 : Int32), vi (26 : Int32), uu] [(.int (26 : Int32))])) rfl (hb hby d39_10) rfl (by decide) (cap := 26) (by decide) (by decide) (by decide) (by decide) (ad := "[B") (by decide)
  obtain ⟨b2, g2⟩ : ∃ z, z = h0.size := ⟨_, rfl⟩
  rw [← g2] at A2 AX2 st2
  have ne_r0_b2 : r0 ≠ b2 := Nat.ne_of_lt (Nat.lt_of_lt_of_le uV.lt (Nat.le_of_eq g2.symm))
  have V2 : Arv Z h2 b2 k2 .byte (26 : Int32) [(.int (0 : Int32)), (.int (0 : Int32)), (.int (0 : Int32)), (.int (0 : Int32)), (.int (0 : Int32)), (.int (0 : Int32)), (.int (0 : Int32)), (.int (0 : Int32)), (.int (0 : Int32)), (.int (0 : Int32)), (.int (0 : Int32)), (.int (0 : Int32)), (.int (0 : Int32)), (.int (0 : Int32)), (.int (0 : Int32)), (.int (0 : Int32)), (.int (0 : Int32)), (.int (0 : Int32)), (.int (0 : Int32)), (.int (0 : Int32)), (.int (0 : Int32)), (.int (0 : Int32)), (.int (0 : Int32)), (.int (0 : Int32)), (.int (0 : Int32)), (.int (0 : Int32))] (.int (0 : Int32)) := (Arv.new A2 (by decide)).pad (pad_rep [] (.int (0 : Int32)) 26)
  have g_b2 : n0 ≤ b2 := Nat.le_trans Z0 (Nat.le_of_eq g2.symm)
  have sz_b2 : h0.size ≤ b2 := Nat.le_trans (Keep.refl h0 []).1 (Nat.le_of_eq g2.symm)
  have K2 : Keep h0 h2 [] := (Keep.refl h0 []).ext E2
  have Z2 : n0 ≤ h2.size := Nat.le_trans Z0 E2.1
  have c4 := (uV.ext E2)
  obtain ⟨cl3, Ar3, q3, S3, Nn3, H3, G3⟩ := (id c4)
  obtain ⟨_, _, ⟨T5, Lw5, kw5, nw5⟩, -, X5, ⟨Lc5, hQ5, lq5, yq5, zq5⟩, st5⟩ := Jvm.LawKit.callS X2 hx (y := (⟨"java/lang/Math", "min", "(II)I"⟩ : MethodName)) hown (mvT hZ (wd hw 169 rfl)) (mvT hZ (wd hw 170 rfl)) (mvT hZ (wd hw 162 rfl)) (mvT hZ (wd hw 171 rfl)) (by decide) (backOf (W := 4) (rmMin l Z a0 hw [] (34 : Int32) (26 : Int32) h2 n0 Z2) hZ (wd hw 171 rfl) (wd hw 162 rfl) (by decide) (by decide)) (g := (mkF m 24 #[vr r0, vi (0 : Int32), vi (26 : Int32), vi (26 : Int32), vr b2] [(.int (26 : Int32)), (.int (34 : Int32)), (.int (0 : Int32)), (.ref b2), (.int (0 : Int32)), (.ref r0)])) rfl (by rw [hml]; rfl) (argsL := [(.int (34 : Int32)), (.int (26 : Int32))]) (rest := [(.int (0 : Int32)), (.ref b2), (.int (0 : Int32)), (.ref r0)]) (lenOf pd_7 rfl) rfl (by show 2 * 0 + _ ≤ _; exact Nat.le_of_eq rfl) (hb hby d39_24) (fun _ _ => ⟨rfl, e2, (by decide : 1 + 0 ≤ _), (by decide : 26 + 0 ≤ _)⟩)
  dsimp only [Pt.U, Pt.locs, Pt.cells, Pt.slots] at X5 lq5 yq5 zq5 st5 hQ5
  have X5 := own_reb X5 lq5 yq5 zq5
  obtain ⟨rfl, Nq5, eh5⟩ := hQ5
  have N5 := Fr.app N1 Nq5
  obtain ⟨T6, h6, L6, X6, e6, N6, Kq6, V6, st6⟩ := cpA X5 hx hZ hown (wd hw 172 rfl) (wd hw 149 rfl) (wd hw 147 rfl) (wd hw 148 rfl) eh5 (us := ((List.range ((26 : Int32)).toNatClampNeg).map fun i => List.getD vv (((0 : Int32)).toNatClampNeg + i) (.int (0 : Int32)))) c4 V2 (Or.inl ⟨rfl, rfl⟩) (by decide) (by decide) (by decide) (by decide) (by decide) rfl (by decide) N5 g_b2 (g := (mkF m 27 #[vr r0, vi (0 : Int32), vi (26 : Int32), vi (26 : Int32), vr b2] [(.int (26 : Int32)), (.int (0 : Int32)), (.ref b2), (.int (0 : Int32)), (.ref r0)])) rfl (by rw [hml]; rfl) rfl (hb hby d39_27) (by decide) (W := 0) (by show 2 * 0 + _ ≤ _; exact Nat.le_of_eq rfl) (by decide)
  have K6 : Keep h0 h6 [] := K2.trans Kq6 (allS (Or.inr sz_b2) all0)
  have Z6 : n0 ≤ h6.size := Nat.le_trans Z2 Kq6.1
  have c7 := (AX2.keep Kq6)
  obtain ⟨fs, hr, hrun, hended, hW, hsame⟩ := X6.leave (v := some (.ref b2)) (fun h => by rw [Bd.returns] at h; cases h)
  refine ⟨_, _, pre0 _ ?_, hrun, hended, _, _, rfl, ?_, ⟨_, rfl⟩, hW, hsame.mono (by decide) (by decide)⟩
  · show SS p e below s₁ (mkF m 0 #[vr r0, vi (0 : Int32), vi (26 : Int32), uu, uu] []) _
    refine XS.iloadN X0.here hx rfl (hb hby d39_0) rfl ?_
    show SS p e below s₁ (mkF m 1 #[vr r0, vi (0 : Int32), vi (26 : Int32), uu, uu] [(.int (0 : Int32))]) _
    refine XS.iloadN X0.here hx rfl (hb hby d39_1) rfl ?_
    show SS p e below s₁ (mkF m 2 #[vr r0, vi (0 : Int32), vi (26 : Int32), uu, uu] [(.int (26 : Int32)), (.int (0 : Int32))]) _
    refine st1 _ ?_
    show SS p e below T1 (mkF m 5 #[vr r0, vi (0 : Int32), vi (26 : Int32), uu, uu] []) _
    refine XS.iloadN X1.here hx rfl (hb hby d39_5) rfl ?_
    show SS p e below T1 (mkF m 6 #[vr r0, vi (0 : Int32), vi (26 : Int32), uu, uu] [(.int (26 : Int32))]) _
    refine XS.iloadN X1.here hx rfl (hb hby d39_6) rfl ?_
    show SS p e below T1 (mkF m 7 #[vr r0, vi (0 : Int32), vi (26 : Int32), uu, uu] [(.int (0 : Int32)), (.int (26 : Int32))]) _
    refine XS.isub X1.here hx rfl (hb hby d39_7) rfl ?_
    show SS p e below T1 (mkF m 8 #[vr r0, vi (0 : Int32), vi (26 : Int32), uu, uu] [(.int ((26 : Int32) - (0 : Int32)))]) _
    rw [(show ((26 : Int32) - (0 : Int32)) = (26 : Int32) from by decide)]
    show SS p e below T1 (mkF m 8 #[vr r0, vi (0 : Int32), vi (26 : Int32), uu, uu] [(.int (26 : Int32))]) _
    refine XS.istoreN X1.here hx rfl (hb hby d39_8) rfl (l' := #[vr r0, vi (0 : Int32), vi (26 : Int32), vi (26 : Int32), uu]) rfl ?_
    show SS p e below T1 (mkF m 9 #[vr r0, vi (0 : Int32), vi (26 : Int32), vi (26 : Int32), uu] []) _
    refine XS.iloadN X1.here hx rfl (hb hby d39_9) rfl ?_
    show SS p e below T1 (mkF m 10 #[vr r0, vi (0 : Int32), vi (26 : Int32), vi (26 : Int32), uu] [(.int (26 : Int32))]) _
    refine st2 _ ?_
    show SS p e below T2 (mkF m 12 #[vr r0, vi (0 : Int32), vi (26 : Int32), vi (26 : Int32), uu] [(.ref b2)]) _
    refine XS.astore X2.here hx rfl (hb hby d39_12) rfl rfl (l' := #[vr r0, vi (0 : Int32), vi (26 : Int32), vi (26 : Int32), vr b2]) rfl ?_
    show SS p e below T2 (mkF m 14 #[vr r0, vi (0 : Int32), vi (26 : Int32), vi (26 : Int32), vr b2] []) _
    refine XS.aloadN X2.here hx rfl (hb hby d39_14) rfl rfl ?_
    show SS p e below T2 (mkF m 15 #[vr r0, vi (0 : Int32), vi (26 : Int32), vi (26 : Int32), vr b2] [(.ref r0)]) _
    refine XS.iloadN X2.here hx rfl (hb hby d39_15) rfl ?_
    show SS p e below T2 (mkF m 16 #[vr r0, vi (0 : Int32), vi (26 : Int32), vi (26 : Int32), vr b2] [(.int (0 : Int32)), (.ref r0)]) _
    refine XS.aload X2.here hx rfl (hb hby d39_16) rfl rfl ?_
    show SS p e below T2 (mkF m 18 #[vr r0, vi (0 : Int32), vi (26 : Int32), vi (26 : Int32), vr b2] [(.ref b2), (.int (0 : Int32)), (.ref r0)]) _
    refine XS.iconst X2.here hx rfl (hb hby d39_18) ?_
    show SS p e below T2 (mkF m 19 #[vr r0, vi (0 : Int32), vi (26 : Int32), vi (26 : Int32), vr b2] [(.int (0 : Int32)), (.ref b2), (.int (0 : Int32)), (.ref r0)]) _
    refine XS.aloadN X2.here hx rfl (hb hby d39_19) rfl rfl ?_
    show SS p e below T2 (mkF m 20 #[vr r0, vi (0 : Int32), vi (26 : Int32), vi (26 : Int32), vr b2] [(.ref r0), (.int (0 : Int32)), (.ref b2), (.int (0 : Int32)), (.ref r0)]) _
    refine X2.arraylength hx (own_at e2 Ar3.1) (State.isArrayOf_alike hZ.alike Ar3.2.1) (g := (mkF m 20 #[vr r0, vi (0 : Int32), vi (26 : Int32), vi (26 : Int32), vr b2] [(.ref r0), (.int (0 : Int32)), (.ref b2), (.int (0 : Int32)), (.ref r0)])) rfl rfl (hb hby d39_20) _ ?_
    rw [len_of S3 Nn3]
    show SS p e below T2 (mkF m 21 #[vr r0, vi (0 : Int32), vi (26 : Int32), vi (26 : Int32), vr b2] [(.int (34 : Int32)), (.int (0 : Int32)), (.ref b2), (.int (0 : Int32)), (.ref r0)]) _
    refine XS.iloadN X2.here hx rfl (hb hby d39_21) rfl ?_
    show SS p e below T2 (mkF m 22 #[vr r0, vi (0 : Int32), vi (26 : Int32), vi (26 : Int32), vr b2] [(.int (0 : Int32)), (.int (34 : Int32)), (.int (0 : Int32)), (.ref b2), (.int (0 : Int32)), (.ref r0)]) _
    refine XS.isub X2.here hx rfl (hb hby d39_22) rfl ?_
    show SS p e below T2 (mkF m 23 #[vr r0, vi (0 : Int32), vi (26 : Int32), vi (26 : Int32), vr b2] [(.int ((34 : Int32) - (0 : Int32))), (.int (0 : Int32)), (.ref b2), (.int (0 : Int32)), (.ref r0)]) _
    rw [(show ((34 : Int32) - (0 : Int32)) = (34 : Int32) from by decide)]
    show SS p e below T2 (mkF m 23 #[vr r0, vi (0 : Int32), vi (26 : Int32), vi (26 : Int32), vr b2] [(.int (34 : Int32)), (.int (0 : Int32)), (.ref b2), (.int (0 : Int32)), (.ref r0)]) _
    refine XS.iloadN X2.here hx rfl (hb hby d39_23) rfl ?_
    show SS p e below T2 (mkF m 24 #[vr r0, vi (0 : Int32), vi (26 : Int32), vi (26 : Int32), vr b2] [(.int (26 : Int32)), (.int (34 : Int32)), (.int (0 : Int32)), (.ref b2), (.int (0 : Int32)), (.ref r0)]) _
    refine st5 _ ?_
    show SS p e below T5 (mkF m 27 #[vr r0, vi (0 : Int32), vi (26 : Int32), vi (26 : Int32), vr b2] [(.int (if (26 : Int32) < (34 : Int32) then (26 : Int32) else (34 : Int32))), (.int (0 : Int32)), (.ref b2), (.int (0 : Int32)), (.ref r0)]) _
    rw [(show (if (26 : Int32) < (34 : Int32) then (26 : Int32) else (34 : Int32)) = (26 : Int32) from by decide)]
    show SS p e below T5 (mkF m 27 #[vr r0, vi (0 : Int32), vi (26 : Int32), vi (26 : Int32), vr b2] [(.int (26 : Int32)), (.int (0 : Int32)), (.ref b2), (.int (0 : Int32)), (.ref r0)]) _
    refine st6 _ ?_
    show SS p e below T6 (mkF m 30 #[vr r0, vi (0 : Int32), vi (26 : Int32), vi (26 : Int32), vr b2] []) _
    refine XS.aload X6.here hx rfl (hb hby d39_30) rfl rfl ?_
    show SS p e below T6 (mkF m 32 #[vr r0, vi (0 : Int32), vi (26 : Int32), vi (26 : Int32), vr b2] [(.ref b2)]) _
    exact retOut X6 hx Bd.returns rfl (Or.inr (Or.inr (Or.inr (Or.inr ⟨rfl, rfl, rfl⟩)))) (hb hby d39_32) hr
  · show Q_rm_corb_26_34 Z r0 kv vv h0 n0 _ T6.heap _
    rw [e6]
    exact ⟨b2, k2, (List.take ((0 : Int32)).toNatClampNeg [(.int (0 : Int32)), (.int (0 : Int32)), (.int (0 : Int32)), (.int (0 : Int32)), (.int (0 : Int32)), (.int (0 : Int32)), (.int (0 : Int32)), (.int (0 : Int32)), (.int (0 : Int32)), (.int (0 : Int32)), (.int (0 : Int32)), (.int (0 : Int32)), (.int (0 : Int32)), (.int (0 : Int32)), (.int (0 : Int32)), (.int (0 : Int32)), (.int (0 : Int32)), (.int (0 : Int32)), (.int (0 : Int32)), (.int (0 : Int32)), (.int (0 : Int32)), (.int (0 : Int32)), (.int (0 : Int32)), (.int (0 : Int32)), (.int (0 : Int32)), (.int (0 : Int32))] ++ ((List.range ((26 : Int32)).toNatClampNeg).map fun i => List.getD vv (((0 : Int32)).toNatClampNeg + i) (.int (0 : Int32))) ++ List.drop (((0 : Int32)).toNatClampNeg + ((26 : Int32)).toNatClampNeg) [(.int (0 : Int32)), (.int (0 : Int32)), (.int (0 : Int32)), (.int (0 : Int32)), (.int (0 : Int32)), (.int (0 : Int32)), (.int (0 : Int32)), (.int (0 : Int32)), (.int (0 : Int32)), (.int (0 : Int32)), (.int (0 : Int32)), (.int (0 : Int32)), (.int (0 : Int32)), (.int (0 : Int32)), (.int (0 : Int32)), (.int (0 : Int32)), (.int (0 : Int32)), (.int (0 : Int32)), (.int (0 : Int32)), (.int (0 : Int32)), (.int (0 : Int32)), (.int (0 : Int32)), (.int (0 : Int32)), (.int (0 : Int32)), (.int (0 : Int32)), (.int (0 : Int32))]), rfl, N6, K6, sz_b2, c7, V6, (own_len3 (n := 26) rfl (by simp only [List.length_map, List.length_range]) (by decide))⟩
theorem ef_47 (m : MethodId) (x0 : Addr) : entryFrame m #[(.ref x0), (.int (0 : Int32)), (.int (26 : Int32))] 3 = mkF m 0 #[vr x0, vi (0 : Int32), vi (26 : Int32)] [] := by first | (simp [entryFrame, mkF, argsToLocals, Value.category]; done) | rfl
def Q_rm_cor_26_34 (Z : State) (r0 : Addr) (kv : ClassId) (vv : List Value) (h0 : Heap) (n0 : Nat) (v : Option Value) (h : Heap) (L : List Loc) : Prop := ∃ (nb : Addr), ∃ (nk : ClassId), ∃ (nv : List Value), (v = some (.ref nb) ∧ Fr n0 L ∧ Keep h0 h [] ∧ h0.size ≤ nb ∧ Exa Z h nb "[B" ∧ Arv Z h nb nk .byte (26 : Int32) nv (.int (0 : Int32)) ∧ nv.length = 26)
set_option maxRecDepth 65536 in
set_option maxHeartbeats 40000000 in
theorem rm_cor_26_34 (l : Launch) (Z : State) (a0 : Array Value) (hw : ∀ d ∈ tables_1, d.before a0 Z = true) (ws : List Jvm.Cond) (r0 : Addr) (kv : ClassId) (vv : List Value) (h0 : Heap) (n0 : Nat) (Z0 : n0 ≤ h0.size) (uV : Arv Z h0 r0 kv .byte (34 : Int32) vv (.int (0 : Int32))) :
    MetFree l (⟨"java/util/Arrays", "copyOfRange", "([BII)[B"⟩ : MethodName) (head1 (Jvm.Cond.code (⟨"java/util/Arrays", "copyOfRange", "([BII)[B"⟩ : MethodName) jdk_65_method_132_code 3 (some (.array .byte)) :: ws) ({ frames := 2, cells := 1, slots := 26, locals := 34 } : Room)) (fun a U => a = #[(.ref r0), (.int (0 : Int32)), (.int (26 : Int32))] ∧ Z.Warmed39 U.vm ∧ U.heap = h0) (fun _ _ _ _ _ => True) (fun _ U o U' => ∃ v L, o = .returned v ∧ Q_rm_cor_26_34 Z r0 kv vv h0 n0 v U'.heap L ∧ FrameEnd U o U' L ({ frames := 2, cells := 1, slots := 26, locals := 34 } : Room).cells ({ frames := 2, cells := 1, slots := 26, locals := 34 } : Room).slots) := by
  refine MetFree.of_bodySF (plainFor_of_name pn_3) hisR ?_
  intro p e s m args below meth c s₁ Bd hml0 hP hK
  obtain ⟨rfl, hZ, hh⟩ := hP
  have hx := Bd.exec
  have hby := Bd.bytes
  have hml : c.maxLocals = 3 := hml0
  have hown : s.vm.findClass "java/util/Arrays" = some m.cls := findClass_of_methodNamed Bd.named
  have hnm := (name_of_methodNamed Bd.named Bd.method).1
  have X0 : Stand p l e ({ frames := 2, cells := 1, slots := 26, locals := 34 } : Room) s m #[(.ref r0), (.int (0 : Int32)), (.int (26 : Int32))] below meth c s₁ [] 0 0 := Stand.of_body Bd
  have e0 : s₁.heap = h0 := by rw [← hh, Bd.state]; rfl
  have N0 := Fr.nil n0
  have pre0 : ∀ t, Steps p.tables e below (s₁.setTop (mkF m 0 #[vr r0, vi (0 : Int32), vi (26 : Int32)] [])) t → Steps p.tables e below (s₁.setTop (entryFrame m #[(.ref r0), (.int (0 : Int32)), (.int (26 : Int32))] 3)) t := fun t k => castTop (ef_47 m r0) k
  obtain ⟨cl1, Ar1, q1, S1, Nn1, H1, G1⟩ := (id uV)
  obtain ⟨_, _, ⟨T2, Lw2, kw2, nw2⟩, -, X2, ⟨Lc2, hQ2, lq2, yq2, zq2⟩, st2⟩ := Jvm.LawKit.callS X0 hx (y := (⟨"java/util/Arrays", "copyOfRangeByte", "([BII)[B"⟩ : MethodName)) hown (mvT hZ (wd hw 225 rfl)) (mvT hZ (wd hw 226 rfl)) (mvT hZ (wd hw 56 rfl)) (mvT hZ (wd hw 227 rfl)) (by decide) (backOf (W := 0) (rm_corb_26_34 l Z a0 hw [] r0 kv vv h0 n0 Z0 uV) hZ (wd hw 227 rfl) (wd hw 56 rfl) (by decide) (by decide)) (g := (mkF m 13 #[vr r0, vi (0 : Int32), vi (26 : Int32)] [(.int (26 : Int32)), (.int (0 : Int32)), (.ref r0)])) rfl (by rw [hml]; rfl) (argsL := [(.ref r0), (.int (0 : Int32)), (.int (26 : Int32))]) (rest := []) (lenOf pd_8 rfl) rfl (by show 2 * 0 + _ ≤ _; exact Nat.le_of_eq rfl) (hb hby d9_13) (fun _ _ => ⟨rfl, e0, (by decide : 0 + 1 ≤ _), (by decide : 0 + 26 ≤ _)⟩)
  dsimp only [Pt.U, Pt.locs, Pt.cells, Pt.slots] at X2 lq2 yq2 zq2 st2 hQ2
  have X2 := own_reb X2 lq2 yq2 zq2
  obtain ⟨nb_2, nk_2, nv_2, rfl, Nq2, Kq2, f2_0, f2_1, f2_2, f2_3⟩ := hQ2
  have N2 := Fr.app N0 Nq2
  have ne_r0_nb_2 : r0 ≠ nb_2 := Nat.ne_of_lt (Nat.lt_of_lt_of_le uV.lt f2_0)
  have g_nb_2 : n0 ≤ nb_2 := Nat.le_trans Z0 f2_0
  have sz_nb_2 : h0.size ≤ nb_2 := Nat.le_trans (Keep.refl h0 []).1 f2_0
  have K2 : Keep h0 T2.heap [] := (Keep.refl h0 []).trans Kq2 all0
  have Z2 : n0 ≤ T2.heap.size := Nat.le_trans Z0 Kq2.1
  obtain ⟨fs, hr, hrun, hended, hW, hsame⟩ := X2.leave (v := some (.ref nb_2)) (fun h => by rw [Bd.returns] at h; cases h)
  refine ⟨_, _, pre0 _ ?_, hrun, hended, _, _, rfl, ?_, ⟨_, rfl⟩, hW, hsame.mono (by decide) (by decide)⟩
  · show SS p e below s₁ (mkF m 0 #[vr r0, vi (0 : Int32), vi (26 : Int32)] []) _
    refine XS.iloadN X0.here hx rfl (hb hby d9_0) rfl ?_
    show SS p e below s₁ (mkF m 1 #[vr r0, vi (0 : Int32), vi (26 : Int32)] [(.int (0 : Int32))]) _
    refine XS.ifNo X0.here hx rfl (hb hby d9_1) rfl ((if0 _ _).trans (teq (by decide : (0 : Int32) = (0 : Int32))).2) ?_
    show SS p e below s₁ (mkF m 4 #[vr r0, vi (0 : Int32), vi (26 : Int32)] []) _
    refine XS.iloadN X0.here hx rfl (hb hby d9_4) rfl ?_
    show SS p e below s₁ (mkF m 5 #[vr r0, vi (0 : Int32), vi (26 : Int32)] [(.int (26 : Int32))]) _
    refine XS.aloadN X0.here hx rfl (hb hby d9_5) rfl rfl ?_
    show SS p e below s₁ (mkF m 6 #[vr r0, vi (0 : Int32), vi (26 : Int32)] [(.ref r0), (.int (26 : Int32))]) _
    refine X0.arraylength hx (own_at e0 Ar1.1) (State.isArrayOf_alike hZ.alike Ar1.2.1) (g := (mkF m 6 #[vr r0, vi (0 : Int32), vi (26 : Int32)] [(.ref r0), (.int (26 : Int32))])) rfl rfl (hb hby d9_6) _ ?_
    rw [len_of S1 Nn1]
    show SS p e below s₁ (mkF m 7 #[vr r0, vi (0 : Int32), vi (26 : Int32)] [(.int (34 : Int32)), (.int (26 : Int32))]) _
    refine XS.icmpNo X0.here hx rfl (hb hby d9_7) rfl (feq (by decide : ¬ ((26 : Int32) = (34 : Int32)))).1 ?_
    show SS p e below s₁ (mkF m 10 #[vr r0, vi (0 : Int32), vi (26 : Int32)] []) _
    refine XS.aloadN X0.here hx rfl (hb hby d9_10) rfl rfl ?_
    show SS p e below s₁ (mkF m 11 #[vr r0, vi (0 : Int32), vi (26 : Int32)] [(.ref r0)]) _
    refine XS.iloadN X0.here hx rfl (hb hby d9_11) rfl ?_
    show SS p e below s₁ (mkF m 12 #[vr r0, vi (0 : Int32), vi (26 : Int32)] [(.int (0 : Int32)), (.ref r0)]) _
    refine XS.iloadN X0.here hx rfl (hb hby d9_12) rfl ?_
    show SS p e below s₁ (mkF m 13 #[vr r0, vi (0 : Int32), vi (26 : Int32)] [(.int (26 : Int32)), (.int (0 : Int32)), (.ref r0)]) _
    refine st2 _ ?_
    show SS p e below T2 (mkF m 16 #[vr r0, vi (0 : Int32), vi (26 : Int32)] [(.ref nb_2)]) _
    exact retOut X2 hx Bd.returns rfl (Or.inr (Or.inr (Or.inr (Or.inr ⟨rfl, rfl, rfl⟩)))) (hb hby d9_16) hr
  · show Q_rm_cor_26_34 Z r0 kv vv h0 n0 _ T2.heap _
    exact ⟨nb_2, nk_2, nv_2, rfl, N2, K2, sz_nb_2, f2_1, f2_2, f2_3⟩
theorem ef_48 (m : MethodId) (x0 : Addr) (x1 : Addr) : entryFrame m #[(.ref x0), (.ref x1), .null] 5 = mkF m 0 #[vr x0, vr x1, .val .null, uu, uu] [] := by first | (simp [entryFrame, mkF, argsToLocals, Value.category]; done) | rfl
theorem d35_0 : decode jdk_42_method_150_code 0 = .ok (.aload_n 0, 1) := by decide +kernel
theorem d35_1 : decode jdk_42_method_150_code 1 = .ok (.invokespecial 1, 3) := by decide +kernel
theorem d35_4 : decode jdk_42_method_150_code 4 = .ok (.aload_n 1, 1) := by decide +kernel
theorem d35_5 : decode jdk_42_method_150_code 5 = .ok (.invokevirtual 552, 3) := by decide +kernel
theorem pd_19 : parseMethodDescriptor "()[B" = some ⟨[], some (.array .byte)⟩ := by decide +kernel
theorem d35_8 : decode jdk_42_method_150_code 8 = .ok (.astore_n 3, 1) := by decide +kernel
theorem d35_9 : decode jdk_42_method_150_code 9 = .ok (.aload_n 1, 1) := by decide +kernel
theorem d35_10 : decode jdk_42_method_150_code 10 = .ok (.invokevirtual 549, 3) := by decide +kernel
theorem d35_13 : decode jdk_42_method_150_code 13 = .ok (.istore 4, 2) := by decide +kernel
theorem d35_15 : decode jdk_42_method_150_code 15 = .ok (.aload_n 1, 1) := by decide +kernel
theorem d35_16 : decode jdk_42_method_150_code 16 = .ok (.invokevirtual 1047, 3) := by decide +kernel
theorem d35_19 : decode jdk_42_method_150_code 19 = .ok (.ifCond .eq 22, 3) := by decide +kernel
theorem d35_22 : decode jdk_42_method_150_code 22 = .ok (.aload_n 0, 1) := by decide +kernel
theorem d35_23 : decode jdk_42_method_150_code 23 = .ok (.iconst 0, 1) := by decide +kernel
theorem d35_24 : decode jdk_42_method_150_code 24 = .ok (.putfield 15, 3) := by decide +kernel
theorem d35_27 : decode jdk_42_method_150_code 27 = .ok (.aload_n 0, 1) := by decide +kernel
theorem d35_28 : decode jdk_42_method_150_code 28 = .ok (.aload_n 3, 1) := by decide +kernel
theorem d35_29 : decode jdk_42_method_150_code 29 = .ok (.iconst 0, 1) := by decide +kernel
theorem d35_30 : decode jdk_42_method_150_code 30 = .ok (.iload 4, 2) := by decide +kernel
theorem d35_32 : decode jdk_42_method_150_code 32 = .ok (.invokestatic 54, 3) := by decide +kernel
theorem d35_35 : decode jdk_42_method_150_code 35 = .ok (.putfield 9, 3) := by decide +kernel
theorem d35_38 : decode jdk_42_method_150_code 38 = .ok (.goto 59, 3) := by decide +kernel
theorem d35_97 : decode jdk_42_method_150_code 97 = .ok (.return_, 1) := by decide +kernel
def Q_rm_si2_26_34 (Z : State) (r0 : Addr) (r1 : Addr) (zc : Int32) (rv : Addr) (kv : ClassId) (vv : List Value) (h0 : Heap) (n0 : Nat) (v : Option Value) (h : Heap) (L : List Loc) : Prop := ∃ (nb : Addr), ∃ (nk : ClassId), ∃ (nv : List Value), (v = none ∧ Fr n0 L ∧ Keep h0 h [r0] ∧ Fld Z h r0 "java/lang/String" "coder" "B" (.int (0 : Int32)) ∧ Fld Z h r0 "java/lang/String" "value" "[B" (.ref nb) ∧ h0.size ≤ nb ∧ Arv Z h nb nk .byte (26 : Int32) nv (.int (0 : Int32)) ∧ nv.length = 26)
set_option maxRecDepth 65536 in
set_option maxHeartbeats 40000000 in
theorem rm_si2_26_34 (l : Launch) (Z : State) (a0 : Array Value) (hw : ∀ d ∈ tables_1, d.before a0 Z = true) (ws : List Jvm.Cond) (r0 : Addr) (r1 : Addr) (zc : Int32) (rv : Addr) (kv : ClassId) (vv : List Value) (h0 : Heap) (n0 : Nat) (Z0 : n0 ≤ h0.size) (uO : Old Z n0 h0) (uS : Sta Z Z.heap "java/lang/String" "COMPACT_STRINGS" "Z" (.int zc)) (uP : ¬ zc = 0) (us : Exa Z h0 r0 "java/lang/String") (usv : Fld Z h0 r0 "java/lang/String" "value" "[B" .null) (usc : Fld Z h0 r0 "java/lang/String" "coder" "B" (.int (0 : Int32))) (ug : n0 ≤ r0) (uE : Exa Z h0 r1 "java/lang/StringBuilder") (uv : Fld Z h0 r1 "java/lang/AbstractStringBuilder" "value" "[B" (.ref rv)) (uc : Fld Z h0 r1 "java/lang/AbstractStringBuilder" "coder" "B" (.int (0 : Int32))) (uV : Arv Z h0 rv kv .byte (34 : Int32) vv (.int (0 : Int32))) (uk : Fld Z h0 r1 "java/lang/AbstractStringBuilder" "count" "I" (.int (26 : Int32))) :
    MetFree l (⟨"java/lang/String", "<init>", "(Ljava/lang/AbstractStringBuilder;Ljava/lang/Void;)V"⟩ : MethodName) (head1 (Jvm.Cond.code (⟨"java/lang/String", "<init>", "(Ljava/lang/AbstractStringBuilder;Ljava/lang/Void;)V"⟩ : MethodName) jdk_42_method_150_code 5 none :: ws) ({ frames := 3, cells := 1, slots := 26, locals := 49 } : Room)) (fun a U => a = #[(.ref r0), (.ref r1), .null] ∧ Z.Warmed39 U.vm ∧ U.heap = h0) (fun _ _ _ _ _ => True) (fun _ U o U' => ∃ v L, o = .returned v ∧ Q_rm_si2_26_34 Z r0 r1 zc rv kv vv h0 n0 v U'.heap L ∧ FrameEnd U o U' L ({ frames := 3, cells := 1, slots := 26, locals := 49 } : Room).cells ({ frames := 3, cells := 1, slots := 26, locals := 49 } : Room).slots) := by
  refine MetFree.of_bodySF (plainFor_of_name pn_0) hisR ?_
  intro p e s m args below meth c s₁ Bd hml0 hP hK
  obtain ⟨rfl, hZ, hh⟩ := hP
  have hx := Bd.exec
  have hby := Bd.bytes
  have hml : c.maxLocals = 5 := hml0
  have hown : s.vm.findClass "java/lang/String" = some m.cls := findClass_of_methodNamed Bd.named
  have hnm := (name_of_methodNamed Bd.named Bd.method).1
  have X0 : Stand p l e ({ frames := 3, cells := 1, slots := 26, locals := 49 } : Room) s m #[(.ref r0), (.ref r1), .null] below meth c s₁ [] 0 0 := Stand.of_body Bd
  have e0 : s₁.heap = h0 := by rw [← hh, Bd.state]; rfl
  have N0 := Fr.nil n0
  have pre0 : ∀ t, Steps p.tables e below (s₁.setTop (mkF m 0 #[vr r0, vr r1, .val .null, uu, uu] [])) t → Steps p.tables e below (s₁.setTop (entryFrame m #[(.ref r0), (.ref r1), .null] 5)) t := fun t k => castTop (ef_48 m r0 r1) k
  obtain ⟨T1, X1, e1, st1⟩ := initO X0 hx hZ hown (wd hw 209 rfl) (wd hw 11 rfl) (wd hw 12 rfl) e0 (g := (mkF m 1 #[vr r0, vr r1, .val .null, uu, uu] [(.ref r0)])) rfl (by rw [hml]; rfl) rfl (hb hby d35_1) (by decide) (W := 0) (by show 2 * 0 + _ ≤ _; exact Nat.le_of_eq rfl) (by decide)
  obtain ⟨cq2, kq2, q2a, q2b, q2c⟩ := isOf hZ e1 uE
  obtain ⟨_, _, ⟨T2, Lw2, kw2, nw2⟩, -, X2, ⟨Lc2, hQ2, lq2, yq2, zq2⟩, st2⟩ := X1.virtualBack hx (y := (⟨"java/lang/AbstractStringBuilder", "getValue", "()[B"⟩ : MethodName)) (z := (⟨"java/lang/AbstractStringBuilder", "getValue", "()[B"⟩ : MethodName)) hown (mvT hZ (wd hw 210 rfl)) (mvT hZ (wd hw 211 rfl)) (notFace_of_selects (args := #[]) (mvT hZ (wd hw 213 rfl))) (mvT hZ (wd hw 213 rfl)) (mvT hZ (wd hw 212 rfl)) (by decide) (backOf (W := 0) (rmGV l Z a0 hw [] r1 rv h0 n0 Z0 uv) hZ (wd hw 214 rfl) (wd hw 92 rfl) (by decide) (by decide)) q2a q2c (g := (mkF m 5 #[vr r0, vr r1, .val .null, uu, uu] [(.ref r1)])) rfl (by rw [hml]; rfl) (Steps.refl _) (argsL := []) (rest := []) (lenOf pd_19 rfl) rfl (by show 2 * 0 + _ ≤ _; exact Nat.le_of_eq rfl) (hb hby d35_5) (fun _ _ => ⟨rfl, e1, (by decide : 0 + 0 ≤ _), (by decide : 0 + 0 ≤ _)⟩)
  dsimp only [Pt.U, Pt.locs, Pt.cells, Pt.slots] at X2 lq2 yq2 zq2 st2 hQ2
  have X2 := own_reb X2 lq2 yq2 zq2
  obtain ⟨rfl, Nq2, eh2⟩ := hQ2
  have N2 := Fr.app N0 Nq2
  obtain ⟨cq3, kq3, q3a, q3b, q3c⟩ := isOf hZ eh2 uE
  obtain ⟨_, _, ⟨T3, Lw3, kw3, nw3⟩, -, X3, ⟨Lc3, hQ3, lq3, yq3, zq3⟩, st3⟩ := X2.virtualBack hx (y := (⟨"java/lang/AbstractStringBuilder", "length", "()I"⟩ : MethodName)) (z := (⟨"java/lang/StringBuilder", "length", "()I"⟩ : MethodName)) hown (mvT hZ (wd hw 215 rfl)) (mvT hZ (wd hw 216 rfl)) (own_face (args := #[]) (mvT hZ (wd hw 128 rfl)) rfl) (mvT hZ (wd hw 218 rfl)) (mvT hZ (wd hw 219 rfl)) (by decide) (backOf (W := 0) (rmSL l Z a0 hw [] r1 (26 : Int32) h0 n0 Z0 uE uk) hZ (wd hw 220 rfl) (wd hw 84 rfl) (by decide) (by decide)) q3a q3c (g := (mkF m 10 #[vr r0, vr r1, .val .null, vr rv, uu] [(.ref r1)])) rfl (by rw [hml]; rfl) (Steps.refl _) (argsL := []) (rest := []) (lenOf pd_2 rfl) rfl (by show 2 * 0 + _ ≤ _; exact Nat.le_of_eq rfl) (hb hby d35_10) (fun _ _ => ⟨rfl, eh2, (by decide : 0 + 0 ≤ _), (by decide : 0 + 0 ≤ _)⟩)
  dsimp only [Pt.U, Pt.locs, Pt.cells, Pt.slots] at X3 lq3 yq3 zq3 st3 hQ3
  have X3 := own_reb X3 lq3 yq3 zq3
  obtain ⟨rfl, Nq3, eh3⟩ := hQ3
  have N3 := Fr.app N2 Nq3
  obtain ⟨cq4, kq4, q4a, q4b, q4c⟩ := isOf hZ eh3 uE
  obtain ⟨_, _, ⟨T4, Lw4, kw4, nw4⟩, -, X4, ⟨Lc4, hQ4, lq4, yq4, zq4⟩, st4⟩ := X3.virtualBack hx (y := (⟨"java/lang/AbstractStringBuilder", "isLatin1", "()Z"⟩ : MethodName)) (z := (⟨"java/lang/AbstractStringBuilder", "isLatin1", "()Z"⟩ : MethodName)) hown (mvT hZ (wd hw 223 rfl)) (mvT hZ (wd hw 187 rfl)) (notFace_of_selects (args := #[]) (mvT hZ (wd hw 189 rfl))) (mvT hZ (wd hw 189 rfl)) (mvT hZ (wd hw 188 rfl)) (by decide) (backOf (W := 0) (rmIL l Z a0 hw [] r1 zc h0 n0 Z0 uO uS uP uc) hZ (wd hw 190 rfl) (wd hw 92 rfl) (by decide) (by decide)) q4a q4c (g := (mkF m 16 #[vr r0, vr r1, .val .null, vr rv, vi (26 : Int32)] [(.ref r1)])) rfl (by rw [hml]; rfl) (Steps.refl _) (argsL := []) (rest := []) (lenOf pd_16 rfl) rfl (by show 2 * 0 + _ ≤ _; exact Nat.le_of_eq rfl) (hb hby d35_16) (fun _ _ => ⟨rfl, eh3, (by decide : 0 + 0 ≤ _), (by decide : 0 + 0 ≤ _)⟩)
  dsimp only [Pt.U, Pt.locs, Pt.cells, Pt.slots] at X4 lq4 yq4 zq4 st4 hQ4
  have X4 := own_reb X4 lq4 yq4 zq4
  obtain ⟨rfl, Nq4, eh4⟩ := hQ4
  have N4 := Fr.app N3 Nq4
  obtain ⟨T5, h5, X5, e5, W5, st5⟩ := putFN X4 hx hZ hown (wd hw 122 rfl) Via.refl eh4 usc us (Or.inr ⟨(wd hw 17 rfl), rfl, hnm⟩) (wd hw 15 rfl) (ty := .byte) (v' := (.int (0 : Int32))) (by decide) rfl rfl (g := (mkF m 24 #[vr r0, vr r1, .val .null, vr rv, vi (26 : Int32)] [(.int (0 : Int32)), (.ref r0)])) rfl rfl (hb hby d35_24)
  have Fw5 := usc.same W5
  have N5 := Fr.snoc X5 N4 ug
  have K5 : Keep h0 h5 [r0] := (Keep.refl h0 [r0]).wr W5 (Or.inl (List.mem_of_getElem? (i := 0) rfl))
  have Z5 : n0 ≤ h5.size := by rw [W5.size]; exact Z0
  have c7 := (uV.other W5 (Ne.symm (Exa.neArv us uV (wd hw 15 rfl))))
  obtain ⟨_, _, ⟨T6, Lw6, kw6, nw6⟩, -, X6, ⟨Lc6, hQ6, lq6, yq6, zq6⟩, st6⟩ := Jvm.LawKit.callS X5 hx (y := (⟨"java/util/Arrays", "copyOfRange", "([BII)[B"⟩ : MethodName)) hown (mvT hZ (wd hw 224 rfl)) (mvT hZ (wd hw 55 rfl)) (mvT hZ (wd hw 56 rfl)) (mvT hZ (wd hw 57 rfl)) (by decide) (backOf (W := 1) (rm_cor_26_34 l Z a0 hw [] rv kv vv h5 n0 Z5 c7) hZ (wd hw 57 rfl) (wd hw 56 rfl) (by decide) (by decide)) (g := (mkF m 32 #[vr r0, vr r1, .val .null, vr rv, vi (26 : Int32)] [(.int (26 : Int32)), (.int (0 : Int32)), (.ref rv), (.ref r0)])) rfl (by rw [hml]; rfl) (argsL := [(.ref rv), (.int (0 : Int32)), (.int (26 : Int32))]) (rest := [(.ref r0)]) (lenOf pd_8 rfl) rfl (by show 2 * 0 + _ ≤ _; exact Nat.le_of_eq rfl) (hb hby d35_32) (fun _ _ => ⟨rfl, e5, (by decide : 0 + 1 ≤ _), (by decide : 0 + 26 ≤ _)⟩)
  dsimp only [Pt.U, Pt.locs, Pt.cells, Pt.slots] at X6 lq6 yq6 zq6 st6 hQ6
  have X6 := own_reb X6 lq6 yq6 zq6
  obtain ⟨nb_6, nk_6, nv_6, rfl, Nq6, Kq6, f6_0, f6_1, f6_2, f6_3⟩ := hQ6
  have N6 := Fr.app N5 Nq6
  have c8 := (us.wr W5)
  have ne_r0_nb_6 : r0 ≠ nb_6 := Nat.ne_of_lt (Nat.lt_of_lt_of_le c8.lt f6_0)
  have c9 := (uE.wr W5)
  have ne_r1_nb_6 : r1 ≠ nb_6 := Nat.ne_of_lt (Nat.lt_of_lt_of_le c9.lt f6_0)
  have ne_rv_nb_6 : rv ≠ nb_6 := Nat.ne_of_lt (Nat.lt_of_lt_of_le c7.lt f6_0)
  have g_nb_6 : n0 ≤ nb_6 := Nat.le_trans Z5 f6_0
  have sz_nb_6 : h0.size ≤ nb_6 := Nat.le_trans K5.1 f6_0
  have K6 : Keep h0 T6.heap [r0] := K5.trans Kq6 all0
  have Z6 : n0 ≤ T6.heap.size := Nat.le_trans Z5 Kq6.1
  have c11 := ((us.wr W5).keep Kq6)
  have c12 := ((usv.other W5 (Or.inr (slot_ne (Or.inr (wd hw 16 rfl)) (Or.inr (wd hw 17 rfl)) (by decide) (t := (.array .byte)) (t' := .byte) (by decide) (by decide)))).keep Kq6 nin0)
  obtain ⟨T10, h10, X10, e10, W10, st10⟩ := putF X6 hx hZ hown (host := "") (Or.inl (wd hw 115 rfl)) Via.refl rfl c12 c11 (Or.inr ⟨(wd hw 16 rfl), rfl, hnm⟩) (wd hw 15 rfl) (ty := (.array .byte)) (by decide) rfl rfl (g := (mkF m 35 #[vr r0, vr r1, .val .null, vr rv, vi (26 : Int32)] [(.ref nb_6), (.ref r0)])) rfl rfl (hb hby d35_35)
  have Fw10 := c12.same W10
  have N10 := Fr.snoc X10 N6 ug
  have K10 : Keep h0 h10 [r0] := K6.wr W10 (Or.inl (List.mem_of_getElem? (i := 0) rfl))
  have Z10 : n0 ≤ h10.size := by rw [W10.size]; exact Z6
  have c13 := ((Fw5.keep Kq6 nin0).other W10 (Or.inr (slot_ne (Or.inr (wd hw 17 rfl)) (Or.inr (wd hw 16 rfl)) (by decide) (t := .byte) (t' := (.array .byte)) (by decide) (by decide))))
  have c14 := (f6_2.other W10 (Ne.symm ne_r0_nb_6))
  obtain ⟨fs, hr, hrun, hended, hW, hsame⟩ := X10.leave (v := none) (fun _ => rfl)
  refine ⟨_, _, pre0 _ ?_, hrun, hended, _, _, rfl, ?_, ⟨_, rfl⟩, hW, hsame.mono (by decide) (by decide)⟩
  · show SS p e below s₁ (mkF m 0 #[vr r0, vr r1, .val .null, uu, uu] []) _
    refine XS.aloadN X0.here hx rfl (hb hby d35_0) rfl rfl ?_
    show SS p e below s₁ (mkF m 1 #[vr r0, vr r1, .val .null, uu, uu] [(.ref r0)]) _
    refine st1 _ ?_
    show SS p e below T1 (mkF m 4 #[vr r0, vr r1, .val .null, uu, uu] []) _
    refine XS.aloadN X1.here hx rfl (hb hby d35_4) rfl rfl ?_
    show SS p e below T1 (mkF m 5 #[vr r0, vr r1, .val .null, uu, uu] [(.ref r1)]) _
    refine st2.trans ?_
    show SS p e below T2 (mkF m 8 #[vr r0, vr r1, .val .null, uu, uu] [(.ref rv)]) _
    refine XS.astoreN X2.here hx rfl (hb hby d35_8) rfl rfl (l' := #[vr r0, vr r1, .val .null, vr rv, uu]) rfl ?_
    show SS p e below T2 (mkF m 9 #[vr r0, vr r1, .val .null, vr rv, uu] []) _
    refine XS.aloadN X2.here hx rfl (hb hby d35_9) rfl rfl ?_
    show SS p e below T2 (mkF m 10 #[vr r0, vr r1, .val .null, vr rv, uu] [(.ref r1)]) _
    refine st3.trans ?_
    show SS p e below T3 (mkF m 13 #[vr r0, vr r1, .val .null, vr rv, uu] [(.int (26 : Int32))]) _
    refine XS.istore X3.here hx rfl (hb hby d35_13) rfl (l' := #[vr r0, vr r1, .val .null, vr rv, vi (26 : Int32)]) rfl ?_
    show SS p e below T3 (mkF m 15 #[vr r0, vr r1, .val .null, vr rv, vi (26 : Int32)] []) _
    refine XS.aloadN X3.here hx rfl (hb hby d35_15) rfl rfl ?_
    show SS p e below T3 (mkF m 16 #[vr r0, vr r1, .val .null, vr rv, vi (26 : Int32)] [(.ref r1)]) _
    refine st4.trans ?_
    show SS p e below T4 (mkF m 19 #[vr r0, vr r1, .val .null, vr rv, vi (26 : Int32)] [(.int (1 : Int32))]) _
    refine XS.ifNo X4.here hx rfl (hb hby d35_19) rfl ((if0 _ _).trans (feq (by decide : ¬ ((1 : Int32) = (0 : Int32)))).1) ?_
    show SS p e below T4 (mkF m 22 #[vr r0, vr r1, .val .null, vr rv, vi (26 : Int32)] []) _
    refine XS.aloadN X4.here hx rfl (hb hby d35_22) rfl rfl ?_
    show SS p e below T4 (mkF m 23 #[vr r0, vr r1, .val .null, vr rv, vi (26 : Int32)] [(.ref r0)]) _
    refine XS.iconst X4.here hx rfl (hb hby d35_23) ?_
    show SS p e below T4 (mkF m 24 #[vr r0, vr r1, .val .null, vr rv, vi (26 : Int32)] [(.int (0 : Int32)), (.ref r0)]) _
    refine st5 _ ?_
    show SS p e below T5 (mkF m 27 #[vr r0, vr r1, .val .null, vr rv, vi (26 : Int32)] []) _
    refine XS.aloadN X5.here hx rfl (hb hby d35_27) rfl rfl ?_
    show SS p e below T5 (mkF m 28 #[vr r0, vr r1, .val .null, vr rv, vi (26 : Int32)] [(.ref r0)]) _
    refine XS.aloadN X5.here hx rfl (hb hby d35_28) rfl rfl ?_
    show SS p e below T5 (mkF m 29 #[vr r0, vr r1, .val .null, vr rv, vi (26 : Int32)] [(.ref rv), (.ref r0)]) _
    refine XS.iconst X5.here hx rfl (hb hby d35_29) ?_
    show SS p e below T5 (mkF m 30 #[vr r0, vr r1, .val .null, vr rv, vi (26 : Int32)] [(.int (0 : Int32)), (.ref rv), (.ref r0)]) _
    refine XS.iload X5.here hx rfl (hb hby d35_30) rfl ?_
    show SS p e below T5 (mkF m 32 #[vr r0, vr r1, .val .null, vr rv, vi (26 : Int32)] [(.int (26 : Int32)), (.int (0 : Int32)), (.ref rv), (.ref r0)]) _
    refine st6 _ ?_
    show SS p e below T6 (mkF m 35 #[vr r0, vr r1, .val .null, vr rv, vi (26 : Int32)] [(.ref nb_6), (.ref r0)]) _
    refine st10 _ ?_
    show SS p e below T10 (mkF m 38 #[vr r0, vr r1, .val .null, vr rv, vi (26 : Int32)] []) _
    refine XS.goto X10.here hx rfl (pc0 := 38) (pc' := 97) rfl (hb hby d35_38) (by decide) (by decide) ?_
    show SS p e below T10 (mkF m 97 #[vr r0, vr r1, .val .null, vr rv, vi (26 : Int32)] []) _
    exact X10.returnOut hx Bd.returns (hb hby d35_97) hr
  · show Q_rm_si2_26_34 Z r0 r1 zc rv kv vv h0 n0 _ T10.heap _
    rw [e10]
    exact ⟨nb_6, nk_6, nv_6, rfl, N10, K10, c13, Fw10, sz_nb_6, c14, f6_3⟩
theorem ef_49 (m : MethodId) (x0 : Addr) (x1 : Addr) : entryFrame m #[(.ref x0), (.ref x1)] 2 = mkF m 0 #[vr x0, vr x1] [] := by first | (simp [entryFrame, mkF, argsToLocals, Value.category]; done) | rfl
theorem d34_0 : decode jdk_42_method_53_code 0 = .ok (.aload_n 0, 1) := by decide +kernel
theorem d34_1 : decode jdk_42_method_53_code 1 = .ok (.aload_n 1, 1) := by decide +kernel
theorem d34_2 : decode jdk_42_method_53_code 2 = .ok (.aconst_null, 1) := by decide +kernel
theorem d34_3 : decode jdk_42_method_53_code 3 = .ok (.invokespecial 489, 3) := by decide +kernel
theorem pd_20 : parseMethodDescriptor "(Ljava/lang/AbstractStringBuilder;Ljava/lang/Void;)V" = some ⟨[(.object "java/lang/AbstractStringBuilder"), (.object "java/lang/Void")], none⟩ := by decide +kernel
theorem d34_6 : decode jdk_42_method_53_code 6 = .ok (.return_, 1) := by decide +kernel
def Q_rm_si1_26_34 (Z : State) (r0 : Addr) (r1 : Addr) (zc : Int32) (rv : Addr) (kv : ClassId) (vv : List Value) (h0 : Heap) (n0 : Nat) (v : Option Value) (h : Heap) (L : List Loc) : Prop := ∃ (nb : Addr), ∃ (nk : ClassId), ∃ (nv : List Value), (v = none ∧ Fr n0 L ∧ Keep h0 h [r0] ∧ Fld Z h r0 "java/lang/String" "coder" "B" (.int (0 : Int32)) ∧ Fld Z h r0 "java/lang/String" "value" "[B" (.ref nb) ∧ h0.size ≤ nb ∧ Arv Z h nb nk .byte (26 : Int32) nv (.int (0 : Int32)) ∧ nv.length = 26)
set_option maxRecDepth 65536 in
set_option maxHeartbeats 40000000 in
theorem rm_si1_26_34 (l : Launch) (Z : State) (a0 : Array Value) (hw : ∀ d ∈ tables_1, d.before a0 Z = true) (ws : List Jvm.Cond) (r0 : Addr) (r1 : Addr) (zc : Int32) (rv : Addr) (kv : ClassId) (vv : List Value) (h0 : Heap) (n0 : Nat) (Z0 : n0 ≤ h0.size) (uO : Old Z n0 h0) (uS : Sta Z Z.heap "java/lang/String" "COMPACT_STRINGS" "Z" (.int zc)) (uP : ¬ zc = 0) (us : Exa Z h0 r0 "java/lang/String") (usv : Fld Z h0 r0 "java/lang/String" "value" "[B" .null) (usc : Fld Z h0 r0 "java/lang/String" "coder" "B" (.int (0 : Int32))) (ug : n0 ≤ r0) (uE : Exa Z h0 r1 "java/lang/StringBuilder") (uv : Fld Z h0 r1 "java/lang/AbstractStringBuilder" "value" "[B" (.ref rv)) (uc : Fld Z h0 r1 "java/lang/AbstractStringBuilder" "coder" "B" (.int (0 : Int32))) (uV : Arv Z h0 rv kv .byte (34 : Int32) vv (.int (0 : Int32))) (uk : Fld Z h0 r1 "java/lang/AbstractStringBuilder" "count" "I" (.int (26 : Int32))) :
    MetFree l (⟨"java/lang/String", "<init>", "(Ljava/lang/StringBuilder;)V"⟩ : MethodName) (head1 (Jvm.Cond.code (⟨"java/lang/String", "<init>", "(Ljava/lang/StringBuilder;)V"⟩ : MethodName) jdk_42_method_53_code 2 none :: ws) ({ frames := 4, cells := 1, slots := 26, locals := 65 } : Room)) (fun a U => a = #[(.ref r0), (.ref r1)] ∧ Z.Warmed39 U.vm ∧ U.heap = h0) (fun _ _ _ _ _ => True) (fun _ U o U' => ∃ v L, o = .returned v ∧ Q_rm_si1_26_34 Z r0 r1 zc rv kv vv h0 n0 v U'.heap L ∧ FrameEnd U o U' L ({ frames := 4, cells := 1, slots := 26, locals := 65 } : Room).cells ({ frames := 4, cells := 1, slots := 26, locals := 65 } : Room).slots) := by
  refine MetFree.of_bodySF (plainFor_of_name pn_0) hisR ?_
  intro p e s m args below meth c s₁ Bd hml0 hP hK
  obtain ⟨rfl, hZ, hh⟩ := hP
  have hx := Bd.exec
  have hby := Bd.bytes
  have hml : c.maxLocals = 2 := hml0
  have hown : s.vm.findClass "java/lang/String" = some m.cls := findClass_of_methodNamed Bd.named
  have hnm := (name_of_methodNamed Bd.named Bd.method).1
  have X0 : Stand p l e ({ frames := 4, cells := 1, slots := 26, locals := 65 } : Room) s m #[(.ref r0), (.ref r1)] below meth c s₁ [] 0 0 := Stand.of_body Bd
  have e0 : s₁.heap = h0 := by rw [← hh, Bd.state]; rfl
  have N0 := Fr.nil n0
  have pre0 : ∀ t, Steps p.tables e below (s₁.setTop (mkF m 0 #[vr r0, vr r1] [])) t → Steps p.tables e below (s₁.setTop (entryFrame m #[(.ref r0), (.ref r1)] 2)) t := fun t k => castTop (ef_49 m r0 r1) k
  obtain ⟨_, _, ⟨T1, Lw1, kw1, nw1⟩, -, X1, ⟨Lc1, hQ1, lq1, yq1, zq1⟩, st1⟩ := X0.specialBack hx (y := (⟨"java/lang/String", "<init>", "(Ljava/lang/AbstractStringBuilder;Ljava/lang/Void;)V"⟩ : MethodName)) rfl hown (mvT hZ (wd hw 206 rfl)) (mvT hZ (wd hw 207 rfl)) (mvT hZ (wd hw 208 rfl)) (by decide) (backOf (W := 0) (rm_si2_26_34 l Z a0 hw [] r0 r1 zc rv kv vv h0 n0 Z0 uO uS uP us usv usc ug uE uv uc uV uk) hZ (wd hw 208 rfl) (wd hw 14 rfl) (by decide) (by decide)) (g := (mkF m 3 #[vr r0, vr r1] [.null, (.ref r1), (.ref r0)])) rfl (by rw [hml]; rfl) (Steps.refl _) (a := r0) (argsL := [(.ref r1), .null]) (rest := []) (lenOf pd_20 rfl) rfl (by show 2 * 0 + _ ≤ _; exact Nat.le_of_eq rfl) (hb hby d34_3) (fun _ _ => ⟨rfl, e0, (by decide : 0 + 1 ≤ _), (by decide : 0 + 26 ≤ _)⟩)
  dsimp only [Pt.U, Pt.locs, Pt.cells, Pt.slots] at X1 lq1 yq1 zq1 st1 hQ1
  have X1 := own_reb X1 lq1 yq1 zq1
  obtain ⟨nb_1, nk_1, nv_1, rfl, Nq1, Kq1, f1_0, f1_1, f1_2, f1_3, f1_4⟩ := hQ1
  have N1 := Fr.app N0 Nq1
  have ne_r0_nb_1 : r0 ≠ nb_1 := Nat.ne_of_lt (Nat.lt_of_lt_of_le us.lt f1_2)
  have ne_r1_nb_1 : r1 ≠ nb_1 := Nat.ne_of_lt (Nat.lt_of_lt_of_le uE.lt f1_2)
  have ne_rv_nb_1 : rv ≠ nb_1 := Nat.ne_of_lt (Nat.lt_of_lt_of_le uV.lt f1_2)
  have g_nb_1 : n0 ≤ nb_1 := Nat.le_trans Z0 f1_2
  have sz_nb_1 : h0.size ≤ nb_1 := Nat.le_trans (Keep.refl h0 [r0]).1 f1_2
  have K1 : Keep h0 T1.heap [r0] := (Keep.refl h0 [r0]).trans Kq1 (allS (Or.inl (List.mem_of_getElem? (i := 0) rfl)) all0)
  have Z1 : n0 ≤ T1.heap.size := Nat.le_trans Z0 Kq1.1
  obtain ⟨fs, hr, hrun, hended, hW, hsame⟩ := X1.leave (v := none) (fun _ => rfl)
  refine ⟨_, _, pre0 _ ?_, hrun, hended, _, _, rfl, ?_, ⟨_, rfl⟩, hW, hsame.mono (by decide) (by decide)⟩
  · show SS p e below s₁ (mkF m 0 #[vr r0, vr r1] []) _
    refine XS.aloadN X0.here hx rfl (hb hby d34_0) rfl rfl ?_
    show SS p e below s₁ (mkF m 1 #[vr r0, vr r1] [(.ref r0)]) _
    refine XS.aloadN X0.here hx rfl (hb hby d34_1) rfl rfl ?_
    show SS p e below s₁ (mkF m 2 #[vr r0, vr r1] [(.ref r1), (.ref r0)]) _
    refine XS.aconstNull X0.here hx rfl (hb hby d34_2) ?_
    show SS p e below s₁ (mkF m 3 #[vr r0, vr r1] [.null, (.ref r1), (.ref r0)]) _
    refine st1.trans ?_
    show SS p e below T1 (mkF m 6 #[vr r0, vr r1] []) _
    exact X1.returnOut hx Bd.returns (hb hby d34_6) hr
  · show Q_rm_si1_26_34 Z r0 r1 zc rv kv vv h0 n0 _ T1.heap _
    exact ⟨nb_1, nk_1, nv_1, rfl, N1, K1, f1_0, f1_1, sz_nb_1, f1_3, f1_4⟩
theorem ef_50 (m : MethodId) (x0 : Addr) : entryFrame m #[(.ref x0)] 1 = mkF m 0 #[vr x0] [] := by first | (simp [entryFrame, mkF, argsToLocals, Value.category]; done) | rfl
theorem d33_0 : decode jdk_67_method_42_code 0 = .ok (.new 18, 3) := by decide +kernel
theorem d33_3 : decode jdk_67_method_42_code 3 = .ok (.dup, 1) := by decide +kernel
theorem d33_4 : decode jdk_67_method_42_code 4 = .ok (.aload_n 0, 1) := by decide +kernel
theorem d33_5 : decode jdk_67_method_42_code 5 = .ok (.invokespecial 137, 3) := by decide +kernel
theorem pd_21 : parseMethodDescriptor "(Ljava/lang/StringBuilder;)V" = some ⟨[(.object "java/lang/StringBuilder")], none⟩ := by decide +kernel
theorem d33_8 : decode jdk_67_method_42_code 8 = .ok (.areturn, 1) := by decide +kernel
def Q_rm_tos_26_34 (Z : State) (r0 : Addr) (zc : Int32) (rv : Addr) (kv : ClassId) (vv : List Value) (h0 : Heap) (n0 : Nat) (v : Option Value) (h : Heap) (L : List Loc) : Prop := ∃ (nx : Addr), ∃ (nb : Addr), ∃ (nk : ClassId), ∃ (nv : List Value), (v = some (.ref nx) ∧ Fr n0 L ∧ Keep h0 h [] ∧ h0.size ≤ nx ∧ Exa Z h nx "java/lang/String" ∧ Fld Z h nx "java/lang/String" "coder" "B" (.int (0 : Int32)) ∧ Fld Z h nx "java/lang/String" "value" "[B" (.ref nb) ∧ h0.size ≤ nb ∧ Arv Z h nb nk .byte (26 : Int32) nv (.int (0 : Int32)) ∧ nv.length = 26)
set_option maxRecDepth 65536 in
set_option maxHeartbeats 40000000 in
theorem rm_tos_26_34 (l : Launch) (Z : State) (a0 : Array Value) (hw : ∀ d ∈ tables_1, d.before a0 Z = true) (ws : List Jvm.Cond) (r0 : Addr) (zc : Int32) (rv : Addr) (kv : ClassId) (vv : List Value) (h0 : Heap) (n0 : Nat) (Z0 : n0 ≤ h0.size) (uO : Old Z n0 h0) (uS : Sta Z Z.heap "java/lang/String" "COMPACT_STRINGS" "Z" (.int zc)) (uP : ¬ zc = 0) (uE : Exa Z h0 r0 "java/lang/StringBuilder") (uv : Fld Z h0 r0 "java/lang/AbstractStringBuilder" "value" "[B" (.ref rv)) (uc : Fld Z h0 r0 "java/lang/AbstractStringBuilder" "coder" "B" (.int (0 : Int32))) (uV : Arv Z h0 rv kv .byte (34 : Int32) vv (.int (0 : Int32))) (uk : Fld Z h0 r0 "java/lang/AbstractStringBuilder" "count" "I" (.int (26 : Int32))) :
    MetFree l (⟨"java/lang/StringBuilder", "toString", "()Ljava/lang/String;"⟩ : MethodName) (head1 (Jvm.Cond.code (⟨"java/lang/StringBuilder", "toString", "()Ljava/lang/String;"⟩ : MethodName) jdk_67_method_42_code 1 (some (.object "java/lang/String")) :: ws) ({ frames := 5, cells := 2, slots := 30, locals := 79 } : Room)) (fun a U => a = #[(.ref r0)] ∧ Z.Warmed39 U.vm ∧ U.heap = h0) (fun _ _ _ _ _ => True) (fun _ U o U' => ∃ v L, o = .returned v ∧ Q_rm_tos_26_34 Z r0 zc rv kv vv h0 n0 v U'.heap L ∧ FrameEnd U o U' L ({ frames := 5, cells := 2, slots := 30, locals := 79 } : Room).cells ({ frames := 5, cells := 2, slots := 30, locals := 79 } : Room).slots) := by
  refine MetFree.of_bodySF (plainFor_of_name pn_2) hisR ?_
  intro p e s m args below meth c s₁ Bd hml0 hP hK
  obtain ⟨rfl, hZ, hh⟩ := hP
  have hx := Bd.exec
  have hby := Bd.bytes
  have hml : c.maxLocals = 1 := hml0
  have hown : s.vm.findClass "java/lang/StringBuilder" = some m.cls := findClass_of_methodNamed Bd.named
  have hnm := (name_of_methodNamed Bd.named Bd.method).1
  have X0 : Stand p l e ({ frames := 5, cells := 2, slots := 30, locals := 79 } : Room) s m #[(.ref r0)] below meth c s₁ [] 0 0 := Stand.of_body Bd
  have e0 : s₁.heap = h0 := by rw [← hh, Bd.state]; rfl
  have N0 := Fr.nil n0
  have pre0 : ∀ t, Steps p.tables e below (s₁.setTop (mkF m 0 #[vr r0] [])) t → Steps p.tables e below (s₁.setTop (entryFrame m #[(.ref r0)] 1)) t := fun t k => castTop (ef_50 m r0) k
  obtain ⟨T1, h1, X1, e1, E1, A1, D1, Un1, st1⟩ := newO X0 hx hZ hown (wd hw 201 rfl) (wd hw 15 rfl) (wd hw 14 rfl) e0 (g := (mkF m 0 #[vr r0] [])) rfl (hb hby d33_0) (by decide) (by decide)
  obtain ⟨b1, g1⟩ : ∃ z, z = h0.size := ⟨_, rfl⟩
  rw [← g1] at A1 D1 Un1 st1
  have ne_r0_b1 : r0 ≠ b1 := Nat.ne_of_lt (Nat.lt_of_lt_of_le uE.lt (Nat.le_of_eq g1.symm))
  have ne_rv_b1 : rv ≠ b1 := Nat.ne_of_lt (Nat.lt_of_lt_of_le uV.lt (Nat.le_of_eq g1.symm))
  have F1_value : Fld Z h1 b1 "java/lang/String" "value" "[B" .null := D1 (Or.inr (wd hw 16 rfl)) (ty := (.array .byte)) (by decide)
  have F1_coder : Fld Z h1 b1 "java/lang/String" "coder" "B" (.int (0 : Int32)) := D1 (Or.inr (wd hw 17 rfl)) (ty := .byte) (by decide)
  have g_b1 : n0 ≤ b1 := Nat.le_trans Z0 (Nat.le_of_eq g1.symm)
  have sz_b1 : h0.size ≤ b1 := Nat.le_trans (Keep.refl h0 []).1 (Nat.le_of_eq g1.symm)
  have K1 : Keep h0 h1 [] := (Keep.refl h0 []).ext E1
  have Z1 : n0 ≤ h1.size := Nat.le_trans Z0 E1.1
  have c3 := (uO.ext E1)
  have c4 := (uE.ext E1)
  have c5 := (uv.ext E1)
  have c6 := (uc.ext E1)
  have c7 := (uV.ext E1)
  have c8 := (uk.ext E1)
  obtain ⟨_, _, ⟨T2, Lw2, kw2, nw2⟩, -, X2, ⟨Lc2, hQ2, lq2, yq2, zq2⟩, st2⟩ := X1.specialBack hx (y := (⟨"java/lang/String", "<init>", "(Ljava/lang/StringBuilder;)V"⟩ : MethodName)) rfl hown (mvT hZ (wd hw 202 rfl)) (mvT hZ (wd hw 203 rfl)) (mvT hZ (wd hw 205 rfl)) (by decide) (backOf (W := 1) (rm_si1_26_34 l Z a0 hw [] b1 r0 zc rv kv vv h1 n0 Z1 c3 uS uP A1 F1_value F1_coder g_b1 c4 c5 c6 c7 c8) hZ (wd hw 205 rfl) (wd hw 14 rfl) (by decide) (by decide)) (g := (mkF m 5 #[vr r0] [(.ref r0), (.ref b1), (.ref b1)])) rfl (by rw [hml]; rfl) (Steps.refl _) (a := b1) (argsL := [(.ref r0)]) (rest := [(.ref b1)]) (lenOf pd_21 rfl) rfl (by show 2 * 0 + _ ≤ _; exact Nat.le_of_eq rfl) (hb hby d33_5) (fun _ _ => ⟨rfl, e1, (by decide : 1 + 1 ≤ _), (by decide : 4 + 26 ≤ _)⟩)
  dsimp only [Pt.U, Pt.locs, Pt.cells, Pt.slots] at X2 lq2 yq2 zq2 st2 hQ2
  have X2 := own_reb X2 lq2 yq2 zq2
  obtain ⟨nb_2, nk_2, nv_2, rfl, Nq2, Kq2, f2_0, f2_1, f2_2, f2_3, f2_4⟩ := hQ2
  have N2 := Fr.app N0 Nq2
  have ne_r0_nb_2 : r0 ≠ nb_2 := Nat.ne_of_lt (Nat.lt_of_lt_of_le c4.lt f2_2)
  have ne_rv_nb_2 : rv ≠ nb_2 := Nat.ne_of_lt (Nat.lt_of_lt_of_le c7.lt f2_2)
  have ne_b1_nb_2 : b1 ≠ nb_2 := Nat.ne_of_lt (Nat.lt_of_lt_of_le A1.lt f2_2)
  have g_nb_2 : n0 ≤ nb_2 := Nat.le_trans Z1 f2_2
  have sz_nb_2 : h0.size ≤ nb_2 := Nat.le_trans K1.1 f2_2
  have K2 : Keep h0 T2.heap [] := K1.trans Kq2 (allS (Or.inr sz_b1) all0)
  have Z2 : n0 ≤ T2.heap.size := Nat.le_trans Z1 Kq2.1
  have c9 := (A1.keep Kq2)
  obtain ⟨fs, hr, hrun, hended, hW, hsame⟩ := X2.leave (v := some (.ref b1)) (fun h => by rw [Bd.returns] at h; cases h)
  refine ⟨_, _, pre0 _ ?_, hrun, hended, _, _, rfl, ?_, ⟨_, rfl⟩, hW, hsame.mono (by decide) (by decide)⟩
  · show SS p e below s₁ (mkF m 0 #[vr r0] []) _
    refine st1 _ ?_
    show SS p e below T1 (mkF m 3 #[vr r0] [(.ref b1)]) _
    refine XS.dup X1.here hx rfl (hb hby d33_3) rfl rfl ?_
    show SS p e below T1 (mkF m 4 #[vr r0] [(.ref b1), (.ref b1)]) _
    refine XS.aloadN X1.here hx rfl (hb hby d33_4) rfl rfl ?_
    show SS p e below T1 (mkF m 5 #[vr r0] [(.ref r0), (.ref b1), (.ref b1)]) _
    refine st2.trans ?_
    show SS p e below T2 (mkF m 8 #[vr r0] [(.ref b1)]) _
    exact retOut X2 hx Bd.returns rfl (Or.inr (Or.inr (Or.inr (Or.inr ⟨rfl, rfl, rfl⟩)))) (hb hby d33_8) hr
  · show Q_rm_tos_26_34 Z r0 zc rv kv vv h0 n0 _ T2.heap _
    exact ⟨b1, nb_2, nk_2, nv_2, rfl, N2, K2, sz_b1, c9, f2_0, f2_1, sz_nb_2, f2_3, f2_4⟩
theorem ef_51 (m : MethodId) (x0 : Addr) (x1 : Addr) (x2 : Int32) : entryFrame m #[(.ref x0), (.ref x1), (.int x2)] 3 = mkF m 0 #[vr x0, vr x1, vi x2] [] := by first | (simp [entryFrame, mkF, argsToLocals, Value.category]; done) | rfl
theorem pn_13 : plainName "com/example/wireform/wireform/amf3/AmfDecodeException" = true := by first | (simp [plainName, overriddenIn]; done) | decide +kernel
theorem d12_0 : decode prog_13_method_1_code 0 = .ok (.aload_n 0, 1) := by decide +kernel
theorem d12_1 : decode prog_13_method_1_code 1 = .ok (.new 1, 3) := by decide +kernel
theorem d12_4 : decode prog_13_method_1_code 4 = .ok (.dup, 1) := by decide +kernel
theorem d12_5 : decode prog_13_method_1_code 5 = .ok (.invokespecial 3, 3) := by decide +kernel
theorem pd_22 : parseMethodDescriptor "()V" = some ⟨[], none⟩ := by decide +kernel
theorem d12_8 : decode prog_13_method_1_code 8 = .ok (.aload_n 1, 1) := by decide +kernel
theorem d12_9 : decode prog_13_method_1_code 9 = .ok (.invokevirtual 7, 3) := by decide +kernel
theorem pd_23 : parseMethodDescriptor "(Ljava/lang/String;)Ljava/lang/StringBuilder;" = some ⟨[(.object "java/lang/String")], some (.object "java/lang/StringBuilder")⟩ := by decide +kernel
theorem d12_12 : decode prog_13_method_1_code 12 = .ok (.ldc 11, 2) := by decide +kernel
theorem d12_14 : decode prog_13_method_1_code 14 = .ok (.invokevirtual 7, 3) := by decide +kernel
theorem d12_17 : decode prog_13_method_1_code 17 = .ok (.iload_n 2, 1) := by decide +kernel
theorem d12_18 : decode prog_13_method_1_code 18 = .ok (.invokevirtual 13, 3) := by decide +kernel
theorem pd_24 : parseMethodDescriptor "(I)Ljava/lang/StringBuilder;" = some ⟨[.int], some (.object "java/lang/StringBuilder")⟩ := by decide +kernel
theorem d12_21 : decode prog_13_method_1_code 21 = .ok (.ldc 16, 2) := by decide +kernel
theorem d12_23 : decode prog_13_method_1_code 23 = .ok (.invokevirtual 7, 3) := by decide +kernel
theorem d12_26 : decode prog_13_method_1_code 26 = .ok (.invokevirtual 18, 3) := by decide +kernel
theorem pd_25 : parseMethodDescriptor "()Ljava/lang/String;" = some ⟨[], some (.object "java/lang/String")⟩ := by decide +kernel
theorem d12_29 : decode prog_13_method_1_code 29 = .ok (.iload_n 2, 1) := by decide +kernel
theorem d12_30 : decode prog_13_method_1_code 30 = .ok (.invokespecial 22, 3) := by decide +kernel
theorem pd_26 : parseMethodDescriptor "(Ljava/lang/String;I)V" = some ⟨[(.object "java/lang/String"), .int], none⟩ := by decide +kernel
theorem d12_33 : decode prog_13_method_1_code 33 = .ok (.return_, 1) := by decide +kernel
def Q_rmY (Z : State) (r0 : Addr) (r1 : Addr) (p2 : Int32) (zc : Int32) (vu : Value) (vq : Value) (dg : Addr) (kd : ClassId) (rt : Addr) (kt : ClassId) (vt : List Value) (h0 : Heap) (n0 : Nat) (v : Option Value) (h : Heap) (L : List Loc) : Prop := (v = none ∧ Fr n0 L ∧ Keep h0 h [r0] ∧ Fld Z h r0 "com/example/wireform/wireform/mapping/DecodeException" "offset" "I" (.int p2))
set_option maxRecDepth 65536 in
set_option maxHeartbeats 40000000 in
theorem rmY (l : Launch) (Z : State) (a0 : Array Value) (hw : ∀ d ∈ tables_1, d.before a0 Z = true) (ws : List Jvm.Cond) (r0 : Addr) (r1 : Addr) (p2 : Int32) (zc : Int32) (vu : Value) (vq : Value) (dg : Addr) (kd : ClassId) (rt : Addr) (kt : ClassId) (vt : List Value) (h0 : Heap) (n0 : Nat) (Z0 : n0 ≤ h0.size) (uO : Old Z n0 h0) (uS : Sta Z Z.heap "java/lang/String" "COMPACT_STRINGS" "Z" (.int zc)) (uP : ¬ zc = 0) (uLt : l.stackTraces = true) (uZu : Sta Z Z.heap "java/lang/Throwable" "UNASSIGNED_STACK" "[Ljava/lang/StackTraceElement;" vu) (uRu : vu.isRef = true) (uZs : Sta Z Z.heap "java/lang/Throwable" "SUPPRESSED_SENTINEL" "Ljava/util/List;" vq) (uRs : vq.isRef = true) (uD : Sta Z Z.heap "java/lang/Integer" "DigitOnes" "[B" (.ref dg)) (uDV : Arv Z Z.heap dg kd .byte (100 : Int32) own_ones (.int (0 : Int32))) (uE : Exa Z h0 r0 "com/example/wireform/wireform/amf3/AmfDecodeException") (uU : Unt h0 r0) (uca : Fld Z h0 r0 "java/lang/Throwable" "cause" "Ljava/lang/Throwable;" .null) (ust : Fld Z h0 r0 "java/lang/Throwable" "stackTrace" "[Ljava/lang/StackTraceElement;" .null) (usu : Fld Z h0 r0 "java/lang/Throwable" "suppressedExceptions" "Ljava/util/List;" .null) (ubt : Fld Z h0 r0 "java/lang/Throwable" "backtrace" "Ljava/lang/Object;" .null) (udm : Fld Z h0 r0 "java/lang/Throwable" "detailMessage" "Ljava/lang/String;" .null) (ux0 : Fld Z h0 r0 "com/example/wireform/wireform/mapping/DecodeException" "offset" "I" (.int (0 : Int32))) (ug : n0 ≤ r0) (us : Exa Z h0 r1 "java/lang/String") (usv : Fld Z h0 r1 "java/lang/String" "value" "[B" (.ref rt)) (usc : Fld Z h0 r1 "java/lang/String" "coder" "B" (.int (0 : Int32))) (usV : Arv Z h0 rt kt .byte (1 : Int32) vt (.int (0 : Int32))) (u0 : ¬ p2 < 0) (u9 : (-10 : Int32) < (-p2)) (u99 : (-100 : Int32) < (-p2)) (u8 : ¬ (-p2) < (-9 : Int32)) (u100 : p2 < (100 : Int32)) :
    MetFree l (⟨"com/example/wireform/wireform/amf3/AmfDecodeException", "<init>", "(Ljava/lang/String;I)V"⟩ : MethodName) (head1 (Jvm.Cond.code (⟨"com/example/wireform/wireform/amf3/AmfDecodeException", "<init>", "(Ljava/lang/String;I)V"⟩ : MethodName) prog_13_method_1_code 3 none :: ws) ({ frames := 7, cells := 10, slots := 2940, locals := 95 } : Room)) (fun a U => a = #[(.ref r0), (.ref r1), (.int p2)] ∧ Z.Warmed39 U.vm ∧ U.heap = h0 ∧ CHv Z own_EL U.vm h0) (fun _ _ bl s _ => s.vm.MethodsKnown ∧ s.vm.FramesKnown bl) (fun _ U o U' => ∃ v L, o = .returned v ∧ Q_rmY Z r0 r1 p2 zc vu vq dg kd rt kt vt h0 n0 v U'.heap L ∧ CHr Z own_EL U.vm U.heap U'.vm U'.heap ∧ ReturnedEndW U o U' L ({ frames := 7, cells := 10, slots := 2940, locals := 95 } : Room).cells ({ frames := 7, cells := 10, slots := 2940, locals := 95 } : Room).slots) := by
  refine MetFree.of_bodySF (plainFor_of_name pn_13) hisR ?_
  intro p e s m args below meth c s₁ Bd hml0 hP hK
  obtain ⟨rfl, hZ, hh, hC0⟩ := hP
  have hx := Bd.exec
  have hby := Bd.bytes
  have hml : c.maxLocals = 3 := hml0
  have hown : s.vm.findClass "com/example/wireform/wireform/amf3/AmfDecodeException" = some m.cls := findClass_of_methodNamed Bd.named
  have hnm := (name_of_methodNamed Bd.named Bd.method).1
  have X0 : Stand p l e ({ frames := 7, cells := 10, slots := 2940, locals := 95 } : Room) (s.setVm s.vm) m #[(.ref r0), (.ref r1), (.int p2)] below meth c s₁ [] 0 0 := Stand.of_body Bd
  have e0 : s₁.heap = h0 := by rw [← hh, Bd.state]; rfl
  have N0 := Fr.nil n0
  have pre0 : ∀ t, Steps p.tables e below (s₁.setTop (mkF m 0 #[vr r0, vr r1, vi p2] [])) t → Steps p.tables e below (s₁.setTop (entryFrame m #[(.ref r0), (.ref r1), (.int p2)] 3)) t := fun t k => castTop (ef_51 m r0 r1 p2) k
  have hS0 : s.Since s.vm 0 := (State.WarmedH.refl s).since _
  have hk0 : 0 ≤ h0.size := Nat.zero_le _
  have R0 := CHr.refl hC0
  obtain ⟨T1, h1, X1, e1, E1, A1, D1, Un1, st1⟩ := newO X0 hx hZ hown (wd hw 82 rfl) (wd hw 83 rfl) (wd hw 84 rfl) e0 (g := (mkF m 1 #[vr r0, vr r1, vi p2] [(.ref r0)])) rfl (hb hby d12_1) (by decide) (by decide)
  obtain ⟨b1, g1⟩ : ∃ z, z = h0.size := ⟨_, rfl⟩
  rw [← g1] at A1 D1 Un1 st1
  have ne_r0_b1 : r0 ≠ b1 := Nat.ne_of_lt (Nat.lt_of_lt_of_le uE.lt (Nat.le_of_eq g1.symm))
  have ne_r1_b1 : r1 ≠ b1 := Nat.ne_of_lt (Nat.lt_of_lt_of_le us.lt (Nat.le_of_eq g1.symm))
  have ne_rt_b1 : rt ≠ b1 := Nat.ne_of_lt (Nat.lt_of_lt_of_le usV.lt (Nat.le_of_eq g1.symm))
  have Re2 := R0.trans (CHr.ext E1 hC0)
  have hCe2 := Re2.1
  have Ut1 : Unt h1 b1 := Un1
  have F1_value : Fld Z h1 b1 "java/lang/AbstractStringBuilder" "value" "[B" .null := D1 (Or.inl (wd hw 97 rfl)) (ty := (.array .byte)) (by decide)
  have F1_coder : Fld Z h1 b1 "java/lang/AbstractStringBuilder" "coder" "B" (.int (0 : Int32)) := D1 (Or.inl (wd hw 99 rfl)) (ty := .byte) (by decide)
  have F1_count : Fld Z h1 b1 "java/lang/AbstractStringBuilder" "count" "I" (.int (0 : Int32)) := D1 (Or.inl (wd hw 124 rfl)) (ty := .int) (by decide)
  have g_b1 : n0 ≤ b1 := Nat.le_trans Z0 (Nat.le_of_eq g1.symm)
  have sz_b1 : h0.size ≤ b1 := Nat.le_trans (Keep.refl h0 [r0]).1 (Nat.le_of_eq g1.symm)
  have K1 : Keep h0 h1 [r0] := (Keep.refl h0 [r0]).ext E1
  have Z1 : n0 ≤ h1.size := Nat.le_trans Z0 E1.1
  have hk1 : _ ≤ h1.size := Nat.le_trans hk0 E1.1
  have c4 := (uO.ext E1)
  obtain ⟨_, _, ⟨T3, Lw3, kw3, nw3⟩, -, X3, ⟨Lc3, hQ3, lq3, yq3, zq3⟩, st3⟩ := X1.specialBack hx (y := (⟨"java/lang/StringBuilder", "<init>", "()V"⟩ : MethodName)) rfl hown (mvT hZ (wd hw 85 rfl)) (mvT hZ (wd hw 86 rfl)) (mvT hZ (wd hw 87 rfl)) (by decide) (backOf (W := 2) (rmSB l Z a0 hw [] b1 zc h1 n0 Z1 c4 uS uP A1 F1_value F1_coder F1_count g_b1) hZ (wd hw 87 rfl) (wd hw 84 rfl) (by decide) (by decide)) (g := (mkF m 5 #[vr r0, vr r1, vi p2] [(.ref b1), (.ref b1), (.ref r0)])) rfl (by rw [hml]; rfl) (Steps.refl _) (a := b1) (argsL := []) (rest := [(.ref b1), (.ref r0)]) (lenOf pd_22 rfl) rfl (by show 2 * 0 + _ ≤ _; exact Nat.le_of_eq rfl) (hb hby d12_5) (fun _ _ => ⟨rfl, e1, (by decide : 1 + 1 ≤ _), (by decide : 4 + 16 ≤ _)⟩)
  dsimp only [Pt.U, Pt.locs, Pt.cells, Pt.slots] at X3 lq3 yq3 zq3 st3 hQ3
  have X3 := own_reb X3 lq3 yq3 zq3
  obtain ⟨nb_3, nk_3, rfl, Nq3, Kq3, f3_0, f3_1, f3_2, f3_3, f3_4, f3_5⟩ := hQ3
  have N3 := Fr.app N0 Nq3
  have c5 := (uE.ext E1)
  have ne_r0_nb_3 : r0 ≠ nb_3 := Nat.ne_of_lt (Nat.lt_of_lt_of_le c5.lt f3_3)
  have c6 := (us.ext E1)
  have ne_r1_nb_3 : r1 ≠ nb_3 := Nat.ne_of_lt (Nat.lt_of_lt_of_le c6.lt f3_3)
  have c7 := (usV.ext E1)
  have ne_rt_nb_3 : rt ≠ nb_3 := Nat.ne_of_lt (Nat.lt_of_lt_of_le c7.lt f3_3)
  have ne_b1_nb_3 : b1 ≠ nb_3 := Nat.ne_of_lt (Nat.lt_of_lt_of_le A1.lt f3_3)
  have g_nb_3 : n0 ≤ nb_3 := Nat.le_trans Z1 f3_3
  have sz_nb_3 : h0.size ≤ nb_3 := Nat.le_trans K1.1 f3_3
  have Re8 := Re2.trans (CHr.keep Kq3 (allS (Safe.exa hZ.alike A1 (by decide) (by decide)) all0) hCe2)
  have hCe8 := Re8.1
  have sf_nb_3 := Safe.keep Kq3 (allS (Safe.exa hZ.alike A1 (by decide) (by decide)) all0) hCe2 (Safe.new f3_3)
  have K3 : Keep h0 T3.heap [r0] := K1.trans Kq3 (allS (Or.inr sz_b1) all0)
  have Z3 : n0 ≤ T3.heap.size := Nat.le_trans Z1 Kq3.1
  have hk3 : _ ≤ T3.heap.size := Nat.le_trans hk1 Kq3.1
  have c10 := (c4.keep Kq3 (allS g_b1 all0))
  have c11 := (A1.keep Kq3)
  have c12 := ((us.ext E1).keep Kq3)
  have c13 := ((usv.ext E1).keep Kq3 (ninS ne_r1_b1 nin0))
  have c14 := ((usc.ext E1).keep Kq3 (ninS ne_r1_b1 nin0))
  have c15 := ((usV.ext E1).keep Kq3 (ninS ne_rt_b1 nin0))
  obtain ⟨cq9, kq9, q9a, q9b, q9c⟩ := isOf hZ rfl c11
  obtain ⟨_, _, ⟨T9, Lw9, kw9, nw9⟩, -, X9, ⟨Lc9, hQ9, lq9, yq9, zq9⟩, st9⟩ := X3.virtualBack hx (y := (⟨"java/lang/StringBuilder", "append", "(Ljava/lang/String;)Ljava/lang/StringBuilder;"⟩ : MethodName)) (z := (⟨"java/lang/StringBuilder", "append", "(Ljava/lang/String;)Ljava/lang/StringBuilder;"⟩ : MethodName)) hown (mvT hZ (wd hw 100 rfl)) (mvT hZ (wd hw 101 rfl)) (notFace_of_selects (args := #[]) (mvT hZ (wd hw 103 rfl))) (mvT hZ (wd hw 103 rfl)) (mvT hZ (wd hw 102 rfl)) (by decide) (backOf (W := 1) (rm_app_sb_0_1_16 l Z a0 hw [] b1 r1 zc nb_3 nk_3 [(.int (0 : Int32)), (.int (0 : Int32)), (.int (0 : Int32)), (.int (0 : Int32)), (.int (0 : Int32)), (.int (0 : Int32)), (.int (0 : Int32)), (.int (0 : Int32)), (.int (0 : Int32)), (.int (0 : Int32)), (.int (0 : Int32)), (.int (0 : Int32)), (.int (0 : Int32)), (.int (0 : Int32)), (.int (0 : Int32)), (.int (0 : Int32))] rt kt vt T3.heap n0 Z3 c10 uS uP c11 f3_0 f3_1 f3_5 rfl f3_2 c12 c13 c14 c15 g_b1 g_nb_3) hZ (wd hw 104 rfl) (wd hw 84 rfl) (by decide) (by decide)) q9a q9c (g := (mkF m 9 #[vr r0, vr r1, vi p2] [(.ref r1), (.ref b1), (.ref r0)])) rfl (by rw [hml]; rfl) (Steps.refl _) (argsL := [(.ref r1)]) (rest := [(.ref r0)]) (lenOf pd_23 rfl) rfl (by show 2 * 0 + _ ≤ _; exact Nat.le_of_eq rfl) (hb hby d12_9) (fun _ _ => ⟨rfl, rfl, (by decide : 2 + 0 ≤ _), (by decide : 20 + 0 ≤ _)⟩)
  dsimp only [Pt.U, Pt.locs, Pt.cells, Pt.slots] at X9 lq9 yq9 zq9 st9 hQ9
  have X9 := own_reb X9 lq9 yq9 zq9
  obtain ⟨nv_9, rfl, Nq9, Kq9, f9_0, f9_1, f9_2, f9_3, f9_4⟩ := hQ9
  have N9 := Fr.app N3 Nq9
  have Re16 := Re8.trans (CHr.keep Kq9 (allS (Safe.exa hZ.alike c11 (by decide) (by decide)) (allS sf_nb_3 all0)) hCe8)
  have hCe16 := Re16.1
  have K9 : Keep h0 T9.heap [r0] := K3.trans Kq9 (allS (Or.inr sz_b1) (allS (Or.inr sz_nb_3) all0))
  have Z9 : n0 ≤ T9.heap.size := Nat.le_trans Z3 Kq9.1
  have hk9 : _ ≤ T9.heap.size := Nat.le_trans hk3 Kq9.1
  obtain ⟨b17, T17, h17, kk17, t17, kc17, X17, e17, E17, hS17, hk17, hZ17, hown17, fE17, fC17, fV17, fK17, lta17, ltb17, CH17, -, SF17, st17⟩ := ldcCH X9 hx hZ hown (wd hw 150 rfl) (fun d hd => hw d (own_strAtoms d hd)) rfl hS0 hk9 (own_EW hw) (by decide) hCe16 (vs := [(.int (32 : Int32)), (.int (40 : Int32)), (.int (118 : Int32)), (.int (97 : Int32)), (.int (108 : Int32)), (.int (117 : Int32)), (.int (101 : Int32)), (.int (32 : Int32)), (.int (97 : Int32)), (.int (116 : Int32)), (.int (32 : Int32)), (.int (98 : Int32)), (.int (121 : Int32)), (.int (116 : Int32)), (.int (101 : Int32)), (.int (32 : Int32)), (.int (111 : Int32)), (.int (102 : Int32)), (.int (102 : Int32)), (.int (115 : Int32)), (.int (101 : Int32)), (.int (116 : Int32)), (.int (32 : Int32))]) (z := (23 : Int32)) ⟨by decide, by decide⟩ (by decide) (by decide) (g := (mkF m 12 #[vr r0, vr r1, vi p2] [(.ref b1), (.ref r0)])) rfl (hb hby d12_12) (n := 92) (by decide) (by decide) (by decide) (by decide)
  have Re18 := Re16.trans CH17
  have hCe18 := Re18.1
  have c19 := ((((uE.ext E1).keep Kq3).keep Kq9).ext E17)
  have nlr0_17 := SF17 r0 (Safe.exa hZ17.alike c19 (by decide) (by decide))
  have c20 := ((c11.keep Kq9).ext E17)
  have nlb1_17 := SF17 b1 (Safe.exa hZ17.alike c20 (by decide) (by decide))
  have c21 := (f3_4.keep Kq9)
  have c22 := (CHr.safe CH17 c21.lt (Safe.keep Kq9 (allS (Safe.exa hZ.alike c11 (by decide) (by decide)) (allS sf_nb_3 all0)) hCe8 sf_nb_3))
  have nlnb_3_17 := SF17 nb_3 c22
  have K17 : Keep h0 h17 [r0] := K9.ext E17
  have Z17 : n0 ≤ h17.size := Nat.le_trans Z9 E17.1
  have c24 := ((c10.keep Kq9 (allS g_b1 (allS g_nb_3 all0))).ext E17)
  have c25 := (f9_0.ext E17)
  have c26 := (f9_1.ext E17)
  have c27 := (f9_3.ext E17)
  have c28 := (f9_2.ext E17)
  obtain ⟨cq23, kq23, q23a, q23b, q23c⟩ := isOf hZ17 e17 c20
  obtain ⟨_, _, ⟨T23, Lw23, kw23, nw23⟩, -, X23, ⟨Lc23, hQ23, lq23, yq23, zq23⟩, st23⟩ := X17.virtualBack hx (y := (⟨"java/lang/StringBuilder", "append", "(Ljava/lang/String;)Ljava/lang/StringBuilder;"⟩ : MethodName)) (z := (⟨"java/lang/StringBuilder", "append", "(Ljava/lang/String;)Ljava/lang/StringBuilder;"⟩ : MethodName)) hown17 (mvT hZ17 (wd hw 100 rfl)) (mvT hZ17 (wd hw 101 rfl)) (notFace_of_selects (args := #[]) (mvT hZ17 (wd hw 103 rfl))) (mvT hZ17 (wd hw 103 rfl)) (mvT hZ17 (wd hw 102 rfl)) (by decide) (backOf (W := 1) (rm_app_sb_1_23_16 l Z a0 hw [] b1 b17 zc nb_3 nk_3 nv_9 t17 kc17 [(.int (32 : Int32)), (.int (40 : Int32)), (.int (118 : Int32)), (.int (97 : Int32)), (.int (108 : Int32)), (.int (117 : Int32)), (.int (101 : Int32)), (.int (32 : Int32)), (.int (97 : Int32)), (.int (116 : Int32)), (.int (32 : Int32)), (.int (98 : Int32)), (.int (121 : Int32)), (.int (116 : Int32)), (.int (101 : Int32)), (.int (32 : Int32)), (.int (111 : Int32)), (.int (102 : Int32)), (.int (102 : Int32)), (.int (115 : Int32)), (.int (101 : Int32)), (.int (116 : Int32)), (.int (32 : Int32))] h17 n0 Z17 c24 uS uP c20 c25 c26 c27 f9_4 c28 fE17 fV17 fC17 fK17 g_b1 g_nb_3) hZ17 (wd hw 104 rfl) (wd hw 84 rfl) (by decide) (by decide)) q23a q23c (g := (mkF m 14 #[vr r0, vr r1, vi p2] [(.ref b17), (.ref b1), (.ref r0)])) rfl (by rw [hml]; rfl) (Steps.refl _) (argsL := [(.ref b17)]) (rest := [(.ref r0)]) (lenOf pd_23 rfl) rfl (by show 2 * 0 + _ ≤ _; exact Nat.le_of_eq rfl) (hb hby d12_14) (fun _ _ => ⟨rfl, e17, (by decide : 4 + 1 ≤ _), (by decide : 116 + 34 ≤ _)⟩)
  dsimp only [Pt.U, Pt.locs, Pt.cells, Pt.slots] at X23 lq23 yq23 zq23 st23 hQ23
  have X23 := own_reb X23 lq23 yq23 zq23
  obtain ⟨nb_23, nk_23, nv_23, rfl, Nq23, Kq23, f23_0, f23_1, f23_2, f23_3, f23_4, f23_5, f23_6⟩ := hQ23
  have N23 := Fr.app N9 Nq23
  have ne_r0_nb_23 : r0 ≠ nb_23 := Nat.ne_of_lt (Nat.lt_of_lt_of_le c19.lt f23_3)
  have c29 := ((c12.keep Kq9).ext E17)
  have ne_r1_nb_23 : r1 ≠ nb_23 := Nat.ne_of_lt (Nat.lt_of_lt_of_le c29.lt f23_3)
  have c30 := ((c15.keep Kq9 (ninS ne_rt_b1 (ninS ne_rt_nb_3 nin0))).ext E17)
  have ne_rt_nb_23 : rt ≠ nb_23 := Nat.ne_of_lt (Nat.lt_of_lt_of_le c30.lt f23_3)
  have ne_b1_nb_23 : b1 ≠ nb_23 := Nat.ne_of_lt (Nat.lt_of_lt_of_le c20.lt f23_3)
  have c31 := ((f3_4.keep Kq9).ext E17)
  have ne_nb_3_nb_23 : nb_3 ≠ nb_23 := Nat.ne_of_lt (Nat.lt_of_lt_of_le c31.lt f23_3)
  have ne_b17_nb_23 : b17 ≠ nb_23 := Nat.ne_of_lt (Nat.lt_of_lt_of_le fE17.lt f23_3)
  have ne_t17_nb_23 : t17 ≠ nb_23 := Nat.ne_of_lt (Nat.lt_of_lt_of_le fK17.lt f23_3)
  have g_nb_23 : n0 ≤ nb_23 := Nat.le_trans Z17 f23_3
  have sz_nb_23 : h0.size ≤ nb_23 := Nat.le_trans K17.1 f23_3
  have Re32 := Re18.trans (CHr.keep Kq23 (allS (Safe.exa hZ17.alike c20 (by decide) (by decide)) all0) hCe18)
  have hCe32 := Re32.1
  have sf_nb_23 := Safe.keep Kq23 (allS (Safe.exa hZ17.alike c20 (by decide) (by decide)) all0) hCe18 (Safe.new f23_3)
  have K23 : Keep h0 T23.heap [r0] := K17.trans Kq23 (allS (Or.inr sz_b1) all0)
  have Z23 : n0 ≤ T23.heap.size := Nat.le_trans Z17 Kq23.1
  have hk23 : _ ≤ T23.heap.size := Nat.le_trans hk17 Kq23.1
  have c34 := (c24.keep Kq23 (allS g_b1 all0))
  have c35 := (c20.keep Kq23)
  obtain ⟨cq33, kq33, q33a, q33b, q33c⟩ := isOf hZ17 rfl c35
  obtain ⟨_, _, ⟨T33, Lw33, kw33, nw33⟩, -, X33, ⟨Lc33, hQ33, lq33, yq33, zq33⟩, st33⟩ := X23.virtualBack hx (y := (⟨"java/lang/StringBuilder", "append", "(I)Ljava/lang/StringBuilder;"⟩ : MethodName)) (z := (⟨"java/lang/StringBuilder", "append", "(I)Ljava/lang/StringBuilder;"⟩ : MethodName)) hown17 (mvT hZ17 (wd hw 173 rfl)) (mvT hZ17 (wd hw 174 rfl)) (notFace_of_selects (args := #[]) (mvT hZ17 (wd hw 176 rfl))) (mvT hZ17 (wd hw 176 rfl)) (mvT hZ17 (wd hw 175 rfl)) (by decide) (backOf (W := 1) (rm_appd_sb_24_34 l Z a0 hw [] b1 p2 zc dg kd nb_23 nk_23 nv_23 T23.heap n0 Z23 c34 uS uP uD uDV u0 u9 u99 u8 u100 c35 f23_0 f23_1 f23_5 f23_6 f23_2 g_b1 g_nb_23) hZ17 (wd hw 177 rfl) (wd hw 84 rfl) (by decide) (by decide)) q33a q33c (g := (mkF m 18 #[vr r0, vr r1, vi p2] [(.int p2), (.ref b1), (.ref r0)])) rfl (by rw [hml]; rfl) (Steps.refl _) (argsL := [(.int p2)]) (rest := [(.ref r0)]) (lenOf pd_24 rfl) rfl (by show 2 * 0 + _ ≤ _; exact Nat.le_of_eq rfl) (hb hby d12_18) (fun _ _ => ⟨rfl, rfl, (by decide : 5 + 0 ≤ _), (by decide : 150 + 0 ≤ _)⟩)
  dsimp only [Pt.U, Pt.locs, Pt.cells, Pt.slots] at X33 lq33 yq33 zq33 st33 hQ33
  have X33 := own_reb X33 lq33 yq33 zq33
  obtain ⟨nv_33, rfl, Nq33, Kq33, f33_0, f33_1, f33_2, f33_3, f33_4⟩ := hQ33
  have N33 := Fr.app N23 Nq33
  have Re36 := Re32.trans (CHr.keep Kq33 (allS (Safe.exa hZ17.alike c35 (by decide) (by decide)) (allS sf_nb_23 all0)) hCe32)
  have hCe36 := Re36.1
  have K33 : Keep h0 T33.heap [r0] := K23.trans Kq33 (allS (Or.inr sz_b1) (allS (Or.inr sz_nb_23) all0))
  have Z33 : n0 ≤ T33.heap.size := Nat.le_trans Z23 Kq33.1
  have hk33 : _ ≤ T33.heap.size := Nat.le_trans hk23 Kq33.1
  obtain ⟨b37, T37, h37, kk37, t37, kc37, X37, e37, E37, hS37, hk37, hZ37, hown37, fE37, fC37, fV37, fK37, lta37, ltb37, CH37, -, SF37, st37⟩ := ldcCH X33 hx hZ17 hown17 (wd hw 195 rfl) (fun d hd => hw d (own_strAtoms d hd)) rfl hS17 hk33 (own_EW hw) (by decide) hCe36 (vs := [(.int (41 : Int32))]) (z := (1 : Int32)) ⟨by decide, by decide⟩ (by decide) (by decide) (g := (mkF m 21 #[vr r0, vr r1, vi p2] [(.ref b1), (.ref r0)])) rfl (hb hby d12_21) (n := 4) (by decide) (by decide) (by decide) (by decide)
  have Re38 := Re36.trans CH37
  have hCe38 := Re38.1
  have c39 := (((c19.keep Kq23).keep Kq33).ext E37)
  have nlr0_37 := SF37 r0 (Safe.exa hZ37.alike c39 (by decide) (by decide))
  have c40 := ((c35.keep Kq33).ext E37)
  have nlb1_37 := SF37 b1 (Safe.exa hZ37.alike c40 (by decide) (by decide))
  have c41 := ((((f3_4.keep Kq9).ext E17).keep Kq23).keep Kq33)
  have c42 := (CHr.safe CH37 c41.lt (Safe.keep Kq33 (allS (Safe.exa hZ17.alike c35 (by decide) (by decide)) (allS sf_nb_23 all0)) hCe32 (Safe.keep Kq23 (allS (Safe.exa hZ17.alike c20 (by decide) (by decide)) all0) hCe18 c22)))
  have nlnb_3_37 := SF37 nb_3 c42
  have c43 := (f23_4.keep Kq33)
  have c44 := (CHr.safe CH37 c43.lt (Safe.keep Kq33 (allS (Safe.exa hZ17.alike c35 (by decide) (by decide)) (allS sf_nb_23 all0)) hCe32 sf_nb_23))
  have nlnb_23_37 := SF37 nb_23 c44
  have K37 : Keep h0 h37 [r0] := K33.ext E37
  have Z37 : n0 ≤ h37.size := Nat.le_trans Z33 E37.1
  have c46 := ((c34.keep Kq33 (allS g_b1 (allS g_nb_23 all0))).ext E37)
  have c47 := (f33_0.ext E37)
  have c48 := (f33_1.ext E37)
  have c49 := (f33_3.ext E37)
  have c50 := (f33_2.ext E37)
  obtain ⟨cq45, kq45, q45a, q45b, q45c⟩ := isOf hZ37 e37 c40
  obtain ⟨_, _, ⟨T45, Lw45, kw45, nw45⟩, -, X45, ⟨Lc45, hQ45, lq45, yq45, zq45⟩, st45⟩ := X37.virtualBack hx (y := (⟨"java/lang/StringBuilder", "append", "(Ljava/lang/String;)Ljava/lang/StringBuilder;"⟩ : MethodName)) (z := (⟨"java/lang/StringBuilder", "append", "(Ljava/lang/String;)Ljava/lang/StringBuilder;"⟩ : MethodName)) hown37 (mvT hZ37 (wd hw 100 rfl)) (mvT hZ37 (wd hw 101 rfl)) (notFace_of_selects (args := #[]) (mvT hZ37 (wd hw 103 rfl))) (mvT hZ37 (wd hw 103 rfl)) (mvT hZ37 (wd hw 102 rfl)) (by decide) (backOf (W := 1) (rm_app_sb_25_1_34 l Z a0 hw [] b1 b37 zc nb_23 nk_23 nv_33 t37 kc37 [(.int (41 : Int32))] h37 n0 Z37 c46 uS uP c40 c47 c48 c49 f33_4 c50 fE37 fV37 fC37 fK37 g_b1 g_nb_23) hZ37 (wd hw 104 rfl) (wd hw 84 rfl) (by decide) (by decide)) q45a q45c (g := (mkF m 23 #[vr r0, vr r1, vi p2] [(.ref b37), (.ref b1), (.ref r0)])) rfl (by rw [hml]; rfl) (Steps.refl _) (argsL := [(.ref b37)]) (rest := [(.ref r0)]) (lenOf pd_23 rfl) rfl (by show 2 * 0 + _ ≤ _; exact Nat.le_of_eq rfl) (hb hby d12_23) (fun _ _ => ⟨rfl, e37, (by decide : 7 + 0 ≤ _), (by decide : 158 + 0 ≤ _)⟩)
  dsimp only [Pt.U, Pt.locs, Pt.cells, Pt.slots] at X45 lq45 yq45 zq45 st45 hQ45
  have X45 := own_reb X45 lq45 yq45 zq45
  obtain ⟨nv_45, rfl, Nq45, Kq45, f45_0, f45_1, f45_2, f45_3, f45_4⟩ := hQ45
  have N45 := Fr.app N33 Nq45
  have Re51 := Re38.trans (CHr.keep Kq45 (allS (Safe.exa hZ37.alike c40 (by decide) (by decide)) (allS c44 all0)) hCe38)
  have hCe51 := Re51.1
  have K45 : Keep h0 T45.heap [r0] := K37.trans Kq45 (allS (Or.inr sz_b1) (allS (Or.inr sz_nb_23) all0))
  have Z45 : n0 ≤ T45.heap.size := Nat.le_trans Z37 Kq45.1
  have hk45 : _ ≤ T45.heap.size := Nat.le_trans hk37 Kq45.1
  have c53 := (c46.keep Kq45 (allS g_b1 (allS g_nb_23 all0)))
  have c54 := (c40.keep Kq45)
  obtain ⟨cq52, kq52, q52a, q52b, q52c⟩ := isOf hZ37 rfl c54
  obtain ⟨_, _, ⟨T52, Lw52, kw52, nw52⟩, -, X52, ⟨Lc52, hQ52, lq52, yq52, zq52⟩, st52⟩ := X45.virtualBack hx (y := (⟨"java/lang/StringBuilder", "toString", "()Ljava/lang/String;"⟩ : MethodName)) (z := (⟨"java/lang/StringBuilder", "toString", "()Ljava/lang/String;"⟩ : MethodName)) hown37 (mvT hZ37 (wd hw 196 rfl)) (mvT hZ37 (wd hw 197 rfl)) (notFace_of_selects (args := #[]) (mvT hZ37 (wd hw 199 rfl))) (mvT hZ37 (wd hw 199 rfl)) (mvT hZ37 (wd hw 198 rfl)) (by decide) (backOf (W := 1) (rm_tos_26_34 l Z a0 hw [] b1 zc nb_23 nk_23 nv_45 T45.heap n0 Z45 c53 uS uP c54 f45_0 f45_1 f45_3 f45_2) hZ37 (wd hw 200 rfl) (wd hw 84 rfl) (by decide) (by decide)) q52a q52c (g := (mkF m 26 #[vr r0, vr r1, vi p2] [(.ref b1), (.ref r0)])) rfl (by rw [hml]; rfl) (Steps.refl _) (argsL := []) (rest := [(.ref r0)]) (lenOf pd_25 rfl) rfl (by show 2 * 0 + _ ≤ _; exact Nat.le_of_eq rfl) (hb hby d12_26) (fun _ _ => ⟨rfl, rfl, (by decide : 7 + 2 ≤ _), (by decide : 158 + 30 ≤ _)⟩)
  dsimp only [Pt.U, Pt.locs, Pt.cells, Pt.slots] at X52 lq52 yq52 zq52 st52 hQ52
  have X52 := own_reb X52 lq52 yq52 zq52
  obtain ⟨nx_52, nb_52, nk_52, nv_52, rfl, Nq52, Kq52, f52_0, f52_1, f52_2, f52_3, f52_4, f52_5, f52_6⟩ := hQ52
  have N52 := Fr.app N45 Nq52
  have c55 := (c39.keep Kq45)
  have ne_r0_nx_52 : r0 ≠ nx_52 := Nat.ne_of_lt (Nat.lt_of_lt_of_le c55.lt f52_0)
  have c56 := ((((((c12.keep Kq9).ext E17).keep Kq23).keep Kq33).ext E37).keep Kq45)
  have ne_r1_nx_52 : r1 ≠ nx_52 := Nat.ne_of_lt (Nat.lt_of_lt_of_le c56.lt f52_0)
  have c57 := ((((((c15.keep Kq9 (ninS ne_rt_b1 (ninS ne_rt_nb_3 nin0))).ext E17).keep Kq23 (ninS ne_rt_b1 nin0)).keep Kq33 (ninS ne_rt_b1 (ninS ne_rt_nb_23 nin0))).ext E37).keep Kq45 (ninS ne_rt_b1 (ninS ne_rt_nb_23 nin0)))
  have ne_rt_nx_52 : rt ≠ nx_52 := Nat.ne_of_lt (Nat.lt_of_lt_of_le c57.lt f52_0)
  have ne_b1_nx_52 : b1 ≠ nx_52 := Nat.ne_of_lt (Nat.lt_of_lt_of_le c54.lt f52_0)
  have c58 := ((((((f3_4.keep Kq9).ext E17).keep Kq23).keep Kq33).ext E37).keep Kq45)
  have ne_nb_3_nx_52 : nb_3 ≠ nx_52 := Nat.ne_of_lt (Nat.lt_of_lt_of_le c58.lt f52_0)
  have c59 := ((((fE17.keep Kq23).keep Kq33).ext E37).keep Kq45)
  have ne_b17_nx_52 : b17 ≠ nx_52 := Nat.ne_of_lt (Nat.lt_of_lt_of_le c59.lt f52_0)
  have c60 := ((((fK17.keep Kq23 (ninS (Ne.symm nlb1_17.2) nin0)).keep Kq33 (ninS (Ne.symm nlb1_17.2) (ninS ne_t17_nb_23 nin0))).ext E37).keep Kq45 (ninS (Ne.symm nlb1_17.2) (ninS ne_t17_nb_23 nin0)))
  have ne_t17_nx_52 : t17 ≠ nx_52 := Nat.ne_of_lt (Nat.lt_of_lt_of_le c60.lt f52_0)
  have c61 := (((f23_4.keep Kq33).ext E37).keep Kq45)
  have ne_nb_23_nx_52 : nb_23 ≠ nx_52 := Nat.ne_of_lt (Nat.lt_of_lt_of_le c61.lt f52_0)
  have c62 := (fE37.keep Kq45)
  have ne_b37_nx_52 : b37 ≠ nx_52 := Nat.ne_of_lt (Nat.lt_of_lt_of_le c62.lt f52_0)
  have c63 := (fK37.keep Kq45 (ninS (Ne.symm nlb1_37.2) (ninS (Ne.symm nlnb_23_37.2) nin0)))
  have ne_t37_nx_52 : t37 ≠ nx_52 := Nat.ne_of_lt (Nat.lt_of_lt_of_le c63.lt f52_0)
  have g_nx_52 : n0 ≤ nx_52 := Nat.le_trans Z45 f52_0
  have sz_nx_52 : h0.size ≤ nx_52 := Nat.le_trans K45.1 f52_0
  have c64 := (c39.keep Kq45)
  have ne_r0_nb_52 : r0 ≠ nb_52 := Nat.ne_of_lt (Nat.lt_of_lt_of_le c64.lt f52_4)
  have c65 := ((((((c12.keep Kq9).ext E17).keep Kq23).keep Kq33).ext E37).keep Kq45)
  have ne_r1_nb_52 : r1 ≠ nb_52 := Nat.ne_of_lt (Nat.lt_of_lt_of_le c65.lt f52_4)
  have c66 := ((((((c15.keep Kq9 (ninS ne_rt_b1 (ninS ne_rt_nb_3 nin0))).ext E17).keep Kq23 (ninS ne_rt_b1 nin0)).keep Kq33 (ninS ne_rt_b1 (ninS ne_rt_nb_23 nin0))).ext E37).keep Kq45 (ninS ne_rt_b1 (ninS ne_rt_nb_23 nin0)))
  have ne_rt_nb_52 : rt ≠ nb_52 := Nat.ne_of_lt (Nat.lt_of_lt_of_le c66.lt f52_4)
  have ne_b1_nb_52 : b1 ≠ nb_52 := Nat.ne_of_lt (Nat.lt_of_lt_of_le c54.lt f52_4)
  have c67 := ((((((f3_4.keep Kq9).ext E17).keep Kq23).keep Kq33).ext E37).keep Kq45)
  have ne_nb_3_nb_52 : nb_3 ≠ nb_52 := Nat.ne_of_lt (Nat.lt_of_lt_of_le c67.lt f52_4)
  have c68 := ((((fE17.keep Kq23).keep Kq33).ext E37).keep Kq45)
  have ne_b17_nb_52 : b17 ≠ nb_52 := Nat.ne_of_lt (Nat.lt_of_lt_of_le c68.lt f52_4)
  have c69 := ((((fK17.keep Kq23 (ninS (Ne.symm nlb1_17.2) nin0)).keep Kq33 (ninS (Ne.symm nlb1_17.2) (ninS ne_t17_nb_23 nin0))).ext E37).keep Kq45 (ninS (Ne.symm nlb1_17.2) (ninS ne_t17_nb_23 nin0)))
  have ne_t17_nb_52 : t17 ≠ nb_52 := Nat.ne_of_lt (Nat.lt_of_lt_of_le c69.lt f52_4)
  have c70 := (((f23_4.keep Kq33).ext E37).keep Kq45)
  have ne_nb_23_nb_52 : nb_23 ≠ nb_52 := Nat.ne_of_lt (Nat.lt_of_lt_of_le c70.lt f52_4)
  have c71 := (fE37.keep Kq45)
  have ne_b37_nb_52 : b37 ≠ nb_52 := Nat.ne_of_lt (Nat.lt_of_lt_of_le c71.lt f52_4)
  have c72 := (fK37.keep Kq45 (ninS (Ne.symm nlb1_37.2) (ninS (Ne.symm nlnb_23_37.2) nin0)))
  have ne_t37_nb_52 : t37 ≠ nb_52 := Nat.ne_of_lt (Nat.lt_of_lt_of_le c72.lt f52_4)
  have g_nb_52 : n0 ≤ nb_52 := Nat.le_trans Z45 f52_4
  have sz_nb_52 : h0.size ≤ nb_52 := Nat.le_trans K45.1 f52_4
  have Re73 := Re51.trans (CHr.keep Kq52 all0 hCe51)
  have hCe73 := Re73.1
  have sf_nx_52 := Safe.keep Kq52 all0 hCe51 (Safe.new f52_0)
  have sf_nb_52 := Safe.keep Kq52 all0 hCe51 (Safe.new f52_4)
  have K52 : Keep h0 T52.heap [r0] := K45.trans Kq52 all0
  have Z52 : n0 ≤ T52.heap.size := Nat.le_trans Z45 Kq52.1
  have hk52 : _ ≤ T52.heap.size := Nat.le_trans hk45 Kq52.1
  have c75 := (c53.keep Kq52 all0)
  have c76 := ((c39.keep Kq45).keep Kq52)
  have c77 := (((((((((uU.ext E1).keep Kq3 (ninS ne_r0_b1 nin0)).keep Kq9 (ninS ne_r0_b1 (ninS ne_r0_nb_3 nin0))).ext E17).keep Kq23 (ninS ne_r0_b1 nin0)).keep Kq33 (ninS ne_r0_b1 (ninS ne_r0_nb_23 nin0))).ext E37).keep Kq45 (ninS ne_r0_b1 (ninS ne_r0_nb_23 nin0))).keep Kq52 nin0)
  have c78 := (((((((((uca.ext E1).keep Kq3 (ninS ne_r0_b1 nin0)).keep Kq9 (ninS ne_r0_b1 (ninS ne_r0_nb_3 nin0))).ext E17).keep Kq23 (ninS ne_r0_b1 nin0)).keep Kq33 (ninS ne_r0_b1 (ninS ne_r0_nb_23 nin0))).ext E37).keep Kq45 (ninS ne_r0_b1 (ninS ne_r0_nb_23 nin0))).keep Kq52 nin0)
  have c79 := (((((((((ust.ext E1).keep Kq3 (ninS ne_r0_b1 nin0)).keep Kq9 (ninS ne_r0_b1 (ninS ne_r0_nb_3 nin0))).ext E17).keep Kq23 (ninS ne_r0_b1 nin0)).keep Kq33 (ninS ne_r0_b1 (ninS ne_r0_nb_23 nin0))).ext E37).keep Kq45 (ninS ne_r0_b1 (ninS ne_r0_nb_23 nin0))).keep Kq52 nin0)
  have c80 := (((((((((usu.ext E1).keep Kq3 (ninS ne_r0_b1 nin0)).keep Kq9 (ninS ne_r0_b1 (ninS ne_r0_nb_3 nin0))).ext E17).keep Kq23 (ninS ne_r0_b1 nin0)).keep Kq33 (ninS ne_r0_b1 (ninS ne_r0_nb_23 nin0))).ext E37).keep Kq45 (ninS ne_r0_b1 (ninS ne_r0_nb_23 nin0))).keep Kq52 nin0)
  have c81 := (((((((((ubt.ext E1).keep Kq3 (ninS ne_r0_b1 nin0)).keep Kq9 (ninS ne_r0_b1 (ninS ne_r0_nb_3 nin0))).ext E17).keep Kq23 (ninS ne_r0_b1 nin0)).keep Kq33 (ninS ne_r0_b1 (ninS ne_r0_nb_23 nin0))).ext E37).keep Kq45 (ninS ne_r0_b1 (ninS ne_r0_nb_23 nin0))).keep Kq52 nin0)
  have c82 := (((((((((udm.ext E1).keep Kq3 (ninS ne_r0_b1 nin0)).keep Kq9 (ninS ne_r0_b1 (ninS ne_r0_nb_3 nin0))).ext E17).keep Kq23 (ninS ne_r0_b1 nin0)).keep Kq33 (ninS ne_r0_b1 (ninS ne_r0_nb_23 nin0))).ext E37).keep Kq45 (ninS ne_r0_b1 (ninS ne_r0_nb_23 nin0))).keep Kq52 nin0)
  have c83 := (((((((((ux0.ext E1).keep Kq3 (ninS ne_r0_b1 nin0)).keep Kq9 (ninS ne_r0_b1 (ninS ne_r0_nb_3 nin0))).ext E17).keep Kq23 (ninS ne_r0_b1 nin0)).keep Kq33 (ninS ne_r0_b1 (ninS ne_r0_nb_23 nin0))).ext E37).keep Kq45 (ninS ne_r0_b1 (ninS ne_r0_nb_23 nin0))).keep Kq52 nin0)
  obtain ⟨_, _, ⟨T74, Lw74, kw74, nw74⟩, -, X74', hS74', hg74, ⟨Lc74, hQ74, lq74, yq74, zq74, CH74⟩, st74⟩ := X52.specialBackS hx (y := (⟨"com/example/wireform/wireform/mapping/DecodeException", "<init>", "(Ljava/lang/String;I)V"⟩ : MethodName)) rfl hown37 (mvT hZ37 (wd hw 231 rfl)) (mvT hZ37 (wd hw 232 rfl)) (mvT hZ37 (wd hw 235 rfl)) (by decide) (backOfSKH (W := 0) (rmX l Z a0 hw [] r0 nx_52 p2 zc vu vq T52.heap n0 Z52 c75 uS uP uLt uZu uRu uZs uRs c76 c77 c78 c79 c80 c81 c82 c83 ug) hZ37 (wd hw 235 rfl) (wd hw 234 rfl) (by decide) (by decide) (own_EW hw) hCe73 (Vm.MethodsKnown.alikeC hS37.1.alike hK.1) (Vm.FramesKnown.alikeC hS37.1.alike hK.2)) (g := (mkF m 30 #[vr r0, vr r1, vi p2] [(.int p2), (.ref nx_52), (.ref r0)])) rfl (by rw [hml]; rfl) (Steps.refl _) (a := r0) (argsL := [(.ref nx_52), (.int p2)]) (rest := []) (lenOf pd_26 rfl) rfl (by show 2 * 0 + _ ≤ _; exact Nat.le_of_eq rfl) (hb hby d12_30) (fun _ _ => ⟨rfl, rfl, (by decide : 9 + 1 ≤ _), (by decide : 188 + 2752 ≤ _)⟩)
  dsimp only [Pt.U, Pt.locs, Pt.cells, Pt.slots] at X74' hS74' hg74 lq74 yq74 zq74 st74 hQ74 CH74
  have X74' := own_reb X74' lq74 yq74 zq74
  obtain ⟨X74, hS74, hZ74, hown74⟩ := rebS hS37 (own_hk rfl hk52) X74' hS74' hg74 hZ37 hown37
  obtain ⟨rfl, Nq74, Kq74, f74_0⟩ := hQ74
  have N74 := Fr.app N52 Nq74
  have Re84 := Re73.trans CH74
  have hCe84 := Re84.1
  have K74 : Keep h0 T74.heap [r0] := K52.trans Kq74 (allS (Or.inl (List.mem_of_getElem? (i := 0) rfl)) all0)
  have Z74 : n0 ≤ T74.heap.size := Nat.le_trans Z52 Kq74.1
  have hk74 : T74.heap.size ≤ T74.heap.size := Nat.le_refl _
  obtain ⟨fs, hr, hrun, hended, en1, en2, en3, en4⟩ := X74.leaveW hS74 (own_hk rfl hk74) (v := none) (fun _ => rfl)
  refine ⟨_, _, pre0 _ ?_, hrun, hended, _, _, rfl, ?_, own_chr (T := T74) hh rfl (Re84.trans (CHv.at X74 hZ74 (own_EW hw) hCe84)), en1, en2, en3, en4.mono (by decide) (by decide)⟩
  · show SS p e below s₁ (mkF m 0 #[vr r0, vr r1, vi p2] []) _
    refine XS.aloadN X0.here hx rfl (hb hby d12_0) rfl rfl ?_
    show SS p e below s₁ (mkF m 1 #[vr r0, vr r1, vi p2] [(.ref r0)]) _
    refine st1 _ ?_
    show SS p e below T1 (mkF m 4 #[vr r0, vr r1, vi p2] [(.ref b1), (.ref r0)]) _
    refine XS.dup X1.here hx rfl (hb hby d12_4) rfl rfl ?_
    show SS p e below T1 (mkF m 5 #[vr r0, vr r1, vi p2] [(.ref b1), (.ref b1), (.ref r0)]) _
    refine st3.trans ?_
    show SS p e below T3 (mkF m 8 #[vr r0, vr r1, vi p2] [(.ref b1), (.ref r0)]) _
    refine XS.aloadN X3.here hx rfl (hb hby d12_8) rfl rfl ?_
    show SS p e below T3 (mkF m 9 #[vr r0, vr r1, vi p2] [(.ref r1), (.ref b1), (.ref r0)]) _
    refine st9.trans ?_
    show SS p e below T9 (mkF m 12 #[vr r0, vr r1, vi p2] [(.ref b1), (.ref r0)]) _
    refine st17 _ ?_
    show SS p e below T17 (mkF m 14 #[vr r0, vr r1, vi p2] [(.ref b17), (.ref b1), (.ref r0)]) _
    refine st23.trans ?_
    show SS p e below T23 (mkF m 17 #[vr r0, vr r1, vi p2] [(.ref b1), (.ref r0)]) _
    refine XS.iloadN X23.here hx rfl (hb hby d12_17) rfl ?_
    show SS p e below T23 (mkF m 18 #[vr r0, vr r1, vi p2] [(.int p2), (.ref b1), (.ref r0)]) _
    refine st33.trans ?_
    show SS p e below T33 (mkF m 21 #[vr r0, vr r1, vi p2] [(.ref b1), (.ref r0)]) _
    refine st37 _ ?_
    show SS p e below T37 (mkF m 23 #[vr r0, vr r1, vi p2] [(.ref b37), (.ref b1), (.ref r0)]) _
    refine st45.trans ?_
    show SS p e below T45 (mkF m 26 #[vr r0, vr r1, vi p2] [(.ref b1), (.ref r0)]) _
    refine st52.trans ?_
    show SS p e below T52 (mkF m 29 #[vr r0, vr r1, vi p2] [(.ref nx_52), (.ref r0)]) _
    refine XS.iloadN X52.here hx rfl (hb hby d12_29) rfl ?_
    show SS p e below T52 (mkF m 30 #[vr r0, vr r1, vi p2] [(.int p2), (.ref nx_52), (.ref r0)]) _
    refine st74.trans ?_
    show SS p e below T74 (mkF m 33 #[vr r0, vr r1, vi p2] []) _
    exact X74.returnOut hx Bd.returns (hb hby d12_33) hr
  · show Q_rmY Z r0 r1 p2 zc vu vq dg kd rt kt vt h0 n0 _ T74.heap _
    exact ⟨rfl, N74, K74, f74_0⟩
theorem ef_52 (m : MethodId) (x0 : Addr) (x1 : Addr) : entryFrame m #[(.ref x0), (.ref x1)] 2 = mkF m 0 #[vr x0, vr x1] [] := by first | (simp [entryFrame, mkF, argsToLocals, Value.category]; done) | rfl
theorem d11_0 : decode prog_14_method_20_code 0 = .ok (.new 132, 3) := by decide +kernel
theorem d11_3 : decode prog_14_method_20_code 3 = .ok (.dup, 1) := by decide +kernel
theorem d11_4 : decode prog_14_method_20_code 4 = .ok (.aload_n 1, 1) := by decide +kernel
theorem d11_5 : decode prog_14_method_20_code 5 = .ok (.aload_n 0, 1) := by decide +kernel
theorem d11_6 : decode prog_14_method_20_code 6 = .ok (.getfield 39, 3) := by decide +kernel
theorem d11_9 : decode prog_14_method_20_code 9 = .ok (.invokespecial 134, 3) := by decide +kernel
theorem d11_12 : decode prog_14_method_20_code 12 = .ok (.areturn, 1) := by decide +kernel
def Q_rmF (Z : State) (r0 : Addr) (r1 : Addr) (zc : Int32) (vu : Value) (vq : Value) (dg : Addr) (kd : ClassId) (rt : Addr) (kt : ClassId) (vt : List Value) (st : Int32) (h0 : Heap) (n0 : Nat) (v : Option Value) (h : Heap) (L : List Loc) : Prop := ∃ (nx : Addr), (v = some (.ref nx) ∧ Fr n0 L ∧ Keep h0 h [] ∧ h0.size ≤ nx ∧ Exa Z h nx "com/example/wireform/wireform/amf3/AmfDecodeException" ∧ Fld Z h nx "com/example/wireform/wireform/mapping/DecodeException" "offset" "I" (.int st))
set_option maxRecDepth 65536 in
set_option maxHeartbeats 40000000 in
theorem rmF (l : Launch) (Z : State) (a0 : Array Value) (hw : ∀ d ∈ tables_1, d.before a0 Z = true) (ws : List Jvm.Cond) (r0 : Addr) (r1 : Addr) (zc : Int32) (vu : Value) (vq : Value) (dg : Addr) (kd : ClassId) (rt : Addr) (kt : ClassId) (vt : List Value) (st : Int32) (h0 : Heap) (n0 : Nat) (Z0 : n0 ≤ h0.size) (uO : Old Z n0 h0) (uS : Sta Z Z.heap "java/lang/String" "COMPACT_STRINGS" "Z" (.int zc)) (uP : ¬ zc = 0) (uLt : l.stackTraces = true) (uZu : Sta Z Z.heap "java/lang/Throwable" "UNASSIGNED_STACK" "[Ljava/lang/StackTraceElement;" vu) (uRu : vu.isRef = true) (uZs : Sta Z Z.heap "java/lang/Throwable" "SUPPRESSED_SENTINEL" "Ljava/util/List;" vq) (uRs : vq.isRef = true) (uD : Sta Z Z.heap "java/lang/Integer" "DigitOnes" "[B" (.ref dg)) (uDV : Arv Z Z.heap dg kd .byte (100 : Int32) own_ones (.int (0 : Int32))) (uA : Exa Z h0 r0 "com/example/wireform/wireform/amf3/AmfInput") (uvs : Fld Z h0 r0 "com/example/wireform/wireform/amf3/AmfInput" "valueStart" "I" (.int st)) (us : Exa Z h0 r1 "java/lang/String") (usv : Fld Z h0 r1 "java/lang/String" "value" "[B" (.ref rt)) (usc : Fld Z h0 r1 "java/lang/String" "coder" "B" (.int (0 : Int32))) (usV : Arv Z h0 rt kt .byte (1 : Int32) vt (.int (0 : Int32))) (u0 : ¬ st < 0) (u9 : (-10 : Int32) < (-st)) (u99 : (-100 : Int32) < (-st)) (u8 : ¬ (-st) < (-9 : Int32)) (u100 : st < (100 : Int32)) :
    MetFree l (⟨"com/example/wireform/wireform/amf3/AmfInput", "failure", "(Ljava/lang/String;)Lcom/example/wireform/wireform/amf3/AmfDecodeException;"⟩ : MethodName) (head1 (Jvm.Cond.code (⟨"com/example/wireform/wireform/amf3/AmfInput", "failure", "(Ljava/lang/String;)Lcom/example/wireform/wireform/amf3/AmfDecodeException;"⟩ : MethodName) prog_14_method_20_code 2 (some (.object "com/example/wireform/wireform/amf3/AmfDecodeException")) :: ws) ({ frames := 8, cells := 11, slots := 2947, locals := 110 } : Room)) (fun a U => a = #[(.ref r0), (.ref r1)] ∧ Z.Warmed39 U.vm ∧ U.heap = h0 ∧ CHv Z own_EL U.vm h0) (fun _ _ bl s _ => s.vm.MethodsKnown ∧ s.vm.FramesKnown bl) (fun _ U o U' => ∃ v L, o = .returned v ∧ Q_rmF Z r0 r1 zc vu vq dg kd rt kt vt st h0 n0 v U'.heap L ∧ CHr Z own_EL U.vm U.heap U'.vm U'.heap ∧ ReturnedEndW U o U' L ({ frames := 8, cells := 11, slots := 2947, locals := 110 } : Room).cells ({ frames := 8, cells := 11, slots := 2947, locals := 110 } : Room).slots) := by
  refine MetFree.of_bodySF (plainFor_of_name pn_6) hisR ?_
  intro p e s m args below meth c s₁ Bd hml0 hP hK
  obtain ⟨rfl, hZ, hh, hC0⟩ := hP
  have hx := Bd.exec
  have hby := Bd.bytes
  have hml : c.maxLocals = 2 := hml0
  have hown : s.vm.findClass "com/example/wireform/wireform/amf3/AmfInput" = some m.cls := findClass_of_methodNamed Bd.named
  have hnm := (name_of_methodNamed Bd.named Bd.method).1
  have X0 : Stand p l e ({ frames := 8, cells := 11, slots := 2947, locals := 110 } : Room) (s.setVm s.vm) m #[(.ref r0), (.ref r1)] below meth c s₁ [] 0 0 := Stand.of_body Bd
  have e0 : s₁.heap = h0 := by rw [← hh, Bd.state]; rfl
  have N0 := Fr.nil n0
  have pre0 : ∀ t, Steps p.tables e below (s₁.setTop (mkF m 0 #[vr r0, vr r1] [])) t → Steps p.tables e below (s₁.setTop (entryFrame m #[(.ref r0), (.ref r1)] 2)) t := fun t k => castTop (ef_52 m r0 r1) k
  have hS0 : s.Since s.vm 0 := (State.WarmedH.refl s).since _
  have hk0 : 0 ≤ h0.size := Nat.zero_le _
  have R0 := CHr.refl hC0
  obtain ⟨T1, h1, X1, e1, E1, A1, D1, Un1, st1⟩ := newO X0 hx hZ hown (wd hw 76 rfl) (wd hw 77 rfl) (wd hw 78 rfl) e0 (g := (mkF m 0 #[vr r0, vr r1] [])) rfl (hb hby d11_0) (by decide) (by decide)
  obtain ⟨b1, g1⟩ : ∃ z, z = h0.size := ⟨_, rfl⟩
  rw [← g1] at A1 D1 Un1 st1
  have ne_r0_b1 : r0 ≠ b1 := Nat.ne_of_lt (Nat.lt_of_lt_of_le uA.lt (Nat.le_of_eq g1.symm))
  have ne_r1_b1 : r1 ≠ b1 := Nat.ne_of_lt (Nat.lt_of_lt_of_le us.lt (Nat.le_of_eq g1.symm))
  have ne_rt_b1 : rt ≠ b1 := Nat.ne_of_lt (Nat.lt_of_lt_of_le usV.lt (Nat.le_of_eq g1.symm))
  have Re2 := R0.trans (CHr.ext E1 hC0)
  have hCe2 := Re2.1
  have Ut1 : Unt h1 b1 := Un1
  have F1_cause : Fld Z h1 b1 "java/lang/Throwable" "cause" "Ljava/lang/Throwable;" .null := D1 (Or.inl (wd hw 255 rfl)) (ty := (.object "java/lang/Throwable")) (by decide)
  have F1_stackTrace : Fld Z h1 b1 "java/lang/Throwable" "stackTrace" "[Ljava/lang/StackTraceElement;" .null := D1 (Or.inl (wd hw 258 rfl)) (ty := (.array (.object "java/lang/StackTraceElement"))) (by decide)
  have F1_suppressedExceptions : Fld Z h1 b1 "java/lang/Throwable" "suppressedExceptions" "Ljava/util/List;" .null := D1 (Or.inl (wd hw 261 rfl)) (ty := (.object "java/util/List")) (by decide)
  have F1_detailMessage : Fld Z h1 b1 "java/lang/Throwable" "detailMessage" "Ljava/lang/String;" .null := D1 (Or.inl (wd hw 285 rfl)) (ty := (.object "java/lang/String")) (by decide)
  have F1_backtrace : Fld Z h1 b1 "java/lang/Throwable" "backtrace" "Ljava/lang/Object;" .null := D1 (Or.inl (wd hw 286 rfl)) (ty := (.object "java/lang/Object")) (by decide)
  have F1_depth : Fld Z h1 b1 "java/lang/Throwable" "depth" "I" (.int (0 : Int32)) := D1 (Or.inl (wd hw 287 rfl)) (ty := .int) (by decide)
  have F1_offset : Fld Z h1 b1 "com/example/wireform/wireform/mapping/DecodeException" "offset" "I" (.int (0 : Int32)) := D1 (Or.inr (wd hw 291 rfl)) (ty := .int) (by decide)
  have g_b1 : n0 ≤ b1 := Nat.le_trans Z0 (Nat.le_of_eq g1.symm)
  have sz_b1 : h0.size ≤ b1 := Nat.le_trans (Keep.refl h0 []).1 (Nat.le_of_eq g1.symm)
  have K1 : Keep h0 h1 [] := (Keep.refl h0 []).ext E1
  have Z1 : n0 ≤ h1.size := Nat.le_trans Z0 E1.1
  have hk1 : _ ≤ h1.size := Nat.le_trans hk0 E1.1
  have c4 := (uvs.ext E1)
  obtain ⟨T3, X3, e3, st3⟩ := getF X1 hx hZ hown (host := "") (Or.inl (wd hw 39 rfl)) Via.refl e1 c4 (g := (mkF m 6 #[vr r0, vr r1] [(.ref r0), (.ref r1), (.ref b1), (.ref b1)])) rfl rfl (hb hby d11_6)
  have c6 := (uO.ext E1)
  have c7 := (us.ext E1)
  have c8 := (usv.ext E1)
  have c9 := (usc.ext E1)
  have c10 := (usV.ext E1)
  obtain ⟨_, _, ⟨T5, Lw5, kw5, nw5⟩, -, X5', hS5', hg5, ⟨Lc5, hQ5, lq5, yq5, zq5, CH5⟩, st5⟩ := X3.specialBackS hx (y := (⟨"com/example/wireform/wireform/amf3/AmfDecodeException", "<init>", "(Ljava/lang/String;I)V"⟩ : MethodName)) rfl hown (mvT hZ (wd hw 79 rfl)) (mvT hZ (wd hw 80 rfl)) (mvT hZ (wd hw 81 rfl)) (by decide) (backOfSKH (W := 1) (rmY l Z a0 hw [] b1 r1 st zc vu vq dg kd rt kt vt h1 n0 Z1 c6 uS uP uLt uZu uRu uZs uRs uD uDV A1 Ut1 F1_cause F1_stackTrace F1_suppressedExceptions F1_backtrace F1_detailMessage F1_offset g_b1 c7 c8 c9 c10 u0 u9 u99 u8 u100) hZ (wd hw 81 rfl) (wd hw 78 rfl) (by decide) (by decide) (own_EW hw) hCe2 (Vm.MethodsKnown.alikeC hS0.1.alike hK.1) (Vm.FramesKnown.alikeC hS0.1.alike hK.2)) (g := (mkF m 9 #[vr r0, vr r1] [(.int st), (.ref r1), (.ref b1), (.ref b1)])) rfl (by rw [hml]; rfl) (Steps.refl _) (a := b1) (argsL := [(.ref r1), (.int st)]) (rest := [(.ref b1)]) (lenOf pd_26 rfl) rfl (by show 2 * 0 + _ ≤ _; exact Nat.le_of_eq rfl) (hb hby d11_9) (fun _ _ => ⟨rfl, e3, (by decide : 1 + 10 ≤ _), (by decide : 7 + 2940 ≤ _)⟩)
  dsimp only [Pt.U, Pt.locs, Pt.cells, Pt.slots] at X5' hS5' hg5 lq5 yq5 zq5 st5 hQ5 CH5
  have X5' := own_reb X5' lq5 yq5 zq5
  obtain ⟨X5, hS5, hZ5, hown5⟩ := rebS hS0 (own_hk e3 hk1) X5' hS5' hg5 hZ hown
  obtain ⟨rfl, Nq5, Kq5, f5_0⟩ := hQ5
  have N5 := Fr.app N0 Nq5
  have Re11 := Re2.trans CH5
  have hCe11 := Re11.1
  have K5 : Keep h0 T5.heap [] := K1.trans Kq5 (allS (Or.inr sz_b1) all0)
  have Z5 : n0 ≤ T5.heap.size := Nat.le_trans Z1 Kq5.1
  have hk5 : T5.heap.size ≤ T5.heap.size := Nat.le_refl _
  have c12 := (A1.keep Kq5)
  obtain ⟨fs, hr, hrun, hended, en1, en2, en3, en4⟩ := X5.leaveW hS5 (own_hk rfl hk5) (v := some (.ref b1)) (fun h => by rw [Bd.returns] at h; cases h)
  refine ⟨_, _, pre0 _ ?_, hrun, hended, _, _, rfl, ?_, own_chr (T := T5) hh rfl (Re11.trans (CHv.at X5 hZ5 (own_EW hw) hCe11)), en1, en2, en3, en4.mono (by decide) (by decide)⟩
  · show SS p e below s₁ (mkF m 0 #[vr r0, vr r1] []) _
    refine st1 _ ?_
    show SS p e below T1 (mkF m 3 #[vr r0, vr r1] [(.ref b1)]) _
    refine XS.dup X1.here hx rfl (hb hby d11_3) rfl rfl ?_
    show SS p e below T1 (mkF m 4 #[vr r0, vr r1] [(.ref b1), (.ref b1)]) _
    refine XS.aloadN X1.here hx rfl (hb hby d11_4) rfl rfl ?_
    show SS p e below T1 (mkF m 5 #[vr r0, vr r1] [(.ref r1), (.ref b1), (.ref b1)]) _
    refine XS.aloadN X1.here hx rfl (hb hby d11_5) rfl rfl ?_
    show SS p e below T1 (mkF m 6 #[vr r0, vr r1] [(.ref r0), (.ref r1), (.ref b1), (.ref b1)]) _
    refine st3 _ ?_
    show SS p e below T3 (mkF m 9 #[vr r0, vr r1] [(.int st), (.ref r1), (.ref b1), (.ref b1)]) _
    refine st5.trans ?_
    show SS p e below T5 (mkF m 12 #[vr r0, vr r1] [(.ref b1)]) _
    exact retOut X5 hx Bd.returns rfl (Or.inr (Or.inr (Or.inr (Or.inr ⟨rfl, rfl, rfl⟩)))) (hb hby d11_12) hr
  · show Q_rmF Z r0 r1 zc vu vq dg kd rt kt vt st h0 n0 _ T5.heap _
    exact ⟨b1, rfl, N5, K5, sz_b1, c12, f5_0⟩
theorem ef_53 (m : MethodId) (x0 : Int32) (x1 : Int32) (x2 : Int32) (x3 : Int32) : entryFrame m #[(.int x0), (.int x1), (.int x2), (.int x3)] maxLocals = mkF m 0 #[vi x0, vi x1, vi x2, vi x3, uu, uu, uu, uu, uu, uu, uu, uu] [] := by first | (simp [entryFrame, mkF, argsToLocals, Value.category, maxLocals]; done) | rfl
theorem pn_14 : plainName "com/example/wireform/wireform/amf3/AmfInputStartValuePinLaw" = true := by first | (simp [plainName, overriddenIn]; done) | decide +kernel
theorem pd_27 : parseMethodDescriptor "([B)V" = some ⟨[(.array .byte)], none⟩ := by decide +kernel
theorem pd_28 : parseMethodDescriptor "(ILjava/lang/String;)[B" = some ⟨[.int, (.object "java/lang/String")], some (.array .byte)⟩ := by decide +kernel
theorem pd_29 : parseMethodDescriptor "(Ljava/lang/String;)Lcom/example/wireform/wireform/amf3/AmfDecodeException;" = some ⟨[(.object "java/lang/String")], some (.object "com/example/wireform/wireform/amf3/AmfDecodeException")⟩ := by decide +kernel
def Q_rm0 (Z : State) (p0 : Int32) (p1 : Int32) (p2 : Int32) (p3 : Int32) (zc : Int32) (vu : Value) (vq : Value) (dg : Addr) (kd : ClassId) (vN : Int32) (vA : Int32) (vB : Int32) (h0 : Heap) (n0 : Nat) (v : Option Value) (h : Heap) (L : List Loc) : Prop := (v = some (.int 1) ∧ Fr n0 L)
set_option maxRecDepth 65536 in
set_option maxHeartbeats 40000000 in
theorem rm0 (l : Launch) (Z : State) (a0 : Array Value) (hw : ∀ d ∈ tables_1, d.before a0 Z = true) (ws : List Jvm.Cond) (p0 : Int32) (p1 : Int32) (p2 : Int32) (p3 : Int32) (zc : Int32) (vu : Value) (vq : Value) (dg : Addr) (kd : ClassId) (vN : Int32) (vA : Int32) (vB : Int32) (h0 : Heap) (n0 : Nat) (Z0 : n0 ≤ h0.size) (uO : Old Z n0 h0) (uS : Sta Z Z.heap "java/lang/String" "COMPACT_STRINGS" "Z" (.int zc)) (uP : ¬ zc = 0) (uLt : l.stackTraces = true) (uZu : Sta Z Z.heap "java/lang/Throwable" "UNASSIGNED_STACK" "[Ljava/lang/StackTraceElement;" vu) (uRu : vu.isRef = true) (uZs : Sta Z Z.heap "java/lang/Throwable" "SUPPRESSED_SENTINEL" "Ljava/util/List;" vq) (uRs : vq.isRef = true) (uD : Sta Z Z.heap "java/lang/Integer" "DigitOnes" "[B" (.ref dg)) (uDV : Arv Z Z.heap dg kd .byte (100 : Int32) own_ones (.int (0 : Int32))) (uN : (p0 &&& (7 : Int32)) = vN) (uA : ((p1 &&& (7 : Int32)) % (vN + (1 : Int32))) = vA) (uB : ((p2 &&& (7 : Int32)) % ((vN - vA) + (1 : Int32))) = vB) (unz : (vN + (1 : Int32)) ≠ 0) (unz2 : ((vN - vA) + (1 : Int32)) ≠ 0) (n0_ : 0 ≤ vN.toInt) (n7 : vN.toInt ≤ 7) (a0_ : 0 ≤ vA.toInt) (b0_ : 0 ≤ vB.toInt) (abn : vA.toInt + vB.toInt ≤ vN.toInt) :
    MetFree l x (head1 (Jvm.Cond.code x code maxLocals ret :: ws) room_1) (fun a U => a = #[(.int p0), (.int p1), (.int p2), (.int p3)] ∧ Z.Warmed39 U.vm ∧ U.heap = h0 ∧ CHv Z own_EL U.vm h0) (fun _ _ _ s _ => Jvm.Pilot.@@N@@.Jvm.D.framesKnown s = true ∧ Jvm.Pilot.@@N@@.Jvm.D.tablesKnown s = true) (fun _ U o U' => ∃ v L, o = .returned v ∧ Q_rm0 Z p0 p1 p2 p3 zc vu vq dg kd vN vA vB h0 n0 v U'.heap L ∧ CHr Z own_EL U.vm U.heap U'.vm U'.heap ∧ ReturnedEndW U o U' L room_1.cells room_1.slots) := by
  refine MetFree.of_bodySF (plainFor_of_name pn_14) hisR ?_
  intro p e s m args below meth c s₁ Bd hml0 hP hK
  obtain ⟨rfl, hZ, hh, hC0⟩ := hP
  have hx := Bd.exec
  have hby := Bd.bytes
  have hml : c.maxLocals = 12 := hml0
  have hown : s.vm.findClass "com/example/wireform/wireform/amf3/AmfInputStartValuePinLaw" = some m.cls := findClass_of_methodNamed Bd.named
  have hnm := (name_of_methodNamed Bd.named Bd.method).1
  have X0 : Stand p l e room_1 (s.setVm s.vm) m #[(.int p0), (.int p1), (.int p2), (.int p3)] below meth c s₁ [] 0 0 := Stand.of_body Bd
  have e0 : s₁.heap = h0 := by rw [← hh, Bd.state]; rfl
  have N0 := Fr.nil n0
  have pre0 : ∀ t, Steps p.tables e below (s₁.setTop (mkF m 0 #[vi p0, vi p1, vi p2, vi p3, uu, uu, uu, uu, uu, uu, uu, uu] [])) t → Steps p.tables e below (s₁.setTop (entryFrame m #[(.int p0), (.int p1), (.int p2), (.int p3)] maxLocals)) t := fun t k => castTop (ef_53 m p0 p1 p2 p3) k
  have hK := X0.known hK.2 hK.1
  have hS0 : s.Since s.vm 0 := (State.WarmedH.refl s).since _
  have hk0 : 0 ≤ h0.size := Nat.zero_le _
  have R0 := CHr.refl hC0
  have on := own_n n0_ n7
  have oz : (0 : Int32) + vA = vA := Int32.zero_add vA
  have od := own_5 n7 a0_ b0_ abn
  obtain ⟨T1, h1, X1, e1, E1, A1, D1, Un1, st1⟩ := newO X0 hx hZ hown (wd hw 0 rfl) (wd hw 1 rfl) (wd hw 2 rfl) e0 (g := (mkF m 31 #[vi p0, vi p1, vi p2, vi p3, vi vN, vi vA, vi vB, uu, uu, uu, uu, uu] [])) rfl (hb hby at_31) (by decide) (by decide)
  obtain ⟨b1, g1⟩ : ∃ z, z = h0.size := ⟨_, rfl⟩
  rw [← g1] at A1 D1 Un1 st1
  have Re2 := R0.trans (CHr.ext E1 hC0)
  have hCe2 := Re2.1
  have Ut1 : Unt h1 b1 := Un1
  have F1_bytes : Fld Z h1 b1 "com/example/wireform/wireform/amf3/AmfInput" "bytes" "[B" .null := D1 (Or.inr (wd hw 27 rfl)) (ty := (.array .byte)) (by decide)
  have F1_maxDepth : Fld Z h1 b1 "com/example/wireform/wireform/amf3/AmfInput" "maxDepth" "I" (.int (0 : Int32)) := D1 (Or.inr (wd hw 33 rfl)) (ty := .int) (by decide)
  have F1_valueStart : Fld Z h1 b1 "com/example/wireform/wireform/amf3/AmfInput" "valueStart" "I" (.int (0 : Int32)) := D1 (Or.inl (wd hw 40 rfl)) (ty := .int) (by decide)
  have F1_position : Fld Z h1 b1 "com/example/wireform/wireform/amf3/AmfInput" "position" "I" (.int (0 : Int32)) := D1 (Or.inl (wd hw 42 rfl)) (ty := .int) (by decide)
  have g_b1 : n0 ≤ b1 := Nat.le_trans Z0 (Nat.le_of_eq g1.symm)
  have sz_b1 : h0.size ≤ b1 := Nat.le_trans (Keep.refl h0 []).1 (Nat.le_of_eq g1.symm)
  have K1 : Keep h0 h1 [] := (Keep.refl h0 []).ext E1
  have Z1 : n0 ≤ h1.size := Nat.le_trans Z0 E1.1
  have hk1 : _ ≤ h1.size := Nat.le_trans hk0 E1.1
  obtain ⟨T3, h3, k3, X3, e3, E3, A3, AX3, st3⟩ := newPE X1 hx hZ (wd hw 3 rfl) e1 (g := (mkF m 37 #[vi p0, vi p1, vi p2, vi p3, vi vN, vi vA, vi vB, uu, uu, uu, uu, uu] [(.int vN), (.ref b1), (.ref b1)])) rfl (hb hby at_37) rfl on.1 (cap := 8) on.2 (by decide) (by decide) (by decide) (ad := "[B") (by decide)
  obtain ⟨b3, g3⟩ : ∃ z, z = h1.size := ⟨_, rfl⟩
  rw [← g3] at A3 AX3 st3
  have ne_b1_b3 : b1 ≠ b3 := Nat.ne_of_lt (Nat.lt_of_lt_of_le A1.lt (Nat.le_of_eq g3.symm))
  have Re4 := Re2.trans (CHr.ext E3 hCe2)
  have hCe4 := Re4.1
  have V3 : Arv Z h3 b3 k3 .byte vN [] (.int (0 : Int32)) := (Arv.new A3 on.1)
  have sf3 := Safe.ext E3 hCe2 (Safe.new (Nat.le_of_eq g3.symm))
  have g_b3 : n0 ≤ b3 := Nat.le_trans Z1 (Nat.le_of_eq g3.symm)
  have sz_b3 : h0.size ≤ b3 := Nat.le_trans K1.1 (Nat.le_of_eq g3.symm)
  have K3 : Keep h0 h3 [] := K1.ext E3
  have Z3 : n0 ≤ h3.size := Nat.le_trans Z1 E3.1
  have hk3 : _ ≤ h3.size := Nat.le_trans hk1 E3.1
  have c6 := (A1.ext E3)
  have c7 := (F1_bytes.ext E3)
  have c8 := (F1_maxDepth.ext E3)
  have c9 := (F1_position.ext E3)
  have c10 := (F1_valueStart.ext E3)
  obtain ⟨_, _, ⟨T5, Lw5, kw5, nw5⟩, -, X5', hS5', hg5, ⟨Lc5, hQ5, lq5, yq5, zq5, CH5⟩, st5⟩ := X3.specialBackS hx (y := (⟨"com/example/wireform/wireform/amf3/AmfInput", "<init>", "([B)V"⟩ : MethodName)) rfl hown (mvT hZ (wd hw 4 rfl)) (mvT hZ (wd hw 5 rfl)) (mvT hZ (wd hw 6 rfl)) (by decide) (backOfSH (W := 1) (rmI l Z a0 hw [] b1 b3 h3 n0 Z3 c6 c7 c8 c9 c10 g_b1 AX3) hZ (wd hw 6 rfl) (wd hw 2 rfl) (by decide) (by decide) (own_EW hw) hCe4) (g := (mkF m 39 #[vi p0, vi p1, vi p2, vi p3, vi vN, vi vA, vi vB, uu, uu, uu, uu, uu] [(.ref b3), (.ref b1), (.ref b1)])) rfl (by rw [hml]; rfl) (Steps.refl _) (a := b1) (argsL := [(.ref b3)]) (rest := [(.ref b1)]) (lenOf pd_27 rfl) rfl (by show 2 * 0 + _ ≤ _; exact Nat.le_of_eq rfl) (hb hby at_39) (fun _ _ => ⟨rfl, e3, (by decide : 2 + 2 ≤ _), (by decide : 13 + 24 ≤ _)⟩)
  dsimp only [Pt.U, Pt.locs, Pt.cells, Pt.slots] at X5' hS5' hg5 lq5 yq5 zq5 st5 hQ5 CH5
  have X5' := own_reb X5' lq5 yq5 zq5
  obtain ⟨X5, hS5, hZ5, hown5⟩ := rebS hS0 (own_hk e3 hk3) X5' hS5' hg5 hZ hown
  obtain ⟨rfl, Nq5, Kq5, f5_0, f5_1, f5_2⟩ := hQ5
  have N5 := Fr.app N0 Nq5
  have Re11 := Re4.trans CH5
  have hCe11 := Re11.1
  have K5 : Keep h0 T5.heap [] := K3.trans Kq5 (allS (Or.inr sz_b1) all0)
  have Z5 : n0 ≤ T5.heap.size := Nat.le_trans Z3 Kq5.1
  have hk5 : T5.heap.size ≤ T5.heap.size := Nat.le_refl _
  have c13 := (c6.keep Kq5)
  obtain ⟨cq12, kq12, q12a, q12b, q12c⟩ := isOf hZ5 rfl c13
  obtain ⟨_, _, ⟨T12, Lw12, kw12, nw12⟩, -, X12, ⟨Lc12, hQ12, lq12, yq12, zq12⟩, st12⟩ := X5.virtualBack hx (y := (⟨"com/example/wireform/wireform/amf3/AmfInput", "startValue", "()I"⟩ : MethodName)) (z := (⟨"com/example/wireform/wireform/amf3/AmfInput", "startValue", "()I"⟩ : MethodName)) hown5 (mvT hZ5 (wd hw 34 rfl)) (mvT hZ5 (wd hw 35 rfl)) (notFace_of_selects (args := #[]) (mvT hZ5 (wd hw 37 rfl))) (mvT hZ5 (wd hw 37 rfl)) (mvT hZ5 (wd hw 36 rfl)) (by decide) (backOf (W := 0) (rmS l Z a0 hw [] b1 b3 (0 : Int32) (0 : Int32) T5.heap n0 Z5 c13 f5_0 f5_1 f5_2 g_b1) hZ5 (wd hw 38 rfl) (wd hw 2 rfl) (by decide) (by decide)) q12a q12c (g := (mkF m 46 #[vi p0, vi p1, vi p2, vi p3, vi vN, vi vA, vi vB, vr b1, uu, uu, uu, uu] [(.ref b1)])) rfl (by rw [hml]; rfl) (Steps.refl _) (argsL := []) (rest := []) (lenOf pd_2 rfl) rfl (by show 2 * 0 + _ ≤ _; exact Nat.le_of_eq rfl) (hb hby at_46) (fun _ _ => ⟨rfl, rfl, (by decide : 4 + 0 ≤ _), (by decide : 37 + 0 ≤ _)⟩)
  dsimp only [Pt.U, Pt.locs, Pt.cells, Pt.slots] at X12 lq12 yq12 zq12 st12 hQ12
  have X12 := own_reb X12 lq12 yq12 zq12
  obtain ⟨rfl, Nq12, Kq12, f12_0, f12_1, f12_2⟩ := hQ12
  have N12 := Fr.app N5 Nq12
  have Re14 := Re11.trans (CHr.keep Kq12 (allS (Safe.exa hZ5.alike c13 (by decide) (by decide)) all0) hCe11)
  have hCe14 := Re14.1
  have K12 : Keep h0 T12.heap [] := K5.trans Kq12 (allS (Or.inr sz_b1) all0)
  have Z12 : n0 ≤ T12.heap.size := Nat.le_trans Z5 Kq12.1
  have hk12 : _ ≤ T12.heap.size := Nat.le_trans hk5 Kq12.1
  obtain ⟨b15, T15, h15, kk15, t15, kc15, X15, e15, E15, hS15, hk15, hZ15, hown15, fE15, fC15, fV15, fK15, lta15, ltb15, CH15, -, SF15, st15⟩ := ldcCH X12 hx hZ5 hown5 (wd hw 43 rfl) (fun d hd => hw d (own_strAtoms d hd)) rfl hS5 hk12 (own_EW hw) (by decide) hCe14 (vs := [(.int (120 : Int32))]) (z := (1 : Int32)) ⟨by decide, by decide⟩ (by decide) (by decide) (g := (mkF m 55 #[vi p0, vi p1, vi p2, vi p3, vi vN, vi vA, vi vB, vr b1, vi (0 : Int32), uu, uu, uu] [(.int vA), (.ref b1)])) rfl (hb hby at_55) (n := 4) (by decide) (by decide) (by decide) (by decide)
  have Re16 := Re14.trans CH15
  have hCe16 := Re16.1
  have c17 := ((c13.keep Kq12).ext E15)
  have nlb1_15 := SF15 b1 (Safe.exa hZ15.alike c17 (by decide) (by decide))
  have c18 := ((V3.keep Kq5 (ninS (Ne.symm ne_b1_b3) nin0)).keep Kq12 (ninS (Ne.symm ne_b1_b3) nin0))
  have c19 := (CHr.safe CH15 c18.lt (Safe.keep Kq12 (allS (Safe.exa hZ5.alike c13 (by decide) (by decide)) all0) hCe11 (CHr.safe CH5 V3.lt sf3)))
  have nlb3_15 := SF15 b3 c19
  have K15 : Keep h0 h15 [] := K12.ext E15
  have Z15 : n0 ≤ h15.size := Nat.le_trans Z12 E15.1
  have c21 := (((AX3.keep Kq5).keep Kq12).ext E15)
  have c22 := (f12_0.ext E15)
  have c23 := (f12_1.ext E15)
  have c24 := (((V3.keep Kq5 (ninS (Ne.symm ne_b1_b3) nin0)).keep Kq12 (ninS (Ne.symm ne_b1_b3) nin0)).ext E15)
  have c25 := (f12_2.ext E15)
  obtain ⟨cq20, kq20, q20a, q20b, q20c⟩ := isOf hZ15 e15 c17
  obtain ⟨_, _, ⟨T20, Lw20, kw20, nw20⟩, -, X20, ⟨Lc20, hQ20, lq20, yq20, zq20⟩, st20⟩ := X15.virtualBack hx (y := (⟨"com/example/wireform/wireform/amf3/AmfInput", "readBytes", "(ILjava/lang/String;)[B"⟩ : MethodName)) (z := (⟨"com/example/wireform/wireform/amf3/AmfInput", "readBytes", "(ILjava/lang/String;)[B"⟩ : MethodName)) hown15 (mvT hZ15 (wd hw 44 rfl)) (mvT hZ15 (wd hw 45 rfl)) (notFace_of_selects (args := #[]) (mvT hZ15 (wd hw 47 rfl))) (mvT hZ15 (wd hw 47 rfl)) (mvT hZ15 (wd hw 46 rfl)) (by decide) (backOf (W := 0) (rmB l Z a0 hw [] b1 vA b15 b3 (0 : Int32) k3 vN [] (.int (0 : Int32)) (0 : Int32) h15 n0 Z15 c17 c21 c22 c23 c24 c25 g_b1 (by decide) a0_ (own_2 abn b0_) (own_8 n7)) hZ15 (wd hw 48 rfl) (wd hw 2 rfl) (by decide) (by decide)) q20a q20c (g := (mkF m 57 #[vi p0, vi p1, vi p2, vi p3, vi vN, vi vA, vi vB, vr b1, vi (0 : Int32), uu, uu, uu] [(.ref b15), (.int vA), (.ref b1)])) rfl (by rw [hml]; rfl) (Steps.refl _) (argsL := [(.int vA), (.ref b15)]) (rest := []) (lenOf pd_28 rfl) rfl (by show 2 * 0 + _ ≤ _; exact Nat.le_of_eq rfl) (hb hby at_57) (fun _ _ => ⟨rfl, e15, (by decide : 6 + 1 ≤ _), (by decide : 45 + 8 ≤ _)⟩)
  dsimp only [Pt.U, Pt.locs, Pt.cells, Pt.slots] at X20 lq20 yq20 zq20 st20 hQ20
  have X20 := own_reb X20 lq20 yq20 zq20
  obtain ⟨nb_20, rfl, Nq20, Kq20, f20_0, f20_1, f20_2⟩ := hQ20
  have N20 := Fr.app N12 Nq20
  have Re26 := Re16.trans (CHr.keep Kq20 (allS (Safe.exa hZ15.alike c17 (by decide) (by decide)) all0) hCe16)
  have hCe26 := Re26.1
  have K20 : Keep h0 T20.heap [] := K15.trans Kq20 (allS (Or.inr sz_b1) all0)
  have Z20 : n0 ≤ T20.heap.size := Nat.le_trans Z15 Kq20.1
  have hk20 : _ ≤ T20.heap.size := Nat.le_trans hk15 Kq20.1
  have c28 := (c17.keep Kq20)
  obtain ⟨cq27, kq27, q27a, q27b, q27c⟩ := isOf hZ15 rfl c28
  obtain ⟨_, _, ⟨T27, Lw27, kw27, nw27⟩, -, X27, ⟨Lc27, hQ27, lq27, yq27, zq27⟩, st27⟩ := X20.virtualBack hx (y := (⟨"com/example/wireform/wireform/amf3/AmfInput", "endValue", "(I)V"⟩ : MethodName)) (z := (⟨"com/example/wireform/wireform/amf3/AmfInput", "endValue", "(I)V"⟩ : MethodName)) hown15 (mvT hZ15 (wd hw 66 rfl)) (mvT hZ15 (wd hw 67 rfl)) (notFace_of_selects (args := #[]) (mvT hZ15 (wd hw 69 rfl))) (mvT hZ15 (wd hw 69 rfl)) (mvT hZ15 (wd hw 68 rfl)) (by decide) (backOf (W := 0) (rmE l Z a0 hw [] b1 p3 b3 ((0 : Int32) + vA) (0 : Int32) T20.heap n0 Z20 c28 f20_0 f20_1 f20_2 g_b1) hZ15 (wd hw 70 rfl) (wd hw 2 rfl) (by decide) (by decide)) q27a q27c (g := (mkF m 64 #[vi p0, vi p1, vi p2, vi p3, vi vN, vi vA, vi vB, vr b1, vi (0 : Int32), uu, uu, uu] [(.int p3), (.ref b1)])) rfl (by rw [hml]; rfl) (Steps.refl _) (argsL := [(.int p3)]) (rest := []) (lenOf pd_1 rfl) rfl (by show 2 * 0 + _ ≤ _; exact Nat.le_of_eq rfl) (hb hby at_64) (fun _ _ => ⟨rfl, rfl, (by decide : 7 + 0 ≤ _), (by decide : 53 + 0 ≤ _)⟩)
  dsimp only [Pt.U, Pt.locs, Pt.cells, Pt.slots] at X27 lq27 yq27 zq27 st27 hQ27
  have X27 := own_reb X27 lq27 yq27 zq27
  obtain ⟨rfl, Nq27, Kq27, f27_0, f27_1, f27_2⟩ := hQ27
  have N27 := Fr.app N20 Nq27
  have Re29 := Re26.trans (CHr.keep Kq27 (allS (Safe.exa hZ15.alike c28 (by decide) (by decide)) all0) hCe26)
  have hCe29 := Re29.1
  have K27 : Keep h0 T27.heap [] := K20.trans Kq27 (allS (Or.inr sz_b1) all0)
  have Z27 : n0 ≤ T27.heap.size := Nat.le_trans Z20 Kq27.1
  have hk27 : _ ≤ T27.heap.size := Nat.le_trans hk20 Kq27.1
  have c31 := (c28.keep Kq27)
  obtain ⟨cq30, kq30, q30a, q30b, q30c⟩ := isOf hZ15 rfl c31
  obtain ⟨_, _, ⟨T30, Lw30, kw30, nw30⟩, -, X30, ⟨Lc30, hQ30, lq30, yq30, zq30⟩, st30⟩ := X27.virtualBack hx (y := (⟨"com/example/wireform/wireform/amf3/AmfInput", "startValue", "()I"⟩ : MethodName)) (z := (⟨"com/example/wireform/wireform/amf3/AmfInput", "startValue", "()I"⟩ : MethodName)) hown15 (mvT hZ15 (wd hw 34 rfl)) (mvT hZ15 (wd hw 35 rfl)) (notFace_of_selects (args := #[]) (mvT hZ15 (wd hw 37 rfl))) (mvT hZ15 (wd hw 37 rfl)) (mvT hZ15 (wd hw 36 rfl)) (by decide) (backOf (W := 0) (rmS l Z a0 hw [] b1 b3 ((0 : Int32) + vA) p3 T27.heap n0 Z27 c31 f27_0 f27_1 f27_2 g_b1) hZ15 (wd hw 38 rfl) (wd hw 2 rfl) (by decide) (by decide)) q30a q30c (g := (mkF m 69 #[vi p0, vi p1, vi p2, vi p3, vi vN, vi vA, vi vB, vr b1, vi (0 : Int32), uu, uu, uu] [(.ref b1)])) rfl (by rw [hml]; rfl) (Steps.refl _) (argsL := []) (rest := []) (lenOf pd_2 rfl) rfl (by show 2 * 0 + _ ≤ _; exact Nat.le_of_eq rfl) (hb hby at_69) (fun _ _ => ⟨rfl, rfl, (by decide : 7 + 0 ≤ _), (by decide : 53 + 0 ≤ _)⟩)
  dsimp only [Pt.U, Pt.locs, Pt.cells, Pt.slots] at X30 lq30 yq30 zq30 st30 hQ30
  have X30 := own_reb X30 lq30 yq30 zq30
  obtain ⟨rfl, Nq30, Kq30, f30_0, f30_1, f30_2⟩ := hQ30
  have N30 := Fr.app N27 Nq30
  have Re32 := Re29.trans (CHr.keep Kq30 (allS (Safe.exa hZ15.alike c31 (by decide) (by decide)) all0) hCe29)
  have hCe32 := Re32.1
  have K30 : Keep h0 T30.heap [] := K27.trans Kq30 (allS (Or.inr sz_b1) all0)
  have Z30 : n0 ≤ T30.heap.size := Nat.le_trans Z27 Kq30.1
  have hk30 : _ ≤ T30.heap.size := Nat.le_trans hk27 Kq30.1
  obtain ⟨b33, T33, h33, kk33, t33, kc33, X33, e33, E33, hS33, hk33, hZ33, hown33, fE33, fC33, fV33, fK33, lta33, ltb33, CH33, -, SF33, st33⟩ := ldcCH X30 hx hZ15 hown15 (wd hw 43 rfl) (fun d hd => hw d (own_strAtoms d hd)) rfl hS15 hk30 (own_EW hw) (by decide) hCe32 (vs := [(.int (120 : Int32))]) (z := (1 : Int32)) ⟨by decide, by decide⟩ (by decide) (by decide) (g := (mkF m 78 #[vi p0, vi p1, vi p2, vi p3, vi vN, vi vA, vi vB, vr b1, vi (0 : Int32), vi p3, uu, uu] [(.int vB), (.ref b1)])) rfl (hb hby at_78) (n := 4) (by decide) (by decide) (by decide) (by decide)
  have Re34 := Re32.trans CH33
  have hCe34 := Re34.1
  have c35 := ((c31.keep Kq30).ext E33)
  have nlb1_33 := SF33 b1 (Safe.exa hZ33.alike c35 (by decide) (by decide))
  have c36 := (((c24.keep Kq20 (ninS (Ne.symm ne_b1_b3) nin0)).keep Kq27 (ninS (Ne.symm ne_b1_b3) nin0)).keep Kq30 (ninS (Ne.symm ne_b1_b3) nin0))
  have c37 := (CHr.safe CH33 c36.lt (Safe.keep Kq30 (allS (Safe.exa hZ15.alike c31 (by decide) (by decide)) all0) hCe29 (Safe.keep Kq27 (allS (Safe.exa hZ15.alike c28 (by decide) (by decide)) all0) hCe26 (Safe.keep Kq20 (allS (Safe.exa hZ15.alike c17 (by decide) (by decide)) all0) hCe16 c19))))
  have nlb3_33 := SF33 b3 c37
  have K33 : Keep h0 h33 [] := K30.ext E33
  have Z33 : n0 ≤ h33.size := Nat.le_trans Z30 E33.1
  have c39 := ((((c21.keep Kq20).keep Kq27).keep Kq30).ext E33)
  have c40 := (f30_0.ext E33)
  have c41 := (f30_1.ext E33)
  have c42 := ((((c24.keep Kq20 (ninS (Ne.symm ne_b1_b3) nin0)).keep Kq27 (ninS (Ne.symm ne_b1_b3) nin0)).keep Kq30 (ninS (Ne.symm ne_b1_b3) nin0)).ext E33)
  have c43 := (f30_2.ext E33)
  obtain ⟨cq38, kq38, q38a, q38b, q38c⟩ := isOf hZ33 e33 c35
  obtain ⟨_, _, ⟨T38, Lw38, kw38, nw38⟩, -, X38, ⟨Lc38, hQ38, lq38, yq38, zq38⟩, st38⟩ := X33.virtualBack hx (y := (⟨"com/example/wireform/wireform/amf3/AmfInput", "readBytes", "(ILjava/lang/String;)[B"⟩ : MethodName)) (z := (⟨"com/example/wireform/wireform/amf3/AmfInput", "readBytes", "(ILjava/lang/String;)[B"⟩ : MethodName)) hown33 (mvT hZ33 (wd hw 44 rfl)) (mvT hZ33 (wd hw 45 rfl)) (notFace_of_selects (args := #[]) (mvT hZ33 (wd hw 47 rfl))) (mvT hZ33 (wd hw 47 rfl)) (mvT hZ33 (wd hw 46 rfl)) (by decide) (backOf (W := 0) (rmB l Z a0 hw [] b1 vB b33 b3 ((0 : Int32) + vA) k3 vN [] (.int (0 : Int32)) ((0 : Int32) + vA) h33 n0 Z33 c35 c39 c40 c41 c42 c43 g_b1 (own_3 a0_) b0_ (own_4 abn) (own_8 n7)) hZ33 (wd hw 48 rfl) (wd hw 2 rfl) (by decide) (by decide)) q38a q38c (g := (mkF m 80 #[vi p0, vi p1, vi p2, vi p3, vi vN, vi vA, vi vB, vr b1, vi (0 : Int32), vi p3, uu, uu] [(.ref b33), (.int vB), (.ref b1)])) rfl (by rw [hml]; rfl) (Steps.refl _) (argsL := [(.int vB), (.ref b33)]) (rest := []) (lenOf pd_28 rfl) rfl (by show 2 * 0 + _ ≤ _; exact Nat.le_of_eq rfl) (hb hby at_80) (fun _ _ => ⟨rfl, e33, (by decide : 9 + 1 ≤ _), (by decide : 61 + 8 ≤ _)⟩)
  dsimp only [Pt.U, Pt.locs, Pt.cells, Pt.slots] at X38 lq38 yq38 zq38 st38 hQ38
  have X38 := own_reb X38 lq38 yq38 zq38
  obtain ⟨nb_38, rfl, Nq38, Kq38, f38_0, f38_1, f38_2⟩ := hQ38
  have N38 := Fr.app N30 Nq38
  have Re44 := Re34.trans (CHr.keep Kq38 (allS (Safe.exa hZ33.alike c35 (by decide) (by decide)) all0) hCe34)
  have hCe44 := Re44.1
  have K38 : Keep h0 T38.heap [] := K33.trans Kq38 (allS (Or.inr sz_b1) all0)
  have Z38 : n0 ≤ T38.heap.size := Nat.le_trans Z33 Kq38.1
  have hk38 : _ ≤ T38.heap.size := Nat.le_trans hk33 Kq38.1
  have c46 := (c35.keep Kq38)
  obtain ⟨cq45, kq45, q45a, q45b, q45c⟩ := isOf hZ33 rfl c46
  obtain ⟨_, _, ⟨T45, Lw45, kw45, nw45⟩, -, X45, ⟨Lc45, hQ45, lq45, yq45, zq45⟩, st45⟩ := X38.virtualBack hx (y := (⟨"com/example/wireform/wireform/amf3/AmfInput", "startValue", "()I"⟩ : MethodName)) (z := (⟨"com/example/wireform/wireform/amf3/AmfInput", "startValue", "()I"⟩ : MethodName)) hown33 (mvT hZ33 (wd hw 34 rfl)) (mvT hZ33 (wd hw 35 rfl)) (notFace_of_selects (args := #[]) (mvT hZ33 (wd hw 37 rfl))) (mvT hZ33 (wd hw 37 rfl)) (mvT hZ33 (wd hw 36 rfl)) (by decide) (backOf (W := 0) (rmS l Z a0 hw [] b1 b3 (((0 : Int32) + vA) + vB) ((0 : Int32) + vA) T38.heap n0 Z38 c46 f38_0 f38_1 f38_2 g_b1) hZ33 (wd hw 38 rfl) (wd hw 2 rfl) (by decide) (by decide)) q45a q45c (g := (mkF m 86 #[vi p0, vi p1, vi p2, vi p3, vi vN, vi vA, vi vB, vr b1, vi (0 : Int32), vi p3, uu, uu] [(.ref b1)])) rfl (by rw [hml]; rfl) (Steps.refl _) (argsL := []) (rest := []) (lenOf pd_2 rfl) rfl (by show 2 * 0 + _ ≤ _; exact Nat.le_of_eq rfl) (hb hby at_86) (fun _ _ => ⟨rfl, rfl, (by decide : 10 + 0 ≤ _), (by decide : 69 + 0 ≤ _)⟩)
  dsimp only [Pt.U, Pt.locs, Pt.cells, Pt.slots] at X45 lq45 yq45 zq45 st45 hQ45
  have X45 := own_reb X45 lq45 yq45 zq45
  obtain ⟨rfl, Nq45, Kq45, f45_0, f45_1, f45_2⟩ := hQ45
  have N45 := Fr.app N38 Nq45
  have Re47 := Re44.trans (CHr.keep Kq45 (allS (Safe.exa hZ33.alike c46 (by decide) (by decide)) all0) hCe44)
  have hCe47 := Re47.1
  have K45 : Keep h0 T45.heap [] := K38.trans Kq45 (allS (Or.inr sz_b1) all0)
  have Z45 : n0 ≤ T45.heap.size := Nat.le_trans Z38 Kq45.1
  have hk45 : _ ≤ T45.heap.size := Nat.le_trans hk38 Kq45.1
  obtain ⟨b48, T48, h48, kk48, t48, kc48, X48, e48, E48, hS48, hk48, hZ48, hown48, fE48, fC48, fV48, fK48, lta48, ltb48, CH48, -, SF48, st48⟩ := ldcCH X45 hx hZ33 hown33 (wd hw 43 rfl) (fun d hd => hw d (own_strAtoms d hd)) rfl hS33 hk45 (own_EW hw) (by decide) hCe47 (vs := [(.int (120 : Int32))]) (z := (1 : Int32)) ⟨by decide, by decide⟩ (by decide) (by decide) (g := (mkF m 93 #[vi p0, vi p1, vi p2, vi p3, vi vN, vi vA, vi vB, vr b1, vi (0 : Int32), vi p3, vi ((0 : Int32) + vA), uu] [(.ref b1)])) rfl (hb hby at_93) (n := 4) (by decide) (by decide) (by decide) (by decide)
  have Re49 := Re47.trans CH48
  have hCe49 := Re49.1
  have c50 := ((c46.keep Kq45).ext E48)
  have nlb1_48 := SF48 b1 (Safe.exa hZ48.alike c50 (by decide) (by decide))
  have c51 := ((c42.keep Kq38 (ninS (Ne.symm ne_b1_b3) nin0)).keep Kq45 (ninS (Ne.symm ne_b1_b3) nin0))
  have c52 := (CHr.safe CH48 c51.lt (Safe.keep Kq45 (allS (Safe.exa hZ33.alike c46 (by decide) (by decide)) all0) hCe44 (Safe.keep Kq38 (allS (Safe.exa hZ33.alike c35 (by decide) (by decide)) all0) hCe34 c37)))
  have nlb3_48 := SF48 b3 c52
  have K48 : Keep h0 h48 [] := K45.ext E48
  have Z48 : n0 ≤ h48.size := Nat.le_trans Z45 E48.1
  have c54 := ((((((((((((uO.ext E1).ext E3).keep Kq5 (allS g_b1 all0)).keep Kq12 (allS g_b1 all0)).ext E15).keep Kq20 (allS g_b1 all0)).keep Kq27 (allS g_b1 all0)).keep Kq30 (allS g_b1 all0)).ext E33).keep Kq38 (allS g_b1 all0)).keep Kq45 (allS g_b1 all0)).ext E48)
  have c55 := (f45_2.ext E48)
  obtain ⟨cq53, kq53, q53a, q53b, q53c⟩ := isOf hZ48 e48 c50
  obtain ⟨_, _, ⟨T53, Lw53, kw53, nw53⟩, -, X53', hS53', hg53, ⟨Lc53, hQ53, lq53, yq53, zq53, CH53⟩, st53⟩ := X48.virtualBackS hx (y := (⟨"com/example/wireform/wireform/amf3/AmfInput", "failure", "(Ljava/lang/String;)Lcom/example/wireform/wireform/amf3/AmfDecodeException;"⟩ : MethodName)) (z := (⟨"com/example/wireform/wireform/amf3/AmfInput", "failure", "(Ljava/lang/String;)Lcom/example/wireform/wireform/amf3/AmfDecodeException;"⟩ : MethodName)) hown48 (mvT hZ48 (wd hw 71 rfl)) (mvT hZ48 (wd hw 72 rfl)) (notFace_of_selects (args := #[]) (mvT hZ48 (wd hw 74 rfl))) (mvT hZ48 (wd hw 74 rfl)) (mvT hZ48 (wd hw 73 rfl)) (by decide) (backOfSKH (W := 0) (rmF l Z a0 hw [] b1 b48 zc vu vq dg kd t48 kc48 [(.int (120 : Int32))] (((0 : Int32) + vA) + vB) h48 n0 Z48 c54 uS uP uLt uZu uRu uZs uRs uD uDV c50 c55 fE48 fV48 fC48 fK48 od.1 od.2.1 od.2.2.1 od.2.2.2.1 od.2.2.2.2) hZ48 (wd hw 75 rfl) (wd hw 2 rfl) (by decide) (by decide) (own_EW hw) hCe49 (Vm.MethodsKnown.alikeC hS48.1.alike hK.1) (Vm.FramesKnown.alikeC hS48.1.alike hK.2)) q53a q53c (g := (mkF m 95 #[vi p0, vi p1, vi p2, vi p3, vi vN, vi vA, vi vB, vr b1, vi (0 : Int32), vi p3, vi ((0 : Int32) + vA), uu] [(.ref b48), (.ref b1)])) rfl (by rw [hml]; rfl) (Steps.refl _) (argsL := [(.ref b48)]) (rest := []) (lenOf pd_29 rfl) rfl (by show 2 * 0 + _ ≤ _; exact Nat.le_of_eq rfl) (hb hby at_95) (fun _ _ => ⟨rfl, e48, (by decide : 12 + 11 ≤ _), (by decide : 77 + 2947 ≤ _)⟩)
  dsimp only [Pt.U, Pt.locs, Pt.cells, Pt.slots] at X53' hS53' hg53 lq53 yq53 zq53 st53 hQ53 CH53
  have X53' := own_reb X53' lq53 yq53 zq53
  obtain ⟨X53, hS53, hZ53, hown53⟩ := rebS hS48 (own_hk e48 hk48) X53' hS53' hg53 hZ48 hown48
  obtain ⟨nx_53, rfl, Nq53, Kq53, f53_0, f53_1, f53_2⟩ := hQ53
  have N53 := Fr.app N45 Nq53
  have ne_b1_nx_53 : b1 ≠ nx_53 := Nat.ne_of_lt (Nat.lt_of_lt_of_le c50.lt f53_0)
  have c56 := (((c42.keep Kq38 (ninS (Ne.symm ne_b1_b3) nin0)).keep Kq45 (ninS (Ne.symm ne_b1_b3) nin0)).ext E48)
  have ne_b3_nx_53 : b3 ≠ nx_53 := Nat.ne_of_lt (Nat.lt_of_lt_of_le c56.lt f53_0)
  have c57 := (((((((fE15.keep Kq20).keep Kq27).keep Kq30).ext E33).keep Kq38).keep Kq45).ext E48)
  have ne_b15_nx_53 : b15 ≠ nx_53 := Nat.ne_of_lt (Nat.lt_of_lt_of_le c57.lt f53_0)
  have c58 := (((((((fK15.keep Kq20 (ninS (Ne.symm nlb1_15.2) nin0)).keep Kq27 (ninS (Ne.symm nlb1_15.2) nin0)).keep Kq30 (ninS (Ne.symm nlb1_15.2) nin0)).ext E33).keep Kq38 (ninS (Ne.symm nlb1_15.2) nin0)).keep Kq45 (ninS (Ne.symm nlb1_15.2) nin0)).ext E48)
  have ne_t15_nx_53 : t15 ≠ nx_53 := Nat.ne_of_lt (Nat.lt_of_lt_of_le c58.lt f53_0)
  have c59 := (((fE33.keep Kq38).keep Kq45).ext E48)
  have ne_b33_nx_53 : b33 ≠ nx_53 := Nat.ne_of_lt (Nat.lt_of_lt_of_le c59.lt f53_0)
  have c60 := (((fK33.keep Kq38 (ninS (Ne.symm nlb1_33.2) nin0)).keep Kq45 (ninS (Ne.symm nlb1_33.2) nin0)).ext E48)
  have ne_t33_nx_53 : t33 ≠ nx_53 := Nat.ne_of_lt (Nat.lt_of_lt_of_le c60.lt f53_0)
  have ne_b48_nx_53 : b48 ≠ nx_53 := Nat.ne_of_lt (Nat.lt_of_lt_of_le fE48.lt f53_0)
  have ne_t48_nx_53 : t48 ≠ nx_53 := Nat.ne_of_lt (Nat.lt_of_lt_of_le fK48.lt f53_0)
  have g_nx_53 : n0 ≤ nx_53 := Nat.le_trans Z48 f53_0
  have sz_nx_53 : h0.size ≤ nx_53 := Nat.le_trans K48.1 f53_0
  have Re61 := Re49.trans CH53
  have hCe61 := Re61.1
  have K53 : Keep h0 T53.heap [] := K48.trans Kq53 all0
  have Z53 : n0 ≤ T53.heap.size := Nat.le_trans Z48 Kq53.1
  have hk53 : T53.heap.size ≤ T53.heap.size := Nat.le_refl _
  obtain ⟨cq62, kq62, q62a, q62b, q62c⟩ := isOf hZ53 rfl f53_1
  obtain ⟨_, _, ⟨T62, Lw62, kw62, nw62⟩, -, X62, ⟨Lc62, hQ62, lq62, yq62, zq62⟩, st62⟩ := X53.virtualBackUp hx (owner := "com/example/wireform/wireform/mapping/DecodeException") (x := (⟨"com/example/wireform/wireform/amf3/AmfDecodeException", "getOffset", "()I"⟩ : MethodName)) (y := (⟨"com/example/wireform/wireform/mapping/DecodeException", "getOffset", "()I"⟩ : MethodName)) hown53 (mvT hZ53 (wd hw 292 rfl)) (mvT hZ53 (wd hw 293 rfl)) (mvT hZ53 (wd hw 294 rfl)) (by decide) (mvT hZ53 (wd hw 296 rfl)) (mvT hZ53 (wd hw 295 rfl)) (backOf (W := 0) (rmG l Z a0 hw [] nx_53 (((0 : Int32) + vA) + vB) T53.heap n0 Z53 f53_2) hZ53 (wd hw 297 rfl) (wd hw 234 rfl) (by decide) (by decide)) q62a q62c (g := (mkF m 98 #[vi p0, vi p1, vi p2, vi p3, vi vN, vi vA, vi vB, vr b1, vi (0 : Int32), vi p3, vi ((0 : Int32) + vA), uu] [(.ref nx_53)])) rfl (by rw [hml]; rfl) (Steps.refl _) (argsL := []) (rest := []) (lenOf pd_2 rfl) rfl (by show 2 * 0 + _ ≤ _; exact Nat.le_of_eq rfl) (hb hby at_98) (fun _ _ => ⟨rfl, rfl, (by decide : 23 + 0 ≤ _), (by decide : 3024 + 0 ≤ _)⟩)
  dsimp only [Pt.U, Pt.locs, Pt.cells, Pt.slots] at X62 lq62 yq62 zq62 st62 hQ62
  have X62 := own_reb X62 lq62 yq62 zq62
  obtain ⟨rfl, Nq62, eh62⟩ := hQ62
  have N62 := Fr.app N53 Nq62
  obtain ⟨fs, hr, hrun, hended, en1, en2, en3, en4⟩ := X62.leaveW hS53 (own_hk eh62 hk53) (v := some (.int (nar .boolean (1 : Int32)))) (fun h => by rw [Bd.returns] at h; cases h)
  refine ⟨_, _, pre0 _ ?_, hrun, hended, _, _, rfl, ?_, own_chr (T := T62) hh eh62 (Re61.trans (CHv.at X62 hZ53 (own_EW hw) hCe61)), en1, en2, en3, en4.mono (by decide) (by decide)⟩
  · show SS p e below s₁ (mkF m 0 #[vi p0, vi p1, vi p2, vi p3, uu, uu, uu, uu, uu, uu, uu, uu] []) _
    refine XS.iloadN X0.here hx rfl (hb hby at_0) rfl ?_
    show SS p e below s₁ (mkF m 1 #[vi p0, vi p1, vi p2, vi p3, uu, uu, uu, uu, uu, uu, uu, uu] [(.int p0)]) _
    refine XS.bipush X0.here hx rfl (hb hby at_1) ?_
    show SS p e below s₁ (mkF m 3 #[vi p0, vi p1, vi p2, vi p3, uu, uu, uu, uu, uu, uu, uu, uu] [(.int (7 : Int32)), (.int p0)]) _
    refine XS.iand X0.here hx rfl (hb hby at_3) rfl ?_
    show SS p e below s₁ (mkF m 4 #[vi p0, vi p1, vi p2, vi p3, uu, uu, uu, uu, uu, uu, uu, uu] [(.int (p0 &&& (7 : Int32)))]) _
    rw [uN]
    show SS p e below s₁ (mkF m 4 #[vi p0, vi p1, vi p2, vi p3, uu, uu, uu, uu, uu, uu, uu, uu] [(.int vN)]) _
    refine XS.istore X0.here hx rfl (hb hby at_4) rfl (l' := #[vi p0, vi p1, vi p2, vi p3, vi vN, uu, uu, uu, uu, uu, uu, uu]) rfl ?_
    show SS p e below s₁ (mkF m 6 #[vi p0, vi p1, vi p2, vi p3, vi vN, uu, uu, uu, uu, uu, uu, uu] []) _
    refine XS.iloadN X0.here hx rfl (hb hby at_6) rfl ?_
    show SS p e below s₁ (mkF m 7 #[vi p0, vi p1, vi p2, vi p3, vi vN, uu, uu, uu, uu, uu, uu, uu] [(.int p1)]) _
    refine XS.bipush X0.here hx rfl (hb hby at_7) ?_
    show SS p e below s₁ (mkF m 9 #[vi p0, vi p1, vi p2, vi p3, vi vN, uu, uu, uu, uu, uu, uu, uu] [(.int (7 : Int32)), (.int p1)]) _
    refine XS.iand X0.here hx rfl (hb hby at_9) rfl ?_
    show SS p e below s₁ (mkF m 10 #[vi p0, vi p1, vi p2, vi p3, vi vN, uu, uu, uu, uu, uu, uu, uu] [(.int (p1 &&& (7 : Int32)))]) _
    refine XS.iload X0.here hx rfl (hb hby at_10) rfl ?_
    show SS p e below s₁ (mkF m 12 #[vi p0, vi p1, vi p2, vi p3, vi vN, uu, uu, uu, uu, uu, uu, uu] [(.int vN), (.int (p1 &&& (7 : Int32)))]) _
    refine XS.iconst X0.here hx rfl (hb hby at_12) ?_
    show SS p e below s₁ (mkF m 13 #[vi p0, vi p1, vi p2, vi p3, vi vN, uu, uu, uu, uu, uu, uu, uu] [(.int (1 : Int32)), (.int vN), (.int (p1 &&& (7 : Int32)))]) _
    refine XS.iadd X0.here hx rfl (hb hby at_13) rfl ?_
    show SS p e below s₁ (mkF m 14 #[vi p0, vi p1, vi p2, vi p3, vi vN, uu, uu, uu, uu, uu, uu, uu] [(.int (vN + (1 : Int32))), (.int (p1 &&& (7 : Int32)))]) _
    refine iremM X0 hx rfl (hb hby at_14) rfl unz ?_
    show SS p e below s₁ (mkF m 15 #[vi p0, vi p1, vi p2, vi p3, vi vN, uu, uu, uu, uu, uu, uu, uu] [(.int ((p1 &&& (7 : Int32)) % (vN + (1 : Int32))))]) _
    rw [uA]
    show SS p e below s₁ (mkF m 15 #[vi p0, vi p1, vi p2, vi p3, vi vN, uu, uu, uu, uu, uu, uu, uu] [(.int vA)]) _
    refine XS.istore X0.here hx rfl (hb hby at_15) rfl (l' := #[vi p0, vi p1, vi p2, vi p3, vi vN, vi vA, uu, uu, uu, uu, uu, uu]) rfl ?_
    show SS p e below s₁ (mkF m 17 #[vi p0, vi p1, vi p2, vi p3, vi vN, vi vA, uu, uu, uu, uu, uu, uu] []) _
    refine XS.iloadN X0.here hx rfl (hb hby at_17) rfl ?_
    show SS p e below s₁ (mkF m 18 #[vi p0, vi p1, vi p2, vi p3, vi vN, vi vA, uu, uu, uu, uu, uu, uu] [(.int p2)]) _
    refine XS.bipush X0.here hx rfl (hb hby at_18) ?_
    show SS p e below s₁ (mkF m 20 #[vi p0, vi p1, vi p2, vi p3, vi vN, vi vA, uu, uu, uu, uu, uu, uu] [(.int (7 : Int32)), (.int p2)]) _
    refine XS.iand X0.here hx rfl (hb hby at_20) rfl ?_
    show SS p e below s₁ (mkF m 21 #[vi p0, vi p1, vi p2, vi p3, vi vN, vi vA, uu, uu, uu, uu, uu, uu] [(.int (p2 &&& (7 : Int32)))]) _
    refine XS.iload X0.here hx rfl (hb hby at_21) rfl ?_
    show SS p e below s₁ (mkF m 23 #[vi p0, vi p1, vi p2, vi p3, vi vN, vi vA, uu, uu, uu, uu, uu, uu] [(.int vN), (.int (p2 &&& (7 : Int32)))]) _
    refine XS.iload X0.here hx rfl (hb hby at_23) rfl ?_
    show SS p e below s₁ (mkF m 25 #[vi p0, vi p1, vi p2, vi p3, vi vN, vi vA, uu, uu, uu, uu, uu, uu] [(.int vA), (.int vN), (.int (p2 &&& (7 : Int32)))]) _
    refine XS.isub X0.here hx rfl (hb hby at_25) rfl ?_
    show SS p e below s₁ (mkF m 26 #[vi p0, vi p1, vi p2, vi p3, vi vN, vi vA, uu, uu, uu, uu, uu, uu] [(.int (vN - vA)), (.int (p2 &&& (7 : Int32)))]) _
    refine XS.iconst X0.here hx rfl (hb hby at_26) ?_
    show SS p e below s₁ (mkF m 27 #[vi p0, vi p1, vi p2, vi p3, vi vN, vi vA, uu, uu, uu, uu, uu, uu] [(.int (1 : Int32)), (.int (vN - vA)), (.int (p2 &&& (7 : Int32)))]) _
    refine XS.iadd X0.here hx rfl (hb hby at_27) rfl ?_
    show SS p e below s₁ (mkF m 28 #[vi p0, vi p1, vi p2, vi p3, vi vN, vi vA, uu, uu, uu, uu, uu, uu] [(.int ((vN - vA) + (1 : Int32))), (.int (p2 &&& (7 : Int32)))]) _
    refine iremM X0 hx rfl (hb hby at_28) rfl unz2 ?_
    show SS p e below s₁ (mkF m 29 #[vi p0, vi p1, vi p2, vi p3, vi vN, vi vA, uu, uu, uu, uu, uu, uu] [(.int ((p2 &&& (7 : Int32)) % ((vN - vA) + (1 : Int32))))]) _
    rw [uB]
    show SS p e below s₁ (mkF m 29 #[vi p0, vi p1, vi p2, vi p3, vi vN, vi vA, uu, uu, uu, uu, uu, uu] [(.int vB)]) _
    refine XS.istore X0.here hx rfl (hb hby at_29) rfl (l' := #[vi p0, vi p1, vi p2, vi p3, vi vN, vi vA, vi vB, uu, uu, uu, uu, uu]) rfl ?_
    show SS p e below s₁ (mkF m 31 #[vi p0, vi p1, vi p2, vi p3, vi vN, vi vA, vi vB, uu, uu, uu, uu, uu] []) _
    refine st1 _ ?_
    show SS p e below T1 (mkF m 34 #[vi p0, vi p1, vi p2, vi p3, vi vN, vi vA, vi vB, uu, uu, uu, uu, uu] [(.ref b1)]) _
    refine XS.dup X1.here hx rfl (hb hby at_34) rfl rfl ?_
    show SS p e below T1 (mkF m 35 #[vi p0, vi p1, vi p2, vi p3, vi vN, vi vA, vi vB, uu, uu, uu, uu, uu] [(.ref b1), (.ref b1)]) _
    refine XS.iload X1.here hx rfl (hb hby at_35) rfl ?_
    show SS p e below T1 (mkF m 37 #[vi p0, vi p1, vi p2, vi p3, vi vN, vi vA, vi vB, uu, uu, uu, uu, uu] [(.int vN), (.ref b1), (.ref b1)]) _
    refine st3 _ ?_
    show SS p e below T3 (mkF m 39 #[vi p0, vi p1, vi p2, vi p3, vi vN, vi vA, vi vB, uu, uu, uu, uu, uu] [(.ref b3), (.ref b1), (.ref b1)]) _
    refine st5.trans ?_
    show SS p e below T5 (mkF m 42 #[vi p0, vi p1, vi p2, vi p3, vi vN, vi vA, vi vB, uu, uu, uu, uu, uu] [(.ref b1)]) _
    refine XS.astore X5.here hx rfl (hb hby at_42) rfl rfl (l' := #[vi p0, vi p1, vi p2, vi p3, vi vN, vi vA, vi vB, vr b1, uu, uu, uu, uu]) rfl ?_
    show SS p e below T5 (mkF m 44 #[vi p0, vi p1, vi p2, vi p3, vi vN, vi vA, vi vB, vr b1, uu, uu, uu, uu] []) _
    refine XS.aload X5.here hx rfl (hb hby at_44) rfl rfl ?_
    show SS p e below T5 (mkF m 46 #[vi p0, vi p1, vi p2, vi p3, vi vN, vi vA, vi vB, vr b1, uu, uu, uu, uu] [(.ref b1)]) _
    refine st12.trans ?_
    show SS p e below T12 (mkF m 49 #[vi p0, vi p1, vi p2, vi p3, vi vN, vi vA, vi vB, vr b1, uu, uu, uu, uu] [(.int (0 : Int32))]) _
    refine XS.istore X12.here hx rfl (hb hby at_49) rfl (l' := #[vi p0, vi p1, vi p2, vi p3, vi vN, vi vA, vi vB, vr b1, vi (0 : Int32), uu, uu, uu]) rfl ?_
    show SS p e below T12 (mkF m 51 #[vi p0, vi p1, vi p2, vi p3, vi vN, vi vA, vi vB, vr b1, vi (0 : Int32), uu, uu, uu] []) _
    refine XS.aload X12.here hx rfl (hb hby at_51) rfl rfl ?_
    show SS p e below T12 (mkF m 53 #[vi p0, vi p1, vi p2, vi p3, vi vN, vi vA, vi vB, vr b1, vi (0 : Int32), uu, uu, uu] [(.ref b1)]) _
    refine XS.iload X12.here hx rfl (hb hby at_53) rfl ?_
    show SS p e below T12 (mkF m 55 #[vi p0, vi p1, vi p2, vi p3, vi vN, vi vA, vi vB, vr b1, vi (0 : Int32), uu, uu, uu] [(.int vA), (.ref b1)]) _
    refine st15 _ ?_
    show SS p e below T15 (mkF m 57 #[vi p0, vi p1, vi p2, vi p3, vi vN, vi vA, vi vB, vr b1, vi (0 : Int32), uu, uu, uu] [(.ref b15), (.int vA), (.ref b1)]) _
    refine st20.trans ?_
    show SS p e below T20 (mkF m 60 #[vi p0, vi p1, vi p2, vi p3, vi vN, vi vA, vi vB, vr b1, vi (0 : Int32), uu, uu, uu] [(.ref nb_20)]) _
    refine XS.pop X20.here hx rfl (hb hby at_60) rfl rfl ?_
    show SS p e below T20 (mkF m 61 #[vi p0, vi p1, vi p2, vi p3, vi vN, vi vA, vi vB, vr b1, vi (0 : Int32), uu, uu, uu] []) _
    refine XS.aload X20.here hx rfl (hb hby at_61) rfl rfl ?_
    show SS p e below T20 (mkF m 63 #[vi p0, vi p1, vi p2, vi p3, vi vN, vi vA, vi vB, vr b1, vi (0 : Int32), uu, uu, uu] [(.ref b1)]) _
    refine XS.iloadN X20.here hx rfl (hb hby at_63) rfl ?_
    show SS p e below T20 (mkF m 64 #[vi p0, vi p1, vi p2, vi p3, vi vN, vi vA, vi vB, vr b1, vi (0 : Int32), uu, uu, uu] [(.int p3), (.ref b1)]) _
    refine st27.trans ?_
    show SS p e below T27 (mkF m 67 #[vi p0, vi p1, vi p2, vi p3, vi vN, vi vA, vi vB, vr b1, vi (0 : Int32), uu, uu, uu] []) _
    refine XS.aload X27.here hx rfl (hb hby at_67) rfl rfl ?_
    show SS p e below T27 (mkF m 69 #[vi p0, vi p1, vi p2, vi p3, vi vN, vi vA, vi vB, vr b1, vi (0 : Int32), uu, uu, uu] [(.ref b1)]) _
    refine st30.trans ?_
    show SS p e below T30 (mkF m 72 #[vi p0, vi p1, vi p2, vi p3, vi vN, vi vA, vi vB, vr b1, vi (0 : Int32), uu, uu, uu] [(.int p3)]) _
    refine XS.istore X30.here hx rfl (hb hby at_72) rfl (l' := #[vi p0, vi p1, vi p2, vi p3, vi vN, vi vA, vi vB, vr b1, vi (0 : Int32), vi p3, uu, uu]) rfl ?_
    show SS p e below T30 (mkF m 74 #[vi p0, vi p1, vi p2, vi p3, vi vN, vi vA, vi vB, vr b1, vi (0 : Int32), vi p3, uu, uu] []) _
    refine XS.aload X30.here hx rfl (hb hby at_74) rfl rfl ?_
    show SS p e below T30 (mkF m 76 #[vi p0, vi p1, vi p2, vi p3, vi vN, vi vA, vi vB, vr b1, vi (0 : Int32), vi p3, uu, uu] [(.ref b1)]) _
    refine XS.iload X30.here hx rfl (hb hby at_76) rfl ?_
    show SS p e below T30 (mkF m 78 #[vi p0, vi p1, vi p2, vi p3, vi vN, vi vA, vi vB, vr b1, vi (0 : Int32), vi p3, uu, uu] [(.int vB), (.ref b1)]) _
    refine st33 _ ?_
    show SS p e below T33 (mkF m 80 #[vi p0, vi p1, vi p2, vi p3, vi vN, vi vA, vi vB, vr b1, vi (0 : Int32), vi p3, uu, uu] [(.ref b33), (.int vB), (.ref b1)]) _
    refine st38.trans ?_
    show SS p e below T38 (mkF m 83 #[vi p0, vi p1, vi p2, vi p3, vi vN, vi vA, vi vB, vr b1, vi (0 : Int32), vi p3, uu, uu] [(.ref nb_38)]) _
    refine XS.pop X38.here hx rfl (hb hby at_83) rfl rfl ?_
    show SS p e below T38 (mkF m 84 #[vi p0, vi p1, vi p2, vi p3, vi vN, vi vA, vi vB, vr b1, vi (0 : Int32), vi p3, uu, uu] []) _
    refine XS.aload X38.here hx rfl (hb hby at_84) rfl rfl ?_
    show SS p e below T38 (mkF m 86 #[vi p0, vi p1, vi p2, vi p3, vi vN, vi vA, vi vB, vr b1, vi (0 : Int32), vi p3, uu, uu] [(.ref b1)]) _
    refine st45.trans ?_
    show SS p e below T45 (mkF m 89 #[vi p0, vi p1, vi p2, vi p3, vi vN, vi vA, vi vB, vr b1, vi (0 : Int32), vi p3, uu, uu] [(.int ((0 : Int32) + vA))]) _
    refine XS.istore X45.here hx rfl (hb hby at_89) rfl (l' := #[vi p0, vi p1, vi p2, vi p3, vi vN, vi vA, vi vB, vr b1, vi (0 : Int32), vi p3, vi ((0 : Int32) + vA), uu]) rfl ?_
    show SS p e below T45 (mkF m 91 #[vi p0, vi p1, vi p2, vi p3, vi vN, vi vA, vi vB, vr b1, vi (0 : Int32), vi p3, vi ((0 : Int32) + vA), uu] []) _
    refine XS.aload X45.here hx rfl (hb hby at_91) rfl rfl ?_
    show SS p e below T45 (mkF m 93 #[vi p0, vi p1, vi p2, vi p3, vi vN, vi vA, vi vB, vr b1, vi (0 : Int32), vi p3, vi ((0 : Int32) + vA), uu] [(.ref b1)]) _
    refine st48 _ ?_
    show SS p e below T48 (mkF m 95 #[vi p0, vi p1, vi p2, vi p3, vi vN, vi vA, vi vB, vr b1, vi (0 : Int32), vi p3, vi ((0 : Int32) + vA), uu] [(.ref b48), (.ref b1)]) _
    refine st53.trans ?_
    show SS p e below T53 (mkF m 98 #[vi p0, vi p1, vi p2, vi p3, vi vN, vi vA, vi vB, vr b1, vi (0 : Int32), vi p3, vi ((0 : Int32) + vA), uu] [(.ref nx_53)]) _
    refine st62.trans ?_
    show SS p e below T62 (mkF m 101 #[vi p0, vi p1, vi p2, vi p3, vi vN, vi vA, vi vB, vr b1, vi (0 : Int32), vi p3, vi ((0 : Int32) + vA), uu] [(.int (((0 : Int32) + vA) + vB))]) _
    refine XS.istore X62.here hx rfl (hb hby at_101) rfl (l' := #[vi p0, vi p1, vi p2, vi p3, vi vN, vi vA, vi vB, vr b1, vi (0 : Int32), vi p3, vi ((0 : Int32) + vA), vi (((0 : Int32) + vA) + vB)]) rfl ?_
    show SS p e below T62 (mkF m 103 #[vi p0, vi p1, vi p2, vi p3, vi vN, vi vA, vi vB, vr b1, vi (0 : Int32), vi p3, vi ((0 : Int32) + vA), vi (((0 : Int32) + vA) + vB)] []) _
    refine XS.iload X62.here hx rfl (hb hby at_103) rfl ?_
    show SS p e below T62 (mkF m 105 #[vi p0, vi p1, vi p2, vi p3, vi vN, vi vA, vi vB, vr b1, vi (0 : Int32), vi p3, vi ((0 : Int32) + vA), vi (((0 : Int32) + vA) + vB)] [(.int (0 : Int32))]) _
    refine XS.ifNo X62.here hx rfl (hb hby at_105) rfl ((if0 _ _).trans (teq (by decide : (0 : Int32) = (0 : Int32))).2) ?_
    show SS p e below T62 (mkF m 108 #[vi p0, vi p1, vi p2, vi p3, vi vN, vi vA, vi vB, vr b1, vi (0 : Int32), vi p3, vi ((0 : Int32) + vA), vi (((0 : Int32) + vA) + vB)] []) _
    refine XS.iload X62.here hx rfl (hb hby at_108) rfl ?_
    show SS p e below T62 (mkF m 110 #[vi p0, vi p1, vi p2, vi p3, vi vN, vi vA, vi vB, vr b1, vi (0 : Int32), vi p3, vi ((0 : Int32) + vA), vi (((0 : Int32) + vA) + vB)] [(.int p3)]) _
    refine XS.iloadN X62.here hx rfl (hb hby at_110) rfl ?_
    show SS p e below T62 (mkF m 111 #[vi p0, vi p1, vi p2, vi p3, vi vN, vi vA, vi vB, vr b1, vi (0 : Int32), vi p3, vi ((0 : Int32) + vA), vi (((0 : Int32) + vA) + vB)] [(.int p3), (.int p3)]) _
    refine XS.icmpNo X62.here hx rfl (hb hby at_111) rfl (teq (rfl : p3 = p3)).2 ?_
    show SS p e below T62 (mkF m 114 #[vi p0, vi p1, vi p2, vi p3, vi vN, vi vA, vi vB, vr b1, vi (0 : Int32), vi p3, vi ((0 : Int32) + vA), vi (((0 : Int32) + vA) + vB)] []) _
    refine XS.iload X62.here hx rfl (hb hby at_114) rfl ?_
    show SS p e below T62 (mkF m 116 #[vi p0, vi p1, vi p2, vi p3, vi vN, vi vA, vi vB, vr b1, vi (0 : Int32), vi p3, vi ((0 : Int32) + vA), vi (((0 : Int32) + vA) + vB)] [(.int ((0 : Int32) + vA))]) _
    refine XS.iload X62.here hx rfl (hb hby at_116) rfl ?_
    show SS p e below T62 (mkF m 118 #[vi p0, vi p1, vi p2, vi p3, vi vN, vi vA, vi vB, vr b1, vi (0 : Int32), vi p3, vi ((0 : Int32) + vA), vi (((0 : Int32) + vA) + vB)] [(.int vA), (.int ((0 : Int32) + vA))]) _
    refine XS.icmpNo X62.here hx rfl (hb hby at_118) rfl (teq (oz : ((0 : Int32) + vA) = vA)).2 ?_
    show SS p e below T62 (mkF m 121 #[vi p0, vi p1, vi p2, vi p3, vi vN, vi vA, vi vB, vr b1, vi (0 : Int32), vi p3, vi ((0 : Int32) + vA), vi (((0 : Int32) + vA) + vB)] []) _
    refine XS.iload X62.here hx rfl (hb hby at_121) rfl ?_
    show SS p e below T62 (mkF m 123 #[vi p0, vi p1, vi p2, vi p3, vi vN, vi vA, vi vB, vr b1, vi (0 : Int32), vi p3, vi ((0 : Int32) + vA), vi (((0 : Int32) + vA) + vB)] [(.int (((0 : Int32) + vA) + vB))]) _
    refine XS.iload X62.here hx rfl (hb hby at_123) rfl ?_
    show SS p e below T62 (mkF m 125 #[vi p0, vi p1, vi p2, vi p3, vi vN, vi vA, vi vB, vr b1, vi (0 : Int32), vi p3, vi ((0 : Int32) + vA), vi (((0 : Int32) + vA) + vB)] [(.int vA), (.int (((0 : Int32) + vA) + vB))]) _
    refine XS.iload X62.here hx rfl (hb hby at_125) rfl ?_
    show SS p e below T62 (mkF m 127 #[vi p0, vi p1, vi p2, vi p3, vi vN, vi vA, vi vB, vr b1, vi (0 : Int32), vi p3, vi ((0 : Int32) + vA), vi (((0 : Int32) + vA) + vB)] [(.int vB), (.int vA), (.int (((0 : Int32) + vA) + vB))]) _
    refine XS.iadd X62.here hx rfl (hb hby at_127) rfl ?_
    show SS p e below T62 (mkF m 128 #[vi p0, vi p1, vi p2, vi p3, vi vN, vi vA, vi vB, vr b1, vi (0 : Int32), vi p3, vi ((0 : Int32) + vA), vi (((0 : Int32) + vA) + vB)] [(.int (vA + vB)), (.int (((0 : Int32) + vA) + vB))]) _
    refine XS.icmpNo X62.here hx rfl (hb hby at_128) rfl (teq (by rw [oz] : (((0 : Int32) + vA) + vB) = (vA + vB))).2 ?_
    show SS p e below T62 (mkF m 131 #[vi p0, vi p1, vi p2, vi p3, vi vN, vi vA, vi vB, vr b1, vi (0 : Int32), vi p3, vi ((0 : Int32) + vA), vi (((0 : Int32) + vA) + vB)] []) _
    refine XS.iconst X62.here hx rfl (hb hby at_131) ?_
    show SS p e below T62 (mkF m 132 #[vi p0, vi p1, vi p2, vi p3, vi vN, vi vA, vi vB, vr b1, vi (0 : Int32), vi p3, vi ((0 : Int32) + vA), vi (((0 : Int32) + vA) + vB)] [(.int (1 : Int32))]) _
    refine XS.goto X62.here hx rfl (pc0 := 132) (pc' := 136) rfl (hb hby at_132) (by decide) (by decide) ?_
    show SS p e below T62 (mkF m 136 #[vi p0, vi p1, vi p2, vi p3, vi vN, vi vA, vi vB, vr b1, vi (0 : Int32), vi p3, vi ((0 : Int32) + vA), vi (((0 : Int32) + vA) + vB)] [(.int (1 : Int32))]) _
    exact retN X62 hx (t := .boolean) Bd.returns (by simp) (hb hby at_136) hr
  · show Q_rm0 Z p0 p1 p2 p3 zc vu vq dg kd vN vA vB h0 n0 _ T62.heap _
    rw [eh62]
    exact ⟨rfl, N62⟩
theorem own_g (x y z : Int32) : ((x &&& (7 : Int32)) + (1 : Int32)) ≠ 0 ∧ (((x &&& (7 : Int32)) - ((y &&& (7 : Int32)) % ((x &&& (7 : Int32)) + (1 : Int32)))) + (1 : Int32)) ≠ 0 ∧ 0 ≤ (x &&& (7 : Int32)).toInt ∧ (x &&& (7 : Int32)).toInt ≤ 7 ∧ 0 ≤ ((y &&& (7 : Int32)) % ((x &&& (7 : Int32)) + (1 : Int32))).toInt ∧ 0 ≤ ((z &&& (7 : Int32)) % (((x &&& (7 : Int32)) - ((y &&& (7 : Int32)) % ((x &&& (7 : Int32)) + (1 : Int32)))) + (1 : Int32))).toInt ∧ ((y &&& (7 : Int32)) % ((x &&& (7 : Int32)) + (1 : Int32))).toInt + ((z &&& (7 : Int32)) % (((x &&& (7 : Int32)) - ((y &&& (7 : Int32)) % ((x &&& (7 : Int32)) + (1 : Int32)))) + (1 : Int32))).toInt ≤ (x &&& (7 : Int32)).toInt := by
  have hx := own_and7 x
  have hy := own_and7 y
  have hz := own_and7 z
  generalize (x &&& (7 : Int32)) = n at *
  generalize (y &&& (7 : Int32)) = b at *
  generalize (z &&& (7 : Int32)) = d at *
  have e1 : ((1 : Int32)).toInt = 1 := by decide
  have e0 : ((0 : Int32)).toInt = 0 := by decide
  have h1 := c_iadd n (1 : Int32)
  have h1r := rng32 (n + (1 : Int32))
  have q := (c_iremV b (n + (1 : Int32))).1 hy.1 (by omega)
  generalize (b % (n + (1 : Int32))) = A at *
  have h2 := c_isub n A
  have h2r := rng32 (n - A)
  have h3 := c_iadd (n - A) (1 : Int32)
  have h3r := rng32 ((n - A) + (1 : Int32))
  have q2 := (c_iremV d ((n - A) + (1 : Int32))).1 hz.1 (by omega)
  generalize (d % ((n - A) + (1 : Int32))) = B at *
  refine ⟨fun e => ?_, fun e => ?_, hx.1, hx.2, by omega, by omega, by omega⟩
  · rw [e] at h1; omega
  · rw [e] at h3; omega
set_option maxRecDepth 65536 in
set_option maxHeartbeats 40000000 in
theorem comes_1 {Post : Tables → Env → Array Value → State → Outcome → State → Prop} (hpost : ∀ tb e args s v u, (limb_1_1.after args s (.returned v) u = true ∧ limb_1_2.after args s (.returned v) u = true ∧ True) → ReturnedEndW s (.returned v) u (Jvm.fieldLocs frame_1_writes args s ++ Jvm.arrayLocs frame_1_arrays args s ++ Jvm.staticLocs frame_1_statics s) 40 9920 → Post tb e args s (.returned v) u) :
    ArmFor flags0 classFile x code maxLocals ret World_1 tables_1 room_1 Calls_1 rest_1 Pre_1 Post := by
  intro l hfl _ _ p e ha hc hk s m args below hf hA hF happ hP
  obtain ⟨hcalls, hrest, hpre⟩ := hP
  obtain ⟨-, -, -, hnamed, -, -, -, hat⟩ := (Spec.applies_iff hf).mp happ
  obtain ⟨hg, hn⟩ := and_e (Cond.before_iff.mp (show (Jvm.Cond.and given_1 narrow_1).before args s = true from hpre))
  obtain ⟨g1, g2⟩ := and_e hg
  obtain ⟨g3, g4⟩ := and_e g2
  obtain ⟨g5, g6⟩ := and_e g4
  obtain ⟨g7, g8⟩ := and_e g6
  obtain ⟨w0, w1, w2, w3, rfl⟩ : ∃ w0 w1 w2 w3 : Value, args = #[w0, w1, w2, w3] := by
    have hs : args.size = 4 := by simpa [Cond.value, given_1] using g1
    obtain ⟨L⟩ := args
    match L, hs with
    | [w0, w1, w2, w3], _ => exact ⟨w0, w1, w2, w3, rfl⟩
  have hw := fun d (hd : d ∈ tables_1) => atoms_spec (ws := Jvm.Cond.code x code maxLocals ret :: tables_1) hat d (List.mem_cons_of_mem _ hd)
  have hfit : Fit s := fun {y c} hc i hi => by
    obtain ⟨ha, rfl⟩ := Array.getElem?_eq_some_iff.mp hc
    have q := List.all_eq_true.mp ((Array.all_eq_true_iff_forall_mem.mp hF) _ (Array.getElem_mem ha)) i (List.mem_range.mpr hi)
    simpa [Array.getElem?_eq_getElem hi] using q
  obtain ⟨hsets, hown0⟩ := atoms_of _ (rest_1_c_eq ▸ (show rest_1_c.before _ s = true from hrest))
  obtain ⟨i0, ei0⟩ := is_v g3
  obtain rfl : w0 = (.int i0) := Option.some.inj ei0
  obtain ⟨i1, ei1⟩ := is_v g5
  obtain rfl : w1 = (.int i1) := Option.some.inj ei1
  obtain ⟨i2, ei2⟩ := is_v g7
  obtain rfl : w2 = (.int i2) := Option.some.inj ei2
  obtain ⟨i3, ei3⟩ := is_v g8
  obtain rfl : w3 = (.int i3) := Option.some.inj ei3
  obtain ⟨zc, ezc⟩ := is_v (Cond.before_iff.mp (hsets _ (List.mem_of_getElem? (i := 1) rfl)))
  have uS := Sta.start ezc (Or.inl (hsets _ (List.mem_of_getElem? (i := 0) rfl)))
  have uP : ¬ zc = 0 := gotF (Cond.eq_ints ezc (Term.int_eval (0))) (not_v (Cond.before_iff.mp (hsets _ (List.mem_of_getElem? (i := 2) rfl))))
  obtain ⟨dg, kd, edg, uDV⟩ := own_digits (fun _ => rfl) (wd hw 3 rfl) (hsets _ (List.mem_of_getElem? (i := 12) rfl)) (hsets _ (List.mem_of_getElem? (i := 13) rfl)) (hsets _ (List.mem_of_getElem? (i := 14) rfl))
  have uD := Sta.start edg (Or.inl (hsets _ (List.mem_of_getElem? (i := 11) rfl)))
  have uLt : l.stackTraces = true := by
    show (!l.flags.contains noTraceFlag) = true
    rw [hfl]; decide +kernel
  have og := own_g i0 i1 i2
  obtain ⟨vu, evu, uRu⟩ := isR_v (Cond.before_iff.mp (hsets _ (List.mem_of_getElem? (i := 27) rfl)))
  have uZu := Sta.start evu (Or.inl (hsets _ (List.mem_of_getElem? (i := 26) rfl)))
  obtain ⟨vq, evq, uRs⟩ := isR_v (Cond.before_iff.mp (hsets _ (List.mem_of_getElem? (i := 32) rfl)))
  have uZs := Sta.start evq (Or.inl (hsets _ (List.mem_of_getElem? (i := 31) rfl)))
  have hCH : CHv s own_EL s.vm s.heap := CHv.start (own_EW hw) (show Jvm.D.constsHeld consts_1 s from hcalls.2.2.1) (hsets _ (List.mem_of_getElem? (i := 2) rfl)) (wd hw 3 rfl) (wd hw 15 rfl)
  obtain ⟨n, o, h1, h2, h3, _, L, rfl, ⟨rfl, N⟩, -, hq⟩ := rm0 l s _ hw tables_1 i0 i1 i2 i3 zc vu vq dg kd _ _ _ s.heap s.heap.size (Nat.le_refl _) (Old.start s) uS uP uLt uZu uRu uZs uRs uD uDV rfl rfl rfl og.1 og.2.1 og.2.2.1 og.2.2.2.1 og.2.2.2.2.1 og.2.2.2.2.2.1 og.2.2.2.2.2.2 p e ha hc hk s m _ below hf ((Spec.applies_iff_loose hf).mp happ).1 ⟨rfl, State.Warmed39.refl s, rfl, hCH⟩ ⟨hcalls.1, hcalls.2.1⟩
  refine ⟨n, _, h1, h2, h3, hpost _ _ _ _ _ _ ⟨Cond.after_iff.mpr rfl, Cond.after_iff.mpr (eq_i res_at (Term.int_eval (1)) rfl), trivial⟩ ⟨hq.1, hq.2.1, hq.2.2.1, (hq.2.2.2.sift fun y hy => Or.inr (N y hy)).mono (by decide) (by decide)⟩⟩
theorem main_1_1 : Claimed_1_1 := comes_1 fun _ _ _ _ _ _ h hF => ⟨h.1, hF⟩
theorem main_1_2 : Claimed_1_2 := comes_1 fun _ _ _ _ _ _ h hF => ⟨h.2.1, hF⟩
end Jvm.Pilot.@@N@@
namespace Jvm.Pilot.@@N@@
open Jvm Jvm.ClassFile Sem Op Lib Jvm.Free Jvm.Stand Jvm.Pilot.@@N@@.Jvm.D
/-! MADE BY PROGRAM (witnessworld.py) out of the Statement's table words and the real class files: 45 classes; the members and pool entries that the words name. The judged class is class 1, her method 1. -/
namespace start1
open Jvm.ClassFile
def u (s : String) : CpInfo := .utf8 (stringToUtf16 s)
/-- a pool by its gaps: so many unusable entries, then the entry; so many at the end -/
def gap : Nat → List CpInfo → List CpInfo
  | 0, r => r
  | n + 1, r => .unusable :: gap n r
def poolList (es : List (Nat × CpInfo)) (last : Nat) : List CpInfo := es.foldr (fun e r => gap e.1 (e.2 :: r)) (gap last [])
def pool (es : List (Nat × CpInfo)) (last : Nat) : Array CpInfo := ⟨poolList es last⟩
def fileOf (pool : Array CpInfo) (this : Nat) (attrs : Array Attribute := #[]) (ms : Array MethodInfo := #[]) (fl : Nat := 33) (sup : Nat := 0) (ifs : Array Nat := #[]) (fds : Array FieldInfo := #[]) : ClassFile where
  minorVersion := 0
  majorVersion := 65
  constantPool := pool
  accessFlags := fl
  thisClass := this
  superClass := sup
  interfaces := ifs
  fields := fds
  methods := ms
  attributes := attrs
def plain (name : String) (sup : Option ClassId) : Class where
  name := name
  kind := .ordinary
  loader := none
  accessFlags := 33
  super := sup
  interfaces := #[]
  cf := none
  fields := #[]
  methods := #[]
  instanceTypes := #[]
  staticTypes := #[]
  resolved := #[]
  callSites := []
  init := .initialized
  statics := none
  mirror := none

def pool0 : Array CpInfo := pool [(5, u "<init>"), (0, u "()V"), (1, .class_ 10), (1, u "java/lang/Object"), (85, u "clone"), (0, u "()Ljava/lang/Object;")] 26

def k0c0 : Code := { maxStack := 0, maxLocals := 1, code := object_method_1_code, exceptionTable := #[], attributes := #[] }
def k0m0 : Method := { name := "<init>", desc := "()V", sig := { parameters := [], returnType := none }, accessFlags := 1, code := some k0c0 }
def k0m1 : Method := { name := "clone", desc := "()Ljava/lang/Object;", sig := { parameters := [], returnType := some (.object "java/lang/Object") }, accessFlags := 260, code := none }
/-- java/lang/Object -/
def k0 : Class := { plain "java/lang/Object" none with
  accessFlags := 33
  interfaces := #[]
  cf := some (fileOf pool0 8 #[] #[{ accessFlags := 1, nameIndex := 5, descriptorIndex := 6, attributes := #[] }, { accessFlags := 260, nameIndex := 96, descriptorIndex := 97, attributes := #[] }] 33 0 #[] #[])
  fields := #[]
  methods := #[k0m0, k0m1]
  instanceTypes := #[]
  staticTypes := #[]
  resolved := Array.replicate 124 none
  statics := none }

def pool1 : Array CpInfo := pool [(2, .class_ 4), (1, u "java/lang/Object"), (0, u "<init>"), (0, u "()V"), (0, .class_ 8), (0, u "com/example/wireform/wireform/amf3/AmfInput"), (0, .methodref 7 10), (0, .nameAndType 5 11), (0, u "([B)V"), (0, .methodref 7 13), (0, .nameAndType 14 15), (0, u "startValue"), (0, u "()I"), (0, .string 17), (0, u "x"), (0, .methodref 7 19), (0, .nameAndType 20 21), (0, u "readBytes"), (0, u "(ILjava/lang/String;)[B"), (0, .methodref 7 23), (0, .nameAndType 24 25), (0, u "endValue"), (0, u "(I)V"), (0, .methodref 7 27), (0, .nameAndType 28 29), (0, u "failure"), (0, u "(Ljava/lang/String;)Lcom/example/wireform/wireform/amf3/AmfDecodeException;"), (0, .methodref 31 32), (0, .class_ 33), (0, .nameAndType 34 15), (0, u "com/example/wireform/wireform/amf3/AmfDecodeException"), (0, u "getOffset"), (0, .class_ 36), (0, u "com/example/wireform/wireform/amf3/AmfInputStartValuePinLaw"), (2, u "law"), (0, u "(IIII)Z")] 3

def k1m0 : Method := { name := "<init>", desc := "()V", sig := { parameters := [], returnType := none }, accessFlags := 2, code := none }
def k1c1 : Code := { maxStack := 3, maxLocals := 12, code := code, exceptionTable := #[], attributes := #[] }
def k1m1 : Method := { name := "law", desc := "(IIII)Z", sig := { parameters := [.int, .int, .int, .int], returnType := some .boolean }, accessFlags := 9, code := some k1c1 }
/-- com/example/wireform/wireform/amf3/AmfInputStartValuePinLaw -/
def k1 : Class := { plain "com/example/wireform/wireform/amf3/AmfInputStartValuePinLaw" (some 0) with
  accessFlags := 49
  interfaces := #[]
  cf := some (fileOf pool1 35 #[] #[{ accessFlags := 2, nameIndex := 5, descriptorIndex := 6, attributes := #[] }, { accessFlags := 9, nameIndex := 39, descriptorIndex := 40, attributes := #[] }] 49 2 #[] #[])
  fields := #[]
  methods := #[k1m0, k1m1]
  instanceTypes := #[]
  staticTypes := #[]
  resolved := Array.replicate 44 none
  statics := none }

def pool2 : Array CpInfo := pool [(1, .class_ 2), (0, u "com/example/wireform/wireform/mapping/Conversions"), (0, .class_ 4), (0, u "com/example/wireform/wireform/amf3/AmfInput"), (0, .methodref 3 6), (0, .nameAndType 7 8), (0, u "<init>"), (0, u "([BI)V"), (0, .methodref 10 11), (0, .class_ 12), (0, .nameAndType 7 13), (0, u "java/lang/Object"), (0, u "()V"), (0, .string 15), (0, u "bytes"), (0, .methodref 17 18), (0, .class_ 19), (0, .nameAndType 20 21), (0, u "java/util/Objects"), (0, u "requireNonNull"), (0, u "(Ljava/lang/Object;Ljava/lang/String;)Ljava/lang/Object;"), (0, .class_ 23), (0, u "[B"), (0, .fieldref 3 25), (0, .nameAndType 15 23), (0, .methodref 1 27), (0, .nameAndType 28 29), (0, u "requireDepthLimit"), (0, u "(I)I"), (0, .fieldref 3 31), (0, .nameAndType 32 33), (0, u "maxDepth"), (0, u "I"), (0, .fieldref 3 35), (0, .nameAndType 36 33), (0, u "position"), (0, .class_ 38), (0, u "com/example/wireform/wireform/amf3/AmfInput$Mark"), (0, .fieldref 3 40), (0, .nameAndType 41 33), (0, u "valueStart"), (2, u "depth"), (26, u "failure"), (0, u "(Ljava/lang/String;)Lcom/example/wireform/wireform/amf3/AmfDecodeException;"), (28, .methodref 3 102), (0, .nameAndType 103 104), (0, u "require"), (0, u "(JLjava/lang/String;)V"), (6, .methodref 112 113), (0, .class_ 114), (0, .nameAndType 115 116), (0, u "java/util/Arrays"), (0, u "copyOfRange"), (0, u "([BII)[B"), (15, .class_ 133), (0, u "com/example/wireform/wireform/amf3/AmfDecodeException"), (0, .methodref 132 135), (0, .nameAndType 7 136), (0, u "(Ljava/lang/String;I)V"), (6, u "DEFAULT_MAX_DEPTH"), (2, u "([B)V"), (2, u "()I"), (5, u "startValue"), (0, u "endValue"), (0, u "(I)V"), (7, u "readBytes"), (0, u "(ILjava/lang/String;)[B")] 9

def k2c0 : Code := { maxStack := 3, maxLocals := 2, code := prog_14_method_1_code, exceptionTable := #[], attributes := #[] }
def k2m0 : Method := { name := "<init>", desc := "([B)V", sig := { parameters := [(.array .byte)], returnType := none }, accessFlags := 1, code := some k2c0 }
def k2c1 : Code := { maxStack := 3, maxLocals := 3, code := prog_14_method_2_code, exceptionTable := #[], attributes := #[] }
def k2m1 : Method := { name := "<init>", desc := "([BI)V", sig := { parameters := [(.array .byte), .int], returnType := none }, accessFlags := 1, code := some k2c1 }
def k2c2 : Code := { maxStack := 2, maxLocals := 2, code := prog_14_method_8_code, exceptionTable := #[], attributes := #[] }
def k2m2 : Method := { name := "startValue", desc := "()I", sig := { parameters := [], returnType := some .int }, accessFlags := 1, code := some k2c2 }
def k2c3 : Code := { maxStack := 2, maxLocals := 2, code := prog_14_method_9_code, exceptionTable := #[], attributes := #[] }
def k2m3 : Method := { name := "endValue", desc := "(I)V", sig := { parameters := [.int], returnType := none }, accessFlags := 1, code := some k2c3 }
def k2c4 : Code := { maxStack := 4, maxLocals := 4, code := prog_14_method_17_code, exceptionTable := #[], attributes := #[] }
def k2m4 : Method := { name := "readBytes", desc := "(ILjava/lang/String;)[B", sig := { parameters := [.int, (.object "java/lang/String")], returnType := some (.array .byte) }, accessFlags := 1, code := some k2c4 }
def k2c5 : Code := { maxStack := 4, maxLocals := 5, code := prog_14_method_19_code, exceptionTable := #[], attributes := #[] }
def k2m5 : Method := { name := "require", desc := "(JLjava/lang/String;)V", sig := { parameters := [.long, (.object "java/lang/String")], returnType := none }, accessFlags := 1, code := some k2c5 }
def k2c6 : Code := { maxStack := 4, maxLocals := 2, code := prog_14_method_20_code, exceptionTable := #[], attributes := #[] }
def k2m6 : Method := { name := "failure", desc := "(Ljava/lang/String;)Lcom/example/wireform/wireform/amf3/AmfDecodeException;", sig := { parameters := [(.object "java/lang/String")], returnType := some (.object "com/example/wireform/wireform/amf3/AmfDecodeException") }, accessFlags := 1, code := some k2c6 }
/-- com/example/wireform/wireform/amf3/AmfInput -/
def k2 : Class := { plain "com/example/wireform/wireform/amf3/AmfInput" (some 0) with
  accessFlags := 49
  interfaces := #[]
  cf := some (fileOf pool2 3 #[.nestMembers #[37]] #[{ accessFlags := 1, nameIndex := 7, descriptorIndex := 146, attributes := #[] }, { accessFlags := 1, nameIndex := 7, descriptorIndex := 8, attributes := #[] }, { accessFlags := 1, nameIndex := 155, descriptorIndex := 149, attributes := #[] }, { accessFlags := 1, nameIndex := 156, descriptorIndex := 157, attributes := #[] }, { accessFlags := 1, nameIndex := 165, descriptorIndex := 166, attributes := #[] }, { accessFlags := 1, nameIndex := 103, descriptorIndex := 104, attributes := #[] }, { accessFlags := 1, nameIndex := 71, descriptorIndex := 72, attributes := #[] }] 49 10 #[] #[{ accessFlags := 25, nameIndex := 143, descriptorIndex := 33, attributes := #[] }, { accessFlags := 18, nameIndex := 15, descriptorIndex := 23, attributes := #[] }, { accessFlags := 18, nameIndex := 32, descriptorIndex := 33, attributes := #[] }, { accessFlags := 2, nameIndex := 36, descriptorIndex := 33, attributes := #[] }, { accessFlags := 2, nameIndex := 41, descriptorIndex := 33, attributes := #[] }, { accessFlags := 2, nameIndex := 44, descriptorIndex := 33, attributes := #[] }])
  fields := #[{ name := "DEFAULT_MAX_DEPTH", type := .int, accessFlags := 25, slot := 0, constantValue := 0 }, { name := "bytes", type := (.array .byte), accessFlags := 18, slot := 0, constantValue := 0 }, { name := "maxDepth", type := .int, accessFlags := 18, slot := 1, constantValue := 0 }, { name := "position", type := .int, accessFlags := 2, slot := 2, constantValue := 0 }, { name := "valueStart", type := .int, accessFlags := 2, slot := 3, constantValue := 0 }, { name := "depth", type := .int, accessFlags := 2, slot := 4, constantValue := 0 }]
  methods := #[k2m0, k2m1, k2m2, k2m3, k2m4, k2m5, k2m6]
  instanceTypes := #[(.array .byte), .int, .int, .int, .int]
  staticTypes := #[.int]
  resolved := Array.replicate 176 none
  statics := none }

def pool3 : Array CpInfo := pool [(1, .class_ 2), (0, u "java/io/Serializable"), (0, .class_ 4), (0, u "java/lang/Object")] 2

/-- java/io/Serializable -/
def k3 : Class := { plain "java/io/Serializable" (some 0) with
  accessFlags := 1537
  interfaces := #[]
  cf := some (fileOf pool3 1 #[] #[] 1537 3 #[] #[])
  fields := #[]
  methods := #[]
  instanceTypes := #[]
  staticTypes := #[]
  resolved := Array.replicate 7 none
  statics := none }

def pool4 : Array CpInfo := pool [(1, .class_ 2), (0, u "java/lang/Comparable"), (0, .class_ 4), (0, u "java/lang/Object")] 7

/-- java/lang/Comparable -/
def k4 : Class := { plain "java/lang/Comparable" (some 0) with
  accessFlags := 1537
  interfaces := #[]
  cf := some (fileOf pool4 1 #[] #[] 1537 3 #[] #[])
  fields := #[]
  methods := #[]
  instanceTypes := #[]
  staticTypes := #[]
  resolved := Array.replicate 12 none
  statics := none }

def pool5 : Array CpInfo := pool [(2, .class_ 4), (1, u "java/lang/CharSequence"), (42, .class_ 48), (0, u "java/lang/CharSequence$1CodePointIterator"), (10, .class_ 60), (0, u "java/lang/CharSequence$1CharIterator"), (5, .class_ 67), (0, u "java/lang/Object")] 63

/-- java/lang/CharSequence -/
def k5 : Class := { plain "java/lang/CharSequence" (some 0) with
  accessFlags := 1537
  interfaces := #[]
  cf := some (fileOf pool5 2 #[.nestMembers #[47, 59]] #[] 1537 66 #[] #[])
  fields := #[]
  methods := #[]
  instanceTypes := #[]
  staticTypes := #[]
  resolved := Array.replicate 131 none
  statics := none }

def pool6 : Array CpInfo := pool [(1, .class_ 2), (0, u "java/lang/constant/Constable"), (0, .class_ 4), (0, u "java/lang/Object")] 6

/-- java/lang/constant/Constable -/
def k6 : Class := { plain "java/lang/constant/Constable" (some 0) with
  accessFlags := 1537
  interfaces := #[]
  cf := some (fileOf pool6 1 #[] #[] 1537 3 #[] #[])
  fields := #[]
  methods := #[]
  instanceTypes := #[]
  staticTypes := #[]
  resolved := Array.replicate 11 none
  statics := none }

def pool7 : Array CpInfo := pool [(1, .class_ 2), (0, u "java/lang/constant/ConstantDesc"), (0, .class_ 4), (0, u "java/lang/Object")] 32

/-- java/lang/constant/ConstantDesc -/
def k7 : Class := { plain "java/lang/constant/ConstantDesc" (some 0) with
  accessFlags := 1537
  interfaces := #[]
  cf := some (fileOf pool7 1 #[] #[] 1537 3 #[] #[])
  fields := #[]
  methods := #[]
  instanceTypes := #[]
  staticTypes := #[]
  resolved := Array.replicate 37 none
  statics := none }

def pool8 : Array CpInfo := pool [(1, .methodref 2 3), (0, .class_ 4), (0, .nameAndType 5 6), (0, u "java/lang/Object"), (0, u "<init>"), (0, u "()V"), (2, .fieldref 10 11), (0, .class_ 12), (0, .nameAndType 13 14), (0, u "java/lang/String"), (0, u "value"), (0, u "[B"), (0, .fieldref 10 16), (0, .nameAndType 17 18), (0, u "coder"), (0, u "B"), (2, u "hash"), (0, u "I"), (2, u "hashIsZero"), (0, u "Z"), (11, .fieldref 10 39), (0, .nameAndType 40 26), (0, u "COMPACT_STRINGS"), (13, .methodref 55 56), (0, .class_ 57), (0, .nameAndType 58 59), (0, u "java/util/Arrays"), (0, u "copyOfRange"), (0, u "([BII)[B"), (82, u "()Z"), (50, .class_ 195), (1, u "java/lang/System"), (16, .methodref 193 213), (0, .nameAndType 214 215), (0, u "arraycopy"), (0, u "(Ljava/lang/Object;ILjava/lang/Object;II)V"), (118, u "()I"), (0, .methodref 10 336), (0, .nameAndType 17 337), (0, u "()B"), (2, u "()[B"), (148, .methodref 10 490), (0, .nameAndType 5 491), (0, u "(Ljava/lang/AbstractStringBuilder;Ljava/lang/Void;)V"), (1, .nameAndType 494 142), (0, u "isLatin1"), (11, .nameAndType 507 334), (0, u "length"), (24, u "getBytes"), (16, .methodref 550 506), (0, .class_ 551), (0, u "java/lang/AbstractStringBuilder"), (0, .methodref 550 553), (0, .nameAndType 554 340), (0, u "getValue"), (20, .class_ 576), (0, u "java/lang/CharSequence"), (22, u "CASE_INSENSITIVE_ORDER"), (0, u "Ljava/util/Comparator;"), (220, u "([BIB)V"), (225, .methodref 550 493), (53, u "serialPersistentFields"), (0, u "[Ljava/io/ObjectStreamField;"), (0, .class_ 1104), (0, u "java/lang/String$CaseInsensitiveComparator"), (1, .class_ 1107), (0, u "java/io/Serializable"), (0, .class_ 1109), (0, u "java/lang/Comparable"), (0, .class_ 1111), (0, u "java/lang/constant/Constable"), (0, .class_ 1113), (0, u "java/lang/constant/ConstantDesc"), (2, u "serialVersionUID"), (0, u "J"), (3, u "REPL"), (0, u "C"), (2, u "LATIN1"), (1, u "UTF16"), (105, u "(Ljava/lang/StringBuilder;)V")] 217

def k8m0 : Method := { name := "<init>", desc := "()V", sig := { parameters := [], returnType := none }, accessFlags := 1, code := none }
def k8c1 : Code := { maxStack := 3, maxLocals := 2, code := jdk_42_method_53_code, exceptionTable := #[], attributes := #[] }
def k8m1 : Method := { name := "<init>", desc := "(Ljava/lang/StringBuilder;)V", sig := { parameters := [(.object "java/lang/StringBuilder")], returnType := none }, accessFlags := 1, code := some k8c1 }
def k8c2 : Code := { maxStack := 2, maxLocals := 1, code := jdk_42_method_54_code, exceptionTable := #[], attributes := #[] }
def k8m2 : Method := { name := "length", desc := "()I", sig := { parameters := [], returnType := some .int }, accessFlags := 1, code := some k8c2 }
def k8c3 : Code := { maxStack := 5, maxLocals := 4, code := jdk_42_method_147_code, exceptionTable := #[], attributes := #[] }
def k8m3 : Method := { name := "getBytes", desc := "([BIB)V", sig := { parameters := [(.array .byte), .int, .byte], returnType := none }, accessFlags := 0, code := some k8c3 }
def k8c4 : Code := { maxStack := 5, maxLocals := 5, code := jdk_42_method_150_code, exceptionTable := #[], attributes := #[] }
def k8m4 : Method := { name := "<init>", desc := "(Ljava/lang/AbstractStringBuilder;Ljava/lang/Void;)V", sig := { parameters := [(.object "java/lang/AbstractStringBuilder"), (.object "java/lang/Void")], returnType := none }, accessFlags := 0, code := some k8c4 }
def k8c5 : Code := { maxStack := 1, maxLocals := 1, code := jdk_42_method_152_code, exceptionTable := #[], attributes := #[] }
def k8m5 : Method := { name := "coder", desc := "()B", sig := { parameters := [], returnType := some .byte }, accessFlags := 0, code := some k8c5 }
/-- java/lang/String -/
def k8 : Class := { plain "java/lang/String" (some 0) with
  accessFlags := 49
  interfaces := #[3, 4, 5, 6, 7]
  cf := some (fileOf pool8 10 #[.nestMembers #[1103]] #[{ accessFlags := 1, nameIndex := 5, descriptorIndex := 6, attributes := #[] }, { accessFlags := 1, nameIndex := 5, descriptorIndex := 1233, attributes := #[] }, { accessFlags := 1, nameIndex := 507, descriptorIndex := 334, attributes := #[] }, { accessFlags := 0, nameIndex := 532, descriptorIndex := 821, attributes := #[] }, { accessFlags := 0, nameIndex := 5, descriptorIndex := 491, attributes := #[] }, { accessFlags := 0, nameIndex := 17, descriptorIndex := 337, attributes := #[] }] 49 2 #[1106, 1108, 575, 1110, 1112] #[{ accessFlags := 18, nameIndex := 13, descriptorIndex := 14, attributes := #[] }, { accessFlags := 18, nameIndex := 17, descriptorIndex := 18, attributes := #[] }, { accessFlags := 2, nameIndex := 21, descriptorIndex := 22, attributes := #[] }, { accessFlags := 2, nameIndex := 25, descriptorIndex := 26, attributes := #[] }, { accessFlags := 26, nameIndex := 1116, descriptorIndex := 1117, attributes := #[] }, { accessFlags := 24, nameIndex := 40, descriptorIndex := 26, attributes := #[] }, { accessFlags := 26, nameIndex := 1101, descriptorIndex := 1102, attributes := #[] }, { accessFlags := 26, nameIndex := 1121, descriptorIndex := 1122, attributes := #[] }, { accessFlags := 25, nameIndex := 599, descriptorIndex := 600, attributes := #[] }, { accessFlags := 24, nameIndex := 1125, descriptorIndex := 18, attributes := #[] }, { accessFlags := 24, nameIndex := 1127, descriptorIndex := 18, attributes := #[] }])
  fields := #[{ name := "value", type := (.array .byte), accessFlags := 18, slot := 0, constantValue := 0 }, { name := "coder", type := .byte, accessFlags := 18, slot := 1, constantValue := 0 }, { name := "hash", type := .int, accessFlags := 2, slot := 2, constantValue := 0 }, { name := "hashIsZero", type := .boolean, accessFlags := 2, slot := 3, constantValue := 0 }, { name := "serialVersionUID", type := .long, accessFlags := 26, slot := 0, constantValue := 0 }, { name := "COMPACT_STRINGS", type := .boolean, accessFlags := 24, slot := 1, constantValue := 0 }, { name := "serialPersistentFields", type := (.array (.object "java/io/ObjectStreamField")), accessFlags := 26, slot := 2, constantValue := 0 }, { name := "REPL", type := .char, accessFlags := 26, slot := 3, constantValue := 0 }, { name := "CASE_INSENSITIVE_ORDER", type := (.object "java/util/Comparator"), accessFlags := 25, slot := 4, constantValue := 0 }, { name := "LATIN1", type := .byte, accessFlags := 24, slot := 5, constantValue := 0 }, { name := "UTF16", type := .byte, accessFlags := 24, slot := 6, constantValue := 0 }]
  methods := #[k8m0, k8m1, k8m2, k8m3, k8m4, k8m5]
  instanceTypes := #[(.array .byte), .byte, .int, .boolean]
  staticTypes := #[.long, .boolean, (.array (.object "java/io/ObjectStreamField")), .char, (.object "java/util/Comparator"), .byte, .byte]
  resolved := Array.replicate 1451 none
  statics := some 0 }

def pool9 : Array CpInfo := pool [(2, .class_ 4), (1, u "java/lang/Object"), (0, u "<init>"), (0, u "()V"), (35, .class_ 44), (1, u "java/util/Objects"), (0, u "requireNonNull"), (48, u "(Ljava/lang/Object;Ljava/lang/String;)Ljava/lang/Object;")] 89

def k9m0 : Method := { name := "<init>", desc := "()V", sig := { parameters := [], returnType := none }, accessFlags := 2, code := none }
def k9c1 : Code := { maxStack := 3, maxLocals := 2, code := jdk_31_method_11_code, exceptionTable := #[], attributes := #[] }
def k9m1 : Method := { name := "requireNonNull", desc := "(Ljava/lang/Object;Ljava/lang/String;)Ljava/lang/Object;", sig := { parameters := [(.object "java/lang/Object"), (.object "java/lang/String")], returnType := some (.object "java/lang/Object") }, accessFlags := 9, code := some k9c1 }
/-- java/util/Objects -/
def k9 : Class := { plain "java/util/Objects" (some 0) with
  accessFlags := 49
  interfaces := #[]
  cf := some (fileOf pool9 42 #[] #[{ accessFlags := 2, nameIndex := 5, descriptorIndex := 6, attributes := #[] }, { accessFlags := 9, nameIndex := 45, descriptorIndex := 94, attributes := #[] }] 49 2 #[] #[])
  fields := #[]
  methods := #[k9m0, k9m1]
  instanceTypes := #[]
  staticTypes := #[]
  resolved := Array.replicate 184 none
  statics := none }

def pool10 : Array CpInfo := pool [(6, .class_ 8), (1, u "com/example/wireform/wireform/mapping/Conversions"), (3, .class_ 14), (1, u "java/lang/Object"), (6, u "converted"), (0, u "Ljava/util/Map;"), (8, u "reading"), (0, u "Ljava/util/Set;"), (0, .class_ 34), (0, u "com/example/wireform/wireform/mapping/Conversions$Mark"), (3, u "unfinished"), (0, u "Lcom/example/wireform/wireform/mapping/Conversions$Mark;"), (5, u "waiting"), (0, u "Ljava/util/Queue;"), (1, u "mapping"), (10, u "Lcom/example/wireform/wireform/mapping/Mapping;"), (2, u "requireDepthLimit"), (0, u "(I)I"), (2, u "maxDepth"), (0, u "I"), (1, u "bytesOfText"), (4, u "Ljava/util/function/Function;"), (7, u "hashCollisions"), (0, u "Lcom/example/wireform/wireform/mapping/HashCollisions;"), (43, .class_ 128), (0, u "com/example/wireform/wireform/mapping/Conversions$Waiting"), (12, u "UNFINISHED"), (0, u "Lcom/example/wireform/wireform/mapping/Conversions$Unfinished;"), (2, u "equalityCost"), (0, u "Lcom/example/wireform/wireform/mapping/EqualityCost;"), (25, u "depth"), (0, .class_ 174), (0, u "com/example/wireform/wireform/mapping/Conversions$TooDeep"), (12, .class_ 188), (0, u "com/example/wireform/wireform/mapping/Conversions$Unfinished"), (1, u "DEFAULT_MAX_DEPTH")] 60

def k10c0 : Code := { maxStack := 4, maxLocals := 1, code := prog_36_method_5_code, exceptionTable := #[], attributes := #[] }
def k10m0 : Method := { name := "requireDepthLimit", desc := "(I)I", sig := { parameters := [.int], returnType := some .int }, accessFlags := 9, code := some k10c0 }
/-- com/example/wireform/wireform/mapping/Conversions -/
def k10 : Class := { plain "com/example/wireform/wireform/mapping/Conversions" (some 0) with
  accessFlags := 49
  interfaces := #[]
  cf := some (fileOf pool10 6 #[.nestMembers #[127, 33, 187, 173]] #[{ accessFlags := 9, nameIndex := 62, descriptorIndex := 63, attributes := #[] }] 49 12 #[] #[{ accessFlags := 25, nameIndex := 190, descriptorIndex := 67, attributes := #[] }, { accessFlags := 26, nameIndex := 141, descriptorIndex := 142, attributes := #[] }, { accessFlags := 18, nameIndex := 21, descriptorIndex := 22, attributes := #[] }, { accessFlags := 18, nameIndex := 31, descriptorIndex := 32, attributes := #[] }, { accessFlags := 2, nameIndex := 38, descriptorIndex := 39, attributes := #[] }, { accessFlags := 18, nameIndex := 45, descriptorIndex := 46, attributes := #[] }, { accessFlags := 18, nameIndex := 66, descriptorIndex := 67, attributes := #[] }, { accessFlags := 2, nameIndex := 172, descriptorIndex := 67, attributes := #[] }, { accessFlags := 18, nameIndex := 48, descriptorIndex := 59, attributes := #[] }, { accessFlags := 18, nameIndex := 69, descriptorIndex := 74, attributes := #[] }, { accessFlags := 2, nameIndex := 145, descriptorIndex := 146, attributes := #[] }, { accessFlags := 18, nameIndex := 82, descriptorIndex := 83, attributes := #[] }])
  fields := #[{ name := "DEFAULT_MAX_DEPTH", type := .int, accessFlags := 25, slot := 0, constantValue := 0 }, { name := "UNFINISHED", type := (.object "com/example/wireform/wireform/mapping/Conversions$Unfinished"), accessFlags := 26, slot := 1, constantValue := 0 }, { name := "converted", type := (.object "java/util/Map"), accessFlags := 18, slot := 0, constantValue := 0 }, { name := "reading", type := (.object "java/util/Set"), accessFlags := 18, slot := 1, constantValue := 0 }, { name := "unfinished", type := (.object "com/example/wireform/wireform/mapping/Conversions$Mark"), accessFlags := 2, slot := 2, constantValue := 0 }, { name := "waiting", type := (.object "java/util/Queue"), accessFlags := 18, slot := 3, constantValue := 0 }, { name := "maxDepth", type := .int, accessFlags := 18, slot := 4, constantValue := 0 }, { name := "depth", type := .int, accessFlags := 2, slot := 5, constantValue := 0 }, { name := "mapping", type := (.object "com/example/wireform/wireform/mapping/Mapping"), accessFlags := 18, slot := 6, constantValue := 0 }, { name := "bytesOfText", type := (.object "java/util/function/Function"), accessFlags := 18, slot := 7, constantValue := 0 }, { name := "equalityCost", type := (.object "com/example/wireform/wireform/mapping/EqualityCost"), accessFlags := 2, slot := 8, constantValue := 0 }, { name := "hashCollisions", type := (.object "com/example/wireform/wireform/mapping/HashCollisions"), accessFlags := 18, slot := 9, constantValue := 0 }]
  methods := #[k10m0]
  instanceTypes := #[(.object "java/util/Map"), (.object "java/util/Set"), (.object "com/example/wireform/wireform/mapping/Conversions$Mark"), (.object "java/util/Queue"), .int, .int, (.object "com/example/wireform/wireform/mapping/Mapping"), (.object "java/util/function/Function"), (.object "com/example/wireform/wireform/mapping/EqualityCost"), (.object "com/example/wireform/wireform/mapping/HashCollisions")]
  staticTypes := #[.int, (.object "com/example/wireform/wireform/mapping/Conversions$Unfinished")]
  resolved := Array.replicate 251 none
  statics := none }

def pool11 : Array CpInfo := pool [(2, .class_ 4), (1, u "java/lang/Object"), (0, u "<init>"), (0, u "()V"), (7, .class_ 16), (1, u "java/util/Arrays"), (57, .class_ 76), (1, u "java/util/Arrays$NaturalOrder"), (32, u "()Ljava/lang/Object;"), (3, .class_ 115), (1, u "java/util/Arrays$LegacyMergeSort"), (1, u "Z"), (10, .nameAndType 129 109), (0, u "clone"), (9, u "copyOfRange"), (10, .methodref 151 152), (0, .class_ 153), (0, .nameAndType 154 155), (0, u "java/lang/System"), (0, u "arraycopy"), (0, u "(Ljava/lang/Object;ILjava/lang/Object;II)V"), (146, u "copyOf"), (1, .methodref 305 306), (0, .class_ 307), (0, .nameAndType 308 309), (0, u "java/lang/Math"), (0, u "min"), (0, u "(II)I"), (0, .methodref 311 128), (0, .class_ 312), (0, u "[B"), (26, .methodref 14 340), (0, .nameAndType 341 342), (0, u "copyOfRangeByte"), (0, u "([BII)[B"), (0, .methodref 14 344), (0, .nameAndType 345 346), (0, u "checkLength"), (0, u "(II)V"), (28, .class_ 376), (0, u "java/util/Arrays$ArrayList"), (68, u "$assertionsDisabled"), (269, u "MIN_ARRAY_SORT_GRAN"), (0, u "I"), (2, u "INSERTIONSORT_THRESHOLD"), (149, u "([BI)[B"), (105, .class_ 976), (0, u "java/util/Arrays$ArrayItr")] 52

def k11m0 : Method := { name := "<init>", desc := "()V", sig := { parameters := [], returnType := none }, accessFlags := 2, code := none }
def k11c1 : Code := { maxStack := 6, maxLocals := 3, code := jdk_65_method_121_code, exceptionTable := #[], attributes := #[] }
def k11m1 : Method := { name := "copyOf", desc := "([BI)[B", sig := { parameters := [(.array .byte), .int], returnType := some (.array .byte) }, accessFlags := 9, code := some k11c1 }
def k11c2 : Code := { maxStack := 4, maxLocals := 2, code := jdk_65_method_131_code, exceptionTable := #[], attributes := #[] }
def k11m2 : Method := { name := "checkLength", desc := "(II)V", sig := { parameters := [.int, .int], returnType := none }, accessFlags := 10, code := some k11c2 }
def k11c3 : Code := { maxStack := 3, maxLocals := 3, code := jdk_65_method_132_code, exceptionTable := #[], attributes := #[] }
def k11m3 : Method := { name := "copyOfRange", desc := "([BII)[B", sig := { parameters := [(.array .byte), .int, .int], returnType := some (.array .byte) }, accessFlags := 9, code := some k11c3 }
def k11c4 : Code := { maxStack := 6, maxLocals := 5, code := jdk_65_method_133_code, exceptionTable := #[], attributes := #[] }
def k11m4 : Method := { name := "copyOfRangeByte", desc := "([BII)[B", sig := { parameters := [(.array .byte), .int, .int], returnType := some (.array .byte) }, accessFlags := 10, code := some k11c4 }
/-- java/util/Arrays -/
def k11 : Class := { plain "java/util/Arrays" (some 0) with
  accessFlags := 49
  interfaces := #[]
  cf := some (fileOf pool11 14 #[.nestMembers #[975, 375, 113, 74]] #[{ accessFlags := 2, nameIndex := 5, descriptorIndex := 6, attributes := #[] }, { accessFlags := 9, nameIndex := 302, descriptorIndex := 869, attributes := #[] }, { accessFlags := 10, nameIndex := 345, descriptorIndex := 346, attributes := #[] }, { accessFlags := 9, nameIndex := 139, descriptorIndex := 342, attributes := #[] }, { accessFlags := 10, nameIndex := 341, descriptorIndex := 342, attributes := #[] }] 49 2 #[] #[{ accessFlags := 26, nameIndex := 715, descriptorIndex := 716, attributes := #[] }, { accessFlags := 26, nameIndex := 719, descriptorIndex := 716, attributes := #[] }, { accessFlags := 4120, nameIndex := 445, descriptorIndex := 117, attributes := #[] }])
  fields := #[{ name := "MIN_ARRAY_SORT_GRAN", type := .int, accessFlags := 26, slot := 0, constantValue := 0 }, { name := "INSERTIONSORT_THRESHOLD", type := .int, accessFlags := 26, slot := 1, constantValue := 0 }, { name := "$assertionsDisabled", type := .boolean, accessFlags := 4120, slot := 2, constantValue := 0 }]
  methods := #[k11m0, k11m1, k11m2, k11m3, k11m4]
  instanceTypes := #[]
  staticTypes := #[.int, .int, .boolean]
  resolved := Array.replicate 1029 none
  statics := none }

def pool12 : Array CpInfo := pool [(1, .class_ 2), (0, u "java/lang/Cloneable"), (0, .class_ 4), (0, u "java/lang/Object")] 2

/-- java/lang/Cloneable -/
def k12 : Class := { plain "java/lang/Cloneable" (some 0) with
  accessFlags := 1537
  interfaces := #[]
  cf := some (fileOf pool12 1 #[] #[] 1537 3 #[] #[])
  fields := #[]
  methods := #[]
  instanceTypes := #[]
  staticTypes := #[]
  resolved := Array.replicate 7 none
  statics := none }

def pool13 : Array CpInfo := pool [(1, .methodref 2 3), (0, .class_ 4), (0, .nameAndType 5 6), (0, u "java/lang/Object"), (0, u "<init>"), (0, u "()V"), (0, .fieldref 8 9), (0, .class_ 10), (0, .nameAndType 11 12), (0, u "java/lang/Throwable"), (0, u "cause"), (0, u "Ljava/lang/Throwable;"), (0, .fieldref 8 14), (0, .nameAndType 15 16), (0, u "UNASSIGNED_STACK"), (0, u "[Ljava/lang/StackTraceElement;"), (0, .fieldref 8 18), (0, .nameAndType 19 16), (0, u "stackTrace"), (0, .fieldref 8 21), (0, .nameAndType 22 23), (0, u "SUPPRESSED_SENTINEL"), (0, u "Ljava/util/List;"), (0, .fieldref 8 25), (0, .nameAndType 26 23), (0, u "suppressedExceptions"), (0, .methodref 8 28), (0, .nameAndType 29 30), (0, u "fillInStackTrace"), (0, u "()Ljava/lang/Throwable;"), (0, .fieldref 8 32), (0, .nameAndType 33 34), (0, u "detailMessage"), (0, u "Ljava/lang/String;"), (58, .class_ 94), (0, u "java/lang/Throwable$WrappedPrintStream"), (6, .class_ 103), (1, u "java/lang/Throwable$PrintStreamOrWriter"), (61, u "$assertionsDisabled"), (0, u "Z"), (26, .class_ 194), (0, u "java/lang/Throwable$WrappedPrintWriter"), (3, .fieldref 8 199), (0, .nameAndType 200 201), (0, u "backtrace"), (0, u "Ljava/lang/Object;"), (0, .methodref 8 203), (0, .nameAndType 29 204), (0, u "(I)Ljava/lang/Throwable;"), (6, u "depth"), (0, u "I"), (10, u "(Ljava/lang/String;)V"), (45, .class_ 271), (1, u "java/lang/Throwable$SentinelHolder"), (32, u "EMPTY_THROWABLE_ARRAY"), (0, u "[Ljava/lang/Throwable;"), (12, .class_ 319), (0, u "java/io/Serializable"), (0, u "serialVersionUID"), (0, u "J"), (5, u "NULL_CAUSE_MESSAGE"), (0, u "SELF_SUPPRESSION_MESSAGE"), (0, u "CAUSE_CAPTION"), (0, u "SUPPRESSED_CAPTION")] 73

def k13c0 : Code := { maxStack := 2, maxLocals := 1, code := jdk_78_method_1_code, exceptionTable := #[], attributes := #[] }
def k13m0 : Method := { name := "<init>", desc := "()V", sig := { parameters := [], returnType := none }, accessFlags := 1, code := some k13c0 }
def k13c1 : Code := { maxStack := 2, maxLocals := 2, code := jdk_78_method_2_code, exceptionTable := #[], attributes := #[] }
def k13m1 : Method := { name := "<init>", desc := "(Ljava/lang/String;)V", sig := { parameters := [(.object "java/lang/String")], returnType := none }, accessFlags := 1, code := some k13c1 }
def k13c2 : Code := { maxStack := 2, maxLocals := 1, code := ⟨#[0x2a, 0xb4, 0x00, 0x11, 0xc7, 0x00, 0x0a, 0x2a, 0xb4, 0x00, 0xc6, 0xc6, 0x00, 0x10, 0x2a, 0x03, 0xb6, 0x00, 0xca, 0x57, 0x2a, 0xb2, 0x00, 0x0d, 0xb5, 0x00, 0x11, 0x2a, 0xb0]⟩, exceptionTable := #[], attributes := #[] }
def k13m2 : Method := { name := "fillInStackTrace", desc := "()Ljava/lang/Throwable;", sig := { parameters := [], returnType := some (.object "java/lang/Throwable") }, accessFlags := 33, code := some k13c2 }
def k13m3 : Method := { name := "fillInStackTrace", desc := "(I)Ljava/lang/Throwable;", sig := { parameters := [.int], returnType := some (.object "java/lang/Throwable") }, accessFlags := 258, code := none }
/-- java/lang/Throwable -/
def k13 : Class := { plain "java/lang/Throwable" (some 0) with
  accessFlags := 33
  interfaces := #[3]
  cf := some (fileOf pool13 8 #[.nestMembers #[193, 93, 101, 269]] #[{ accessFlags := 1, nameIndex := 5, descriptorIndex := 6, attributes := #[] }, { accessFlags := 1, nameIndex := 5, descriptorIndex := 223, attributes := #[] }, { accessFlags := 33, nameIndex := 29, descriptorIndex := 30, attributes := #[] }, { accessFlags := 258, nameIndex := 29, descriptorIndex := 204, attributes := #[] }] 33 2 #[318] #[{ accessFlags := 26, nameIndex := 320, descriptorIndex := 321, attributes := #[] }, { accessFlags := 130, nameIndex := 200, descriptorIndex := 201, attributes := #[] }, { accessFlags := 2, nameIndex := 33, descriptorIndex := 34, attributes := #[] }, { accessFlags := 26, nameIndex := 15, descriptorIndex := 16, attributes := #[] }, { accessFlags := 2, nameIndex := 11, descriptorIndex := 12, attributes := #[] }, { accessFlags := 2, nameIndex := 19, descriptorIndex := 16, attributes := #[] }, { accessFlags := 130, nameIndex := 211, descriptorIndex := 212, attributes := #[] }, { accessFlags := 26, nameIndex := 22, descriptorIndex := 23, attributes := #[] }, { accessFlags := 2, nameIndex := 26, descriptorIndex := 23, attributes := #[] }, { accessFlags := 26, nameIndex := 327, descriptorIndex := 34, attributes := #[] }, { accessFlags := 26, nameIndex := 328, descriptorIndex := 34, attributes := #[] }, { accessFlags := 26, nameIndex := 329, descriptorIndex := 34, attributes := #[] }, { accessFlags := 26, nameIndex := 330, descriptorIndex := 34, attributes := #[] }, { accessFlags := 26, nameIndex := 304, descriptorIndex := 305, attributes := #[] }, { accessFlags := 4120, nameIndex := 165, descriptorIndex := 166, attributes := #[] }])
  fields := #[{ name := "serialVersionUID", type := .long, accessFlags := 26, slot := 0, constantValue := 0 }, { name := "backtrace", type := (.object "java/lang/Object"), accessFlags := 130, slot := 0, constantValue := 0 }, { name := "detailMessage", type := (.object "java/lang/String"), accessFlags := 2, slot := 1, constantValue := 0 }, { name := "UNASSIGNED_STACK", type := (.array (.object "java/lang/StackTraceElement")), accessFlags := 26, slot := 1, constantValue := 0 }, { name := "cause", type := (.object "java/lang/Throwable"), accessFlags := 2, slot := 2, constantValue := 0 }, { name := "stackTrace", type := (.array (.object "java/lang/StackTraceElement")), accessFlags := 2, slot := 3, constantValue := 0 }, { name := "depth", type := .int, accessFlags := 130, slot := 4, constantValue := 0 }, { name := "SUPPRESSED_SENTINEL", type := (.object "java/util/List"), accessFlags := 26, slot := 2, constantValue := 0 }, { name := "suppressedExceptions", type := (.object "java/util/List"), accessFlags := 2, slot := 5, constantValue := 0 }, { name := "NULL_CAUSE_MESSAGE", type := (.object "java/lang/String"), accessFlags := 26, slot := 3, constantValue := 0 }, { name := "SELF_SUPPRESSION_MESSAGE", type := (.object "java/lang/String"), accessFlags := 26, slot := 4, constantValue := 0 }, { name := "CAUSE_CAPTION", type := (.object "java/lang/String"), accessFlags := 26, slot := 5, constantValue := 0 }, { name := "SUPPRESSED_CAPTION", type := (.object "java/lang/String"), accessFlags := 26, slot := 6, constantValue := 0 }, { name := "EMPTY_THROWABLE_ARRAY", type := (.array (.object "java/lang/Throwable")), accessFlags := 26, slot := 7, constantValue := 0 }, { name := "$assertionsDisabled", type := .boolean, accessFlags := 4120, slot := 8, constantValue := 0 }]
  methods := #[k13m0, k13m1, k13m2, k13m3]
  instanceTypes := #[(.object "java/lang/Object"), (.object "java/lang/String"), (.object "java/lang/Throwable"), (.array (.object "java/lang/StackTraceElement")), .int, (.object "java/util/List")]
  staticTypes := #[.long, (.array (.object "java/lang/StackTraceElement")), (.object "java/util/List"), (.object "java/lang/String"), (.object "java/lang/String"), (.object "java/lang/String"), (.object "java/lang/String"), (.array (.object "java/lang/Throwable")), .boolean]
  resolved := Array.replicate 404 none
  statics := some 1 }

def pool14 : Array CpInfo := pool [(2, .class_ 4), (1, u "java/lang/Throwable"), (0, u "<init>"), (0, u "()V"), (0, .methodref 2 8), (0, .nameAndType 5 9), (0, u "(Ljava/lang/String;)V"), (9, .class_ 20), (0, u "java/lang/Exception"), (0, u "serialVersionUID"), (0, u "J")] 17

def k14m0 : Method := { name := "<init>", desc := "()V", sig := { parameters := [], returnType := none }, accessFlags := 1, code := none }
def k14c1 : Code := { maxStack := 2, maxLocals := 2, code := jdk_59_method_2_code, exceptionTable := #[], attributes := #[] }
def k14m1 : Method := { name := "<init>", desc := "(Ljava/lang/String;)V", sig := { parameters := [(.object "java/lang/String")], returnType := none }, accessFlags := 1, code := some k14c1 }
/-- java/lang/Exception -/
def k14 : Class := { plain "java/lang/Exception" (some 13) with
  accessFlags := 33
  interfaces := #[]
  cf := some (fileOf pool14 19 #[] #[{ accessFlags := 1, nameIndex := 5, descriptorIndex := 6, attributes := #[] }, { accessFlags := 1, nameIndex := 5, descriptorIndex := 9, attributes := #[] }] 33 2 #[] #[{ accessFlags := 24, nameIndex := 21, descriptorIndex := 22, attributes := #[] }])
  fields := #[{ name := "serialVersionUID", type := .long, accessFlags := 24, slot := 0, constantValue := 0 }]
  methods := #[k14m0, k14m1]
  instanceTypes := #[(.object "java/lang/Object"), (.object "java/lang/String"), (.object "java/lang/Throwable"), (.array (.object "java/lang/StackTraceElement")), .int, (.object "java/util/List")]
  staticTypes := #[.long]
  resolved := Array.replicate 40 none
  statics := none }

def pool15 : Array CpInfo := pool [(2, .class_ 4), (1, u "java/lang/Exception"), (0, u "<init>"), (0, u "()V"), (0, .methodref 2 8), (0, .nameAndType 5 9), (0, u "(Ljava/lang/String;)V"), (9, .class_ 20), (0, u "java/lang/RuntimeException"), (0, u "serialVersionUID"), (0, u "J")] 17

def k15m0 : Method := { name := "<init>", desc := "()V", sig := { parameters := [], returnType := none }, accessFlags := 1, code := none }
def k15c1 : Code := { maxStack := 2, maxLocals := 2, code := jdk_58_method_2_code, exceptionTable := #[], attributes := #[] }
def k15m1 : Method := { name := "<init>", desc := "(Ljava/lang/String;)V", sig := { parameters := [(.object "java/lang/String")], returnType := none }, accessFlags := 1, code := some k15c1 }
/-- java/lang/RuntimeException -/
def k15 : Class := { plain "java/lang/RuntimeException" (some 14) with
  accessFlags := 33
  interfaces := #[]
  cf := some (fileOf pool15 19 #[] #[{ accessFlags := 1, nameIndex := 5, descriptorIndex := 6, attributes := #[] }, { accessFlags := 1, nameIndex := 5, descriptorIndex := 9, attributes := #[] }] 33 2 #[] #[{ accessFlags := 24, nameIndex := 21, descriptorIndex := 22, attributes := #[] }])
  fields := #[{ name := "serialVersionUID", type := .long, accessFlags := 24, slot := 0, constantValue := 0 }]
  methods := #[k15m0, k15m1]
  instanceTypes := #[(.object "java/lang/Object"), (.object "java/lang/String"), (.object "java/lang/Throwable"), (.array (.object "java/lang/StackTraceElement")), .int, (.object "java/util/List")]
  staticTypes := #[.long]
  resolved := Array.replicate 40 none
  statics := none }

def pool16 : Array CpInfo := pool [(1, .methodref 2 3), (0, .class_ 4), (0, .nameAndType 5 6), (0, u "java/lang/RuntimeException"), (0, u "<init>"), (0, u "(Ljava/lang/String;)V"), (0, .fieldref 8 9), (0, .class_ 10), (0, .nameAndType 11 12), (0, u "com/example/wireform/wireform/mapping/DecodeException"), (0, u "offset"), (0, u "I"), (0, u "serialVersionUID"), (0, u "J"), (3, u "(Ljava/lang/String;I)V"), (2, u "getOffset"), (0, u "()I")] 2

def k16c0 : Code := { maxStack := 2, maxLocals := 3, code := prog_42_method_1_code, exceptionTable := #[], attributes := #[] }
def k16m0 : Method := { name := "<init>", desc := "(Ljava/lang/String;I)V", sig := { parameters := [(.object "java/lang/String"), .int], returnType := none }, accessFlags := 4, code := some k16c0 }
def k16c1 : Code := { maxStack := 1, maxLocals := 1, code := prog_42_method_2_code, exceptionTable := #[], attributes := #[] }
def k16m1 : Method := { name := "getOffset", desc := "()I", sig := { parameters := [], returnType := some .int }, accessFlags := 1, code := some k16c1 }
/-- com/example/wireform/wireform/mapping/DecodeException -/
def k16 : Class := { plain "com/example/wireform/wireform/mapping/DecodeException" (some 15) with
  accessFlags := 1057
  interfaces := #[]
  cf := some (fileOf pool16 8 #[] #[{ accessFlags := 4, nameIndex := 5, descriptorIndex := 18, attributes := #[] }, { accessFlags := 1, nameIndex := 21, descriptorIndex := 22, attributes := #[] }] 1057 2 #[] #[{ accessFlags := 26, nameIndex := 13, descriptorIndex := 14, attributes := #[] }, { accessFlags := 18, nameIndex := 11, descriptorIndex := 12, attributes := #[] }])
  fields := #[{ name := "serialVersionUID", type := .long, accessFlags := 26, slot := 0, constantValue := 0 }, { name := "offset", type := .int, accessFlags := 18, slot := 6, constantValue := 0 }]
  methods := #[k16m0, k16m1]
  instanceTypes := #[(.object "java/lang/Object"), (.object "java/lang/String"), (.object "java/lang/Throwable"), (.array (.object "java/lang/StackTraceElement")), .int, (.object "java/util/List"), .int]
  staticTypes := #[.long]
  resolved := Array.replicate 25 none
  statics := none }

def pool17 : Array CpInfo := pool [(1, .class_ 2), (0, u "java/lang/StringBuilder"), (0, .methodref 1 4), (0, .nameAndType 5 6), (0, u "<init>"), (0, u "()V"), (0, .methodref 1 8), (0, .nameAndType 9 10), (0, u "append"), (0, u "(Ljava/lang/String;)Ljava/lang/StringBuilder;"), (0, .string 12), (0, u " (value at byte offset "), (0, .methodref 1 14), (0, .nameAndType 9 15), (0, u "(I)Ljava/lang/StringBuilder;"), (0, .string 17), (0, u ")"), (0, .methodref 1 19), (0, .nameAndType 20 21), (0, u "toString"), (0, u "()Ljava/lang/String;"), (0, .methodref 23 24), (0, .class_ 25), (0, .nameAndType 5 26), (0, u "com/example/wireform/wireform/mapping/DecodeException"), (0, u "(Ljava/lang/String;I)V"), (0, .class_ 28), (0, u "com/example/wireform/wireform/amf3/AmfDecodeException"), (0, u "serialVersionUID"), (0, u "J")] 7

def k17c0 : Code := { maxStack := 3, maxLocals := 3, code := prog_13_method_1_code, exceptionTable := #[], attributes := #[] }
def k17m0 : Method := { name := "<init>", desc := "(Ljava/lang/String;I)V", sig := { parameters := [(.object "java/lang/String"), .int], returnType := none }, accessFlags := 1, code := some k17c0 }
/-- com/example/wireform/wireform/amf3/AmfDecodeException -/
def k17 : Class := { plain "com/example/wireform/wireform/amf3/AmfDecodeException" (some 16) with
  accessFlags := 49
  interfaces := #[]
  cf := some (fileOf pool17 27 #[] #[{ accessFlags := 1, nameIndex := 5, descriptorIndex := 26, attributes := #[] }] 49 23 #[] #[{ accessFlags := 26, nameIndex := 29, descriptorIndex := 30, attributes := #[] }])
  fields := #[{ name := "serialVersionUID", type := .long, accessFlags := 26, slot := 0, constantValue := 0 }]
  methods := #[k17m0]
  instanceTypes := #[(.object "java/lang/Object"), (.object "java/lang/String"), (.object "java/lang/Throwable"), (.array (.object "java/lang/StackTraceElement")), .int, (.object "java/util/List"), .int]
  staticTypes := #[.long]
  resolved := Array.replicate 38 none
  statics := none }

def pool18 : Array CpInfo := pool [(1, .class_ 2), (0, u "java/lang/Appendable"), (0, .class_ 4), (0, u "java/lang/Object")] 9

/-- java/lang/Appendable -/
def k18 : Class := { plain "java/lang/Appendable" (some 0) with
  accessFlags := 1537
  interfaces := #[]
  cf := some (fileOf pool18 1 #[] #[] 1537 3 #[] #[])
  fields := #[]
  methods := #[]
  instanceTypes := #[]
  staticTypes := #[]
  resolved := Array.replicate 14 none
  statics := none }

def pool19 : Array CpInfo := pool [(1, .class_ 2), (0, u "java/lang/String"), (0, .methodref 4 5), (0, .class_ 6), (0, .nameAndType 7 8), (0, u "java/lang/Object"), (0, u "<init>"), (0, u "()V"), (1, .class_ 12), (1, u "java/lang/AbstractStringBuilder"), (0, u "EMPTYVALUE"), (0, u "[B"), (0, .fieldref 10 16), (0, .nameAndType 17 14), (0, u "value"), (0, .fieldref 1 19), (0, .nameAndType 20 21), (0, u "COMPACT_STRINGS"), (0, u "Z"), (0, .fieldref 10 23), (0, .nameAndType 24 25), (0, u "coder"), (0, u "B"), (6, .methodref 1 33), (0, .nameAndType 34 35), (0, u "length"), (0, u "()I"), (0, .class_ 37), (0, u "java/lang/Integer"), (1, .integer 2147483647), (0, .methodref 1 41), (0, .nameAndType 24 42), (0, u "()B"), (2, u "append"), (0, u "(Ljava/lang/String;)Ljava/lang/AbstractStringBuilder;"), (1, .class_ 49), (0, u "java/lang/CharSequence"), (19, u "(Ljava/lang/String;)V"), (5, u "maybeLatin1"), (3, .fieldref 10 80), (0, .nameAndType 81 82), (0, u "count"), (0, u "I"), (0, .methodref 10 84), (0, .nameAndType 85 86), (0, u "isLatin1"), (0, u "()Z"), (13, .methodref 10 101), (0, .nameAndType 102 103), (0, u "ensureCapacityInternal"), (0, u "(I)V"), (0, .methodref 10 105), (0, .nameAndType 106 107), (0, u "newCapacity"), (0, u "(I)I"), (0, .methodref 109 110), (0, .class_ 111), (0, .nameAndType 112 113), (0, u "java/util/Arrays"), (0, u "copyOf"), (0, u "([BI)[B"), (0, .methodref 115 116), (0, .class_ 117), (0, .nameAndType 118 119), (0, u "jdk/internal/util/ArraysSupport"), (0, u "newLength"), (0, u "(III)I"), (68, u "getChars"), (19, .methodref 10 209), (0, .nameAndType 210 211), (0, u "putStringAt"), (0, u "(ILjava/lang/String;)V"), (5, u "inflateIfNeededFor"), (2, .nameAndType 221 222), (0, u "getBytes"), (0, u "([BIB)V"), (22, .methodref 36 246), (0, .nameAndType 247 107), (0, u "stringSize"), (0, .methodref 36 249), (0, .nameAndType 188 250), (0, u "(II[B)I"), (146, .methodref 10 398), (0, .nameAndType 217 69), (0, .methodref 1 220), (3, u "()[B"), (40, .class_ 445), (0, u "java/lang/Appendable"), (65, u "(I)Ljava/lang/AbstractStringBuilder;"), (40, u "getValue")] 56

def k19m0 : Method := { name := "<init>", desc := "()V", sig := { parameters := [], returnType := none }, accessFlags := 0, code := none }
def k19c1 : Code := { maxStack := 2, maxLocals := 2, code := jdk_68_method_2_code, exceptionTable := #[], attributes := #[] }
def k19m1 : Method := { name := "<init>", desc := "(I)V", sig := { parameters := [.int], returnType := none }, accessFlags := 0, code := some k19c1 }
def k19c2 : Code := { maxStack := 1, maxLocals := 1, code := jdk_68_method_6_code, exceptionTable := #[], attributes := #[] }
def k19m2 : Method := { name := "length", desc := "()I", sig := { parameters := [], returnType := some .int }, accessFlags := 1, code := some k19c2 }
def k19c3 : Code := { maxStack := 4, maxLocals := 3, code := jdk_68_method_9_code, exceptionTable := #[], attributes := #[] }
def k19m3 : Method := { name := "ensureCapacityInternal", desc := "(I)V", sig := { parameters := [.int], returnType := none }, accessFlags := 2, code := some k19c3 }
def k19c4 : Code := { maxStack := 5, maxLocals := 6, code := jdk_68_method_10_code, exceptionTable := #[], attributes := #[] }
def k19m4 : Method := { name := "newCapacity", desc := "(I)I", sig := { parameters := [.int], returnType := some .int }, accessFlags := 2, code := some k19c4 }
def k19c5 : Code := { maxStack := 3, maxLocals := 3, code := jdk_68_method_22_code, exceptionTable := #[], attributes := #[] }
def k19m5 : Method := { name := "append", desc := "(Ljava/lang/String;)Ljava/lang/AbstractStringBuilder;", sig := { parameters := [(.object "java/lang/String")], returnType := some (.object "java/lang/AbstractStringBuilder") }, accessFlags := 1, code := some k19c5 }
def k19c6 : Code := { maxStack := 4, maxLocals := 4, code := jdk_68_method_32_code, exceptionTable := #[], attributes := #[] }
def k19m6 : Method := { name := "append", desc := "(I)Ljava/lang/AbstractStringBuilder;", sig := { parameters := [.int], returnType := some (.object "java/lang/AbstractStringBuilder") }, accessFlags := 1, code := some k19c6 }
def k19c7 : Code := { maxStack := 1, maxLocals := 1, code := jdk_68_method_64_code, exceptionTable := #[], attributes := #[] }
def k19m7 : Method := { name := "getValue", desc := "()[B", sig := { parameters := [], returnType := some (.array .byte) }, accessFlags := 16, code := some k19c7 }
def k19c8 : Code := { maxStack := 1, maxLocals := 1, code := jdk_68_method_68_code, exceptionTable := #[], attributes := #[] }
def k19m8 : Method := { name := "isLatin1", desc := "()Z", sig := { parameters := [], returnType := some .boolean }, accessFlags := 16, code := some k19c8 }
def k19c9 : Code := { maxStack := 2, maxLocals := 2, code := jdk_68_method_71_code, exceptionTable := #[], attributes := #[] }
def k19m9 : Method := { name := "inflateIfNeededFor", desc := "(Ljava/lang/String;)V", sig := { parameters := [(.object "java/lang/String")], returnType := none }, accessFlags := 2, code := some k19c9 }
def k19c10 : Code := { maxStack := 4, maxLocals := 3, code := jdk_68_method_73_code, exceptionTable := #[], attributes := #[] }
def k19m10 : Method := { name := "putStringAt", desc := "(ILjava/lang/String;)V", sig := { parameters := [.int, (.object "java/lang/String")], returnType := none }, accessFlags := 2, code := some k19c10 }
/-- java/lang/AbstractStringBuilder -/
def k19 : Class := { plain "java/lang/AbstractStringBuilder" (some 0) with
  accessFlags := 1056
  interfaces := #[18, 5]
  cf := some (fileOf pool19 10 #[] #[{ accessFlags := 0, nameIndex := 7, descriptorIndex := 8, attributes := #[] }, { accessFlags := 0, nameIndex := 7, descriptorIndex := 103, attributes := #[] }, { accessFlags := 1, nameIndex := 34, descriptorIndex := 35, attributes := #[] }, { accessFlags := 2, nameIndex := 102, descriptorIndex := 103, attributes := #[] }, { accessFlags := 2, nameIndex := 106, descriptorIndex := 107, attributes := #[] }, { accessFlags := 1, nameIndex := 45, descriptorIndex := 46, attributes := #[] }, { accessFlags := 1, nameIndex := 45, descriptorIndex := 511, attributes := #[] }, { accessFlags := 16, nameIndex := 552, descriptorIndex := 403, attributes := #[] }, { accessFlags := 16, nameIndex := 85, descriptorIndex := 86, attributes := #[] }, { accessFlags := 2, nameIndex := 217, descriptorIndex := 69, attributes := #[] }, { accessFlags := 2, nameIndex := 210, descriptorIndex := 211, attributes := #[] }] 1056 4 #[444, 48] #[{ accessFlags := 0, nameIndex := 17, descriptorIndex := 14, attributes := #[] }, { accessFlags := 0, nameIndex := 24, descriptorIndex := 25, attributes := #[] }, { accessFlags := 0, nameIndex := 75, descriptorIndex := 21, attributes := #[] }, { accessFlags := 0, nameIndex := 81, descriptorIndex := 82, attributes := #[] }, { accessFlags := 26, nameIndex := 13, descriptorIndex := 14, attributes := #[] }])
  fields := #[{ name := "value", type := (.array .byte), accessFlags := 0, slot := 0, constantValue := 0 }, { name := "coder", type := .byte, accessFlags := 0, slot := 1, constantValue := 0 }, { name := "maybeLatin1", type := .boolean, accessFlags := 0, slot := 2, constantValue := 0 }, { name := "count", type := .int, accessFlags := 0, slot := 3, constantValue := 0 }, { name := "EMPTYVALUE", type := (.array .byte), accessFlags := 26, slot := 0, constantValue := 0 }]
  methods := #[k19m0, k19m1, k19m2, k19m3, k19m4, k19m5, k19m6, k19m7, k19m8, k19m9, k19m10]
  instanceTypes := #[(.array .byte), .byte, .boolean, .int]
  staticTypes := #[(.array .byte)]
  resolved := Array.replicate 609 none
  statics := none }

def pool20 : Array CpInfo := pool [(1, .methodref 2 3), (0, .class_ 4), (0, .nameAndType 5 6), (0, u "java/lang/AbstractStringBuilder"), (0, u "<init>"), (0, u "(I)V"), (11, .class_ 20), (1, u "java/lang/String"), (3, .class_ 26), (1, u "java/lang/StringBuilder"), (0, u "append"), (0, u "(Ljava/lang/String;)Ljava/lang/StringBuilder;"), (0, .methodref 2 30), (0, .nameAndType 27 31), (0, u "(Ljava/lang/String;)Ljava/lang/AbstractStringBuilder;"), (21, .methodref 2 54), (0, .nameAndType 27 55), (0, u "(I)Ljava/lang/AbstractStringBuilder;"), (81, .methodref 18 138), (0, .nameAndType 5 139), (0, u "(Ljava/lang/StringBuilder;)V"), (5, u "()V"), (10, u "()I"), (111, u "(I)Ljava/lang/StringBuilder;"), (74, .methodref 2 344), (0, .nameAndType 345 156), (0, u "length"), (3, .class_ 350), (0, u "java/lang/Appendable"), (0, .class_ 352), (0, u "java/io/Serializable"), (0, .class_ 354), (0, u "java/lang/Comparable"), (0, .class_ 356), (0, u "java/lang/CharSequence"), (0, u "serialVersionUID"), (0, u "J"), (40, u "toString"), (0, u "()Ljava/lang/String;")] 21

def k20c0 : Code := { maxStack := 2, maxLocals := 1, code := jdk_67_method_1_code, exceptionTable := #[], attributes := #[] }
def k20m0 : Method := { name := "<init>", desc := "()V", sig := { parameters := [], returnType := none }, accessFlags := 1, code := some k20c0 }
def k20c1 : Code := { maxStack := 2, maxLocals := 2, code := jdk_67_method_7_code, exceptionTable := #[], attributes := #[] }
def k20m1 : Method := { name := "append", desc := "(Ljava/lang/String;)Ljava/lang/StringBuilder;", sig := { parameters := [(.object "java/lang/String")], returnType := some (.object "java/lang/StringBuilder") }, accessFlags := 1, code := some k20c1 }
def k20c2 : Code := { maxStack := 2, maxLocals := 2, code := jdk_67_method_15_code, exceptionTable := #[], attributes := #[] }
def k20m2 : Method := { name := "append", desc := "(I)Ljava/lang/StringBuilder;", sig := { parameters := [.int], returnType := some (.object "java/lang/StringBuilder") }, accessFlags := 1, code := some k20c2 }
def k20c3 : Code := { maxStack := 3, maxLocals := 1, code := jdk_67_method_42_code, exceptionTable := #[], attributes := #[] }
def k20m3 : Method := { name := "toString", desc := "()Ljava/lang/String;", sig := { parameters := [], returnType := some (.object "java/lang/String") }, accessFlags := 1, code := some k20c3 }
def k20c4 : Code := { maxStack := 1, maxLocals := 1, code := jdk_67_method_93_code, exceptionTable := #[], attributes := #[] }
def k20m4 : Method := { name := "length", desc := "()I", sig := { parameters := [], returnType := some .int }, accessFlags := 4161, code := some k20c4 }
/-- java/lang/StringBuilder -/
def k20 : Class := { plain "java/lang/StringBuilder" (some 19) with
  accessFlags := 49
  interfaces := #[18, 3, 4, 5]
  cf := some (fileOf pool20 24 #[] #[{ accessFlags := 1, nameIndex := 5, descriptorIndex := 145, attributes := #[] }, { accessFlags := 1, nameIndex := 27, descriptorIndex := 28, attributes := #[] }, { accessFlags := 1, nameIndex := 27, descriptorIndex := 268, attributes := #[] }, { accessFlags := 1, nameIndex := 399, descriptorIndex := 400, attributes := #[] }, { accessFlags := 4161, nameIndex := 345, descriptorIndex := 156, attributes := #[] }] 49 2 #[349, 351, 353, 355] #[{ accessFlags := 24, nameIndex := 357, descriptorIndex := 358, attributes := #[] }])
  fields := #[{ name := "serialVersionUID", type := .long, accessFlags := 24, slot := 0, constantValue := 0 }]
  methods := #[k20m0, k20m1, k20m2, k20m3, k20m4]
  instanceTypes := #[(.array .byte), .byte, .boolean, .int]
  staticTypes := #[.long]
  resolved := Array.replicate 422 none
  statics := none }

def pool21 : Array CpInfo := pool [(2, .class_ 4), (1, u "java/lang/Object"), (0, u "<init>"), (0, u "()V"), (1, .class_ 10), (1, u "java/lang/System"), (0, u "allowSecurityManager"), (0, u "I"), (16, u "cons"), (0, u "Ljava/io/Console;"), (77, .class_ 110), (1, u "java/lang/System$CallersHolder"), (43, u "initialErrStream"), (0, u "Ljava/io/PrintStream;"), (19, u "security"), (0, u "Ljava/lang/SecurityManager;"), (31, .class_ 209), (0, u "java/lang/System$1"), (7, u "props"), (0, u "Ljava/util/Properties;"), (2, u "lineSeparator"), (0, u "Ljava/lang/String;"), (96, .class_ 321), (1, u "java/lang/System$LoggerFinder"), (5, .class_ 328), (0, u "java/lang/System$Logger"), (67, u "err"), (2, u "out"), (91, u "notSupportedJnuEncoding"), (15, u "in"), (17, u "initialIn"), (0, u "Ljava/io/InputStream;"), (35, u "bootLayer"), (0, u "Ljava/lang/ModuleLayer;"), (99, .class_ 664), (0, u "java/lang/System$2"), (9, u "NEVER"), (2, u "MAYBE"), (49, u "arraycopy"), (0, u "(Ljava/lang/Object;ILjava/lang/Object;II)V"), (72, .class_ 802), (0, u "java/lang/System$Logger$Level")] 31

def k21m0 : Method := { name := "<init>", desc := "()V", sig := { parameters := [], returnType := none }, accessFlags := 2, code := none }
def k21m1 : Method := { name := "arraycopy", desc := "(Ljava/lang/Object;ILjava/lang/Object;II)V", sig := { parameters := [(.object "java/lang/Object"), .int, (.object "java/lang/Object"), .int, .int], returnType := none }, accessFlags := 265, code := none }
/-- java/lang/System -/
def k21 : Class := { plain "java/lang/System" (some 0) with
  accessFlags := 49
  interfaces := #[]
  cf := some (fileOf pool21 8 #[.nestMembers #[319, 327, 801, 108, 663, 208]] #[{ accessFlags := 2, nameIndex := 5, descriptorIndex := 6, attributes := #[] }, { accessFlags := 265, nameIndex := 727, descriptorIndex := 728, attributes := #[] }] 49 2 #[] #[{ accessFlags := 25, nameIndex := 507, descriptorIndex := 526, attributes := #[] }, { accessFlags := 25, nameIndex := 399, descriptorIndex := 155, attributes := #[] }, { accessFlags := 25, nameIndex := 396, descriptorIndex := 155, attributes := #[] }, { accessFlags := 10, nameIndex := 525, descriptorIndex := 526, attributes := #[] }, { accessFlags := 26, nameIndex := 674, descriptorIndex := 12, attributes := #[] }, { accessFlags := 26, nameIndex := 677, descriptorIndex := 12, attributes := #[] }, { accessFlags := 10, nameIndex := 11, descriptorIndex := 12, attributes := #[] }, { accessFlags := 74, nameIndex := 175, descriptorIndex := 176, attributes := #[] }, { accessFlags := 10, nameIndex := 491, descriptorIndex := 222, attributes := #[] }, { accessFlags := 74, nameIndex := 29, descriptorIndex := 30, attributes := #[] }, { accessFlags := 74, nameIndex := 154, descriptorIndex := 155, attributes := #[] }, { accessFlags := 10, nameIndex := 217, descriptorIndex := 218, attributes := #[] }, { accessFlags := 10, nameIndex := 221, descriptorIndex := 222, attributes := #[] }, { accessFlags := 8, nameIndex := 562, descriptorIndex := 563, attributes := #[] }])
  fields := #[{ name := "in", type := (.object "java/io/InputStream"), accessFlags := 25, slot := 0, constantValue := 0 }, { name := "out", type := (.object "java/io/PrintStream"), accessFlags := 25, slot := 1, constantValue := 0 }, { name := "err", type := (.object "java/io/PrintStream"), accessFlags := 25, slot := 2, constantValue := 0 }, { name := "initialIn", type := (.object "java/io/InputStream"), accessFlags := 10, slot := 3, constantValue := 0 }, { name := "NEVER", type := .int, accessFlags := 26, slot := 4, constantValue := 0 }, { name := "MAYBE", type := .int, accessFlags := 26, slot := 5, constantValue := 0 }, { name := "allowSecurityManager", type := .int, accessFlags := 10, slot := 6, constantValue := 0 }, { name := "security", type := (.object "java/lang/SecurityManager"), accessFlags := 74, slot := 7, constantValue := 0 }, { name := "notSupportedJnuEncoding", type := (.object "java/lang/String"), accessFlags := 10, slot := 8, constantValue := 0 }, { name := "cons", type := (.object "java/io/Console"), accessFlags := 74, slot := 9, constantValue := 0 }, { name := "initialErrStream", type := (.object "java/io/PrintStream"), accessFlags := 74, slot := 10, constantValue := 0 }, { name := "props", type := (.object "java/util/Properties"), accessFlags := 10, slot := 11, constantValue := 0 }, { name := "lineSeparator", type := (.object "java/lang/String"), accessFlags := 10, slot := 12, constantValue := 0 }, { name := "bootLayer", type := (.object "java/lang/ModuleLayer"), accessFlags := 8, slot := 13, constantValue := 0 }]
  methods := #[k21m0, k21m1]
  instanceTypes := #[]
  staticTypes := #[(.object "java/io/InputStream"), (.object "java/io/PrintStream"), (.object "java/io/PrintStream"), (.object "java/io/InputStream"), .int, .int, .int, (.object "java/lang/SecurityManager"), (.object "java/lang/String"), (.object "java/io/Console"), (.object "java/io/PrintStream"), (.object "java/util/Properties"), (.object "java/lang/String"), (.object "java/lang/ModuleLayer")]
  resolved := Array.replicate 834 none
  statics := none }

def pool22 : Array CpInfo := pool [(9, u "<init>"), (6, .class_ 18), (1, u "java/lang/Object"), (0, u "()V"), (1, .class_ 23), (1, u "jdk/internal/util/ArraysSupport"), (0, u "LOG2_ARRAY_LONG_INDEX_SCALE"), (0, u "I"), (2, u "U"), (0, u "Ljdk/internal/misc/Unsafe;"), (8, u "BIG_ENDIAN"), (0, u "Z"), (8, u "LOG2_BYTE_BIT_SIZE"), (4, u "LOG2_ARRAY_INT_INDEX_SCALE"), (54, u "JLA"), (0, u "Ljdk/internal/access/JavaLangAccess;"), (11, u "LOG2_ARRAY_BOOLEAN_INDEX_SCALE"), (9, u "LOG2_ARRAY_BYTE_INDEX_SCALE"), (5, u "LOG2_ARRAY_CHAR_INDEX_SCALE"), (5, u "LOG2_ARRAY_SHORT_INDEX_SCALE"), (18, u "LOG2_ARRAY_FLOAT_INDEX_SCALE"), (24, u "LOG2_ARRAY_DOUBLE_INDEX_SCALE"), (6, .methodref 195 196), (0, .class_ 197), (0, .nameAndType 198 199), (0, u "java/lang/Math"), (0, u "max"), (0, u "(II)I"), (0, .integer 2147483639), (76, u "T_BOOLEAN"), (2, u "T_CHAR"), (1, u "T_FLOAT"), (1, u "T_DOUBLE"), (1, u "T_BYTE"), (1, u "T_SHORT"), (1, u "T_INT"), (1, u "T_LONG"), (1, u "SOFT_MAX_ARRAY_LENGTH"), (56, u "newLength"), (0, u "(III)I")] 25

def k22m0 : Method := { name := "<init>", desc := "()V", sig := { parameters := [], returnType := none }, accessFlags := 2, code := none }
def k22c1 : Code := { maxStack := 3, maxLocals := 4, code := jdk_48_method_27_code, exceptionTable := #[], attributes := #[] }
def k22m1 : Method := { name := "newLength", desc := "(III)I", sig := { parameters := [.int, .int, .int], returnType := some .int }, accessFlags := 9, code := some k22c1 }
/-- jdk/internal/util/ArraysSupport -/
def k22 : Class := { plain "jdk/internal/util/ArraysSupport" (some 0) with
  accessFlags := 33
  interfaces := #[]
  cf := some (fileOf pool22 21 #[] #[{ accessFlags := 2, nameIndex := 9, descriptorIndex := 19, attributes := #[] }, { accessFlags := 9, nameIndex := 351, descriptorIndex := 352, attributes := #[] }] 33 16 #[] #[{ accessFlags := 24, nameIndex := 28, descriptorIndex := 29, attributes := #[] }, { accessFlags := 26, nameIndex := 38, descriptorIndex := 39, attributes := #[] }, { accessFlags := 25, nameIndex := 121, descriptorIndex := 25, attributes := #[] }, { accessFlags := 25, nameIndex := 131, descriptorIndex := 25, attributes := #[] }, { accessFlags := 25, nameIndex := 137, descriptorIndex := 25, attributes := #[] }, { accessFlags := 25, nameIndex := 143, descriptorIndex := 25, attributes := #[] }, { accessFlags := 25, nameIndex := 53, descriptorIndex := 25, attributes := #[] }, { accessFlags := 25, nameIndex := 24, descriptorIndex := 25, attributes := #[] }, { accessFlags := 25, nameIndex := 162, descriptorIndex := 25, attributes := #[] }, { accessFlags := 25, nameIndex := 187, descriptorIndex := 25, attributes := #[] }, { accessFlags := 26, nameIndex := 48, descriptorIndex := 25, attributes := #[] }, { accessFlags := 25, nameIndex := 277, descriptorIndex := 25, attributes := #[] }, { accessFlags := 25, nameIndex := 280, descriptorIndex := 25, attributes := #[] }, { accessFlags := 25, nameIndex := 282, descriptorIndex := 25, attributes := #[] }, { accessFlags := 25, nameIndex := 284, descriptorIndex := 25, attributes := #[] }, { accessFlags := 25, nameIndex := 286, descriptorIndex := 25, attributes := #[] }, { accessFlags := 25, nameIndex := 288, descriptorIndex := 25, attributes := #[] }, { accessFlags := 25, nameIndex := 290, descriptorIndex := 25, attributes := #[] }, { accessFlags := 25, nameIndex := 292, descriptorIndex := 25, attributes := #[] }, { accessFlags := 26, nameIndex := 108, descriptorIndex := 109, attributes := #[] }, { accessFlags := 25, nameIndex := 294, descriptorIndex := 25, attributes := #[] }])
  fields := #[{ name := "U", type := (.object "jdk/internal/misc/Unsafe"), accessFlags := 24, slot := 0, constantValue := 0 }, { name := "BIG_ENDIAN", type := .boolean, accessFlags := 26, slot := 1, constantValue := 0 }, { name := "LOG2_ARRAY_BOOLEAN_INDEX_SCALE", type := .int, accessFlags := 25, slot := 2, constantValue := 0 }, { name := "LOG2_ARRAY_BYTE_INDEX_SCALE", type := .int, accessFlags := 25, slot := 3, constantValue := 0 }, { name := "LOG2_ARRAY_CHAR_INDEX_SCALE", type := .int, accessFlags := 25, slot := 4, constantValue := 0 }, { name := "LOG2_ARRAY_SHORT_INDEX_SCALE", type := .int, accessFlags := 25, slot := 5, constantValue := 0 }, { name := "LOG2_ARRAY_INT_INDEX_SCALE", type := .int, accessFlags := 25, slot := 6, constantValue := 0 }, { name := "LOG2_ARRAY_LONG_INDEX_SCALE", type := .int, accessFlags := 25, slot := 7, constantValue := 0 }, { name := "LOG2_ARRAY_FLOAT_INDEX_SCALE", type := .int, accessFlags := 25, slot := 8, constantValue := 0 }, { name := "LOG2_ARRAY_DOUBLE_INDEX_SCALE", type := .int, accessFlags := 25, slot := 9, constantValue := 0 }, { name := "LOG2_BYTE_BIT_SIZE", type := .int, accessFlags := 26, slot := 10, constantValue := 0 }, { name := "T_BOOLEAN", type := .int, accessFlags := 25, slot := 11, constantValue := 0 }, { name := "T_CHAR", type := .int, accessFlags := 25, slot := 12, constantValue := 0 }, { name := "T_FLOAT", type := .int, accessFlags := 25, slot := 13, constantValue := 0 }, { name := "T_DOUBLE", type := .int, accessFlags := 25, slot := 14, constantValue := 0 }, { name := "T_BYTE", type := .int, accessFlags := 25, slot := 15, constantValue := 0 }, { name := "T_SHORT", type := .int, accessFlags := 25, slot := 16, constantValue := 0 }, { name := "T_INT", type := .int, accessFlags := 25, slot := 17, constantValue := 0 }, { name := "T_LONG", type := .int, accessFlags := 25, slot := 18, constantValue := 0 }, { name := "JLA", type := (.object "jdk/internal/access/JavaLangAccess"), accessFlags := 26, slot := 19, constantValue := 0 }, { name := "SOFT_MAX_ARRAY_LENGTH", type := .int, accessFlags := 25, slot := 20, constantValue := 0 }]
  methods := #[k22m0, k22m1]
  instanceTypes := #[]
  staticTypes := #[(.object "jdk/internal/misc/Unsafe"), .boolean, .int, .int, .int, .int, .int, .int, .int, .int, .int, .int, .int, .int, .int, .int, .int, .int, .int, (.object "jdk/internal/access/JavaLangAccess"), .int]
  resolved := Array.replicate 378 none
  statics := none }

def pool23 : Array CpInfo := pool [(1, .class_ 2), (0, u "java/lang/Math"), (1, .class_ 6), (1, u "java/lang/Object"), (0, u "<init>"), (0, u "()V"), (89, .class_ 100), (1, u "java/lang/Math$RandomNumberGeneratorHolder"), (71, u "negativeZeroFloatBits"), (0, u "J"), (2, u "negativeZeroDoubleBits"), (21, u "max"), (2, u "min"), (43, u "$assertionsDisabled"), (0, u "Z"), (88, u "(II)I"), (2, u "twoToTheDoubleScaleDown"), (0, u "D"), (4, u "twoToTheDoubleScaleUp"), (9, u "E"), (3, u "PI"), (2, u "TAU"), (2, u "DEGREES_TO_RADIANS"), (0, u "RADIANS_TO_DEGREES")] 94

def k23m0 : Method := { name := "<init>", desc := "()V", sig := { parameters := [], returnType := none }, accessFlags := 2, code := none }
def k23c1 : Code := { maxStack := 2, maxLocals := 2, code := jdk_29_method_65_code, exceptionTable := #[], attributes := #[] }
def k23m1 : Method := { name := "max", desc := "(II)I", sig := { parameters := [.int, .int], returnType := some .int }, accessFlags := 9, code := some k23c1 }
def k23c2 : Code := { maxStack := 2, maxLocals := 2, code := jdk_29_method_69_code, exceptionTable := #[], attributes := #[] }
def k23m2 : Method := { name := "min", desc := "(II)I", sig := { parameters := [.int, .int], returnType := some .int }, accessFlags := 9, code := some k23c2 }
/-- java/lang/Math -/
def k23 : Class := { plain "java/lang/Math" (some 0) with
  accessFlags := 49
  interfaces := #[]
  cf := some (fileOf pool23 1 #[.nestMembers #[98]] #[{ accessFlags := 2, nameIndex := 7, descriptorIndex := 8, attributes := #[] }, { accessFlags := 9, nameIndex := 198, descriptorIndex := 335, attributes := #[] }, { accessFlags := 9, nameIndex := 201, descriptorIndex := 335, attributes := #[] }] 49 4 #[] #[{ accessFlags := 25, nameIndex := 354, descriptorIndex := 339, attributes := #[] }, { accessFlags := 25, nameIndex := 358, descriptorIndex := 339, attributes := #[] }, { accessFlags := 25, nameIndex := 361, descriptorIndex := 339, attributes := #[] }, { accessFlags := 26, nameIndex := 364, descriptorIndex := 339, attributes := #[] }, { accessFlags := 26, nameIndex := 365, descriptorIndex := 339, attributes := #[] }, { accessFlags := 26, nameIndex := 172, descriptorIndex := 173, attributes := #[] }, { accessFlags := 26, nameIndex := 176, descriptorIndex := 173, attributes := #[] }, { accessFlags := 8, nameIndex := 344, descriptorIndex := 339, attributes := #[] }, { accessFlags := 8, nameIndex := 338, descriptorIndex := 339, attributes := #[] }, { accessFlags := 4120, nameIndex := 245, descriptorIndex := 246, attributes := #[] }])
  fields := #[{ name := "E", type := .double, accessFlags := 25, slot := 0, constantValue := 0 }, { name := "PI", type := .double, accessFlags := 25, slot := 1, constantValue := 0 }, { name := "TAU", type := .double, accessFlags := 25, slot := 2, constantValue := 0 }, { name := "DEGREES_TO_RADIANS", type := .double, accessFlags := 26, slot := 3, constantValue := 0 }, { name := "RADIANS_TO_DEGREES", type := .double, accessFlags := 26, slot := 4, constantValue := 0 }, { name := "negativeZeroFloatBits", type := .long, accessFlags := 26, slot := 5, constantValue := 0 }, { name := "negativeZeroDoubleBits", type := .long, accessFlags := 26, slot := 6, constantValue := 0 }, { name := "twoToTheDoubleScaleUp", type := .double, accessFlags := 8, slot := 7, constantValue := 0 }, { name := "twoToTheDoubleScaleDown", type := .double, accessFlags := 8, slot := 8, constantValue := 0 }, { name := "$assertionsDisabled", type := .boolean, accessFlags := 4120, slot := 9, constantValue := 0 }]
  methods := #[k23m0, k23m1, k23m2]
  instanceTypes := #[]
  staticTypes := #[.double, .double, .double, .double, .double, .long, .long, .double, .double, .boolean]
  resolved := Array.replicate 460 none
  statics := none }

def pool24 : Array CpInfo := pool [(2, .class_ 4), (1, u "java/lang/Object"), (0, u "<init>"), (0, u "()V"), (1, .class_ 10), (1, u "java/lang/Number"), (2, .class_ 14), (0, u "java/io/Serializable"), (0, u "serialVersionUID"), (0, u "J")] 20

def k24m0 : Method := { name := "<init>", desc := "()V", sig := { parameters := [], returnType := none }, accessFlags := 1, code := none }
/-- java/lang/Number -/
def k24 : Class := { plain "java/lang/Number" (some 0) with
  accessFlags := 1057
  interfaces := #[3]
  cf := some (fileOf pool24 8 #[] #[{ accessFlags := 1, nameIndex := 5, descriptorIndex := 6, attributes := #[] }] 1057 2 #[13] #[{ accessFlags := 26, nameIndex := 15, descriptorIndex := 16, attributes := #[] }])
  fields := #[{ name := "serialVersionUID", type := .long, accessFlags := 26, slot := 0, constantValue := 0 }]
  methods := #[k24m0]
  instanceTypes := #[]
  staticTypes := #[.long]
  resolved := Array.replicate 37 none
  statics := none }

def pool25 : Array CpInfo := pool [(1, .class_ 2), (0, u "java/lang/Integer"), (16, u "digits"), (0, u "[C"), (33, u "(I)I"), (19, u "stringSize"), (2, u "getChars"), (0, u "(II[B)I"), (4, .fieldref 1 84), (0, .nameAndType 85 86), (0, u "DigitOnes"), (0, u "[B"), (2, u "DigitTens"), (99, .class_ 190), (0, u "java/lang/Integer$IntegerCache"), (3, u "I"), (8, .class_ 204), (0, u "java/lang/Number"), (2, u "value"), (94, u "TYPE"), (0, u "Ljava/lang/Class;"), (0, .class_ 305), (0, u "java/lang/Comparable"), (0, .class_ 307), (0, u "java/lang/constant/Constable"), (0, .class_ 309), (0, u "java/lang/constant/ConstantDesc"), (0, u "MIN_VALUE"), (1, u "MAX_VALUE"), (3, u "SIZE"), (1, u "BYTES"), (1, u "serialVersionUID"), (0, u "J")] 131

def k25c0 : Code := { maxStack := 4, maxLocals := 7, code := jdk_33_method_12_code, exceptionTable := #[], attributes := #[] }
def k25m0 : Method := { name := "getChars", desc := "(II[B)I", sig := { parameters := [.int, .int, (.array .byte)], returnType := some .int }, accessFlags := 8, code := some k25c0 }
def k25c1 : Code := { maxStack := 2, maxLocals := 4, code := jdk_33_method_13_code, exceptionTable := #[], attributes := #[] }
def k25m1 : Method := { name := "stringSize", desc := "(I)I", sig := { parameters := [.int], returnType := some .int }, accessFlags := 8, code := some k25c1 }
/-- java/lang/Integer -/
def k25 : Class := { plain "java/lang/Integer" (some 24) with
  accessFlags := 49
  interfaces := #[4, 6, 7]
  cf := some (fileOf pool25 1 #[.nestMembers #[189]] #[{ accessFlags := 8, nameIndex := 77, descriptorIndex := 78, attributes := #[] }, { accessFlags := 8, nameIndex := 74, descriptorIndex := 54, attributes := #[] }] 49 203 #[304, 306, 308] #[{ accessFlags := 25, nameIndex := 310, descriptorIndex := 194, attributes := #[] }, { accessFlags := 25, nameIndex := 312, descriptorIndex := 194, attributes := #[] }, { accessFlags := 25, nameIndex := 302, descriptorIndex := 303, attributes := #[] }, { accessFlags := 24, nameIndex := 19, descriptorIndex := 20, attributes := #[] }, { accessFlags := 24, nameIndex := 89, descriptorIndex := 86, attributes := #[] }, { accessFlags := 24, nameIndex := 85, descriptorIndex := 86, attributes := #[] }, { accessFlags := 18, nameIndex := 207, descriptorIndex := 194, attributes := #[] }, { accessFlags := 25, nameIndex := 316, descriptorIndex := 194, attributes := #[] }, { accessFlags := 25, nameIndex := 318, descriptorIndex := 194, attributes := #[] }, { accessFlags := 26, nameIndex := 320, descriptorIndex := 321, attributes := #[] }])
  fields := #[{ name := "MIN_VALUE", type := .int, accessFlags := 25, slot := 0, constantValue := 0 }, { name := "MAX_VALUE", type := .int, accessFlags := 25, slot := 1, constantValue := 0 }, { name := "TYPE", type := (.object "java/lang/Class"), accessFlags := 25, slot := 2, constantValue := 0 }, { name := "digits", type := (.array .char), accessFlags := 24, slot := 3, constantValue := 0 }, { name := "DigitTens", type := (.array .byte), accessFlags := 24, slot := 4, constantValue := 0 }, { name := "DigitOnes", type := (.array .byte), accessFlags := 24, slot := 5, constantValue := 0 }, { name := "value", type := .int, accessFlags := 18, slot := 0, constantValue := 0 }, { name := "SIZE", type := .int, accessFlags := 25, slot := 6, constantValue := 0 }, { name := "BYTES", type := .int, accessFlags := 25, slot := 7, constantValue := 0 }, { name := "serialVersionUID", type := .long, accessFlags := 26, slot := 8, constantValue := 0 }]
  methods := #[k25m0, k25m1]
  instanceTypes := #[.int]
  staticTypes := #[.int, .int, (.object "java/lang/Class"), (.array .char), (.array .byte), (.array .byte), .int, .int, .long]
  resolved := Array.replicate 453 none
  statics := some 2 }

def pool26 : Array CpInfo := pool [(4, .class_ 6), (1, u "java/lang/Object"), (0, u "<init>"), (0, u "()V"), (5, .class_ 16), (1, u "java/lang/StringLatin1"), (104, u "$assertionsDisabled"), (0, u "Z"), (98, .class_ 223), (1, u "java/lang/StringLatin1$LinesSpliterator"), (166, .class_ 391), (0, u "java/lang/StringLatin1$CharsSpliterator")] 3

def k26m0 : Method := { name := "<init>", desc := "()V", sig := { parameters := [], returnType := none }, accessFlags := 0, code := none }
/-- java/lang/StringLatin1 -/
def k26 : Class := { plain "java/lang/StringLatin1" (some 0) with
  accessFlags := 48
  interfaces := #[]
  cf := some (fileOf pool26 14 #[.nestMembers #[390, 221]] #[{ accessFlags := 0, nameIndex := 7, descriptorIndex := 8, attributes := #[] }] 48 4 #[] #[{ accessFlags := 4120, nameIndex := 121, descriptorIndex := 122, attributes := #[] }])
  fields := #[{ name := "$assertionsDisabled", type := .boolean, accessFlags := 4120, slot := 0, constantValue := 0 }]
  methods := #[k26m0]
  instanceTypes := #[]
  staticTypes := #[.boolean]
  resolved := Array.replicate 395 none
  statics := none }

def pool27 : Array CpInfo := pool [(2, .class_ 4), (1, u "java/lang/Object"), (0, u "<init>"), (0, u "()V"), (17, .class_ 26), (1, u "jdk/internal/util/Preconditions"), (28, .class_ 56), (0, u "jdk/internal/util/Preconditions$4"), (57, .class_ 115), (0, u "jdk/internal/util/Preconditions$1"), (7, u "SIOOBE_FORMATTER"), (0, u "Ljava/util/function/BiFunction;"), (0, .class_ 126), (0, u "jdk/internal/util/Preconditions$2"), (3, u "AIOOBE_FORMATTER"), (0, .class_ 132), (0, u "jdk/internal/util/Preconditions$3"), (3, u "IOOBE_FORMATTER")] 57

def k27m0 : Method := { name := "<init>", desc := "()V", sig := { parameters := [], returnType := none }, accessFlags := 1, code := none }
/-- jdk/internal/util/Preconditions -/
def k27 : Class := { plain "jdk/internal/util/Preconditions" (some 0) with
  accessFlags := 33
  interfaces := #[]
  cf := some (fileOf pool27 24 #[.nestMembers #[55, 131, 125, 114]] #[{ accessFlags := 1, nameIndex := 5, descriptorIndex := 6, attributes := #[] }] 33 2 #[] #[{ accessFlags := 25, nameIndex := 123, descriptorIndex := 124, attributes := #[] }, { accessFlags := 25, nameIndex := 130, descriptorIndex := 124, attributes := #[] }, { accessFlags := 25, nameIndex := 136, descriptorIndex := 124, attributes := #[] }])
  fields := #[{ name := "SIOOBE_FORMATTER", type := (.object "java/util/function/BiFunction"), accessFlags := 25, slot := 0, constantValue := 0 }, { name := "AIOOBE_FORMATTER", type := (.object "java/util/function/BiFunction"), accessFlags := 25, slot := 1, constantValue := 0 }, { name := "IOOBE_FORMATTER", type := (.object "java/util/function/BiFunction"), accessFlags := 25, slot := 2, constantValue := 0 }]
  methods := #[k27m0]
  instanceTypes := #[]
  staticTypes := #[(.object "java/util/function/BiFunction"), (.object "java/util/function/BiFunction"), (.object "java/util/function/BiFunction")]
  resolved := Array.replicate 194 none
  statics := some 3 }

def pool28 : Array CpInfo := pool [(2, .class_ 4), (1, u "java/lang/Object"), (0, u "<init>"), (0, u "()V"), (12, .class_ 20), (0, u "java/util/Collections"), (63, u "r"), (0, u "Ljava/util/Random;"), (80, .class_ 167), (0, u "java/util/Collections$UnmodifiableCollection"), (6, .class_ 175), (0, u "java/util/Collections$UnmodifiableSequencedCollection"), (6, .class_ 183), (0, u "java/util/Collections$UnmodifiableSet"), (6, .class_ 191), (0, u "java/util/Collections$UnmodifiableSequencedSet"), (6, .class_ 199), (0, u "java/util/Collections$UnmodifiableSortedSet"), (6, .class_ 207), (0, u "java/util/Collections$UnmodifiableNavigableSet"), (4, .class_ 213), (0, u "java/util/Collections$UnmodifiableList"), (1, .class_ 216), (0, u "java/util/Collections$UnmodifiableRandomAccessList"), (6, .class_ 224), (0, u "java/util/Collections$UnmodifiableMap"), (6, .class_ 232), (0, u "java/util/Collections$UnmodifiableSequencedMap"), (4, .class_ 238), (0, u "java/util/Collections$UnmodifiableSortedMap"), (6, .class_ 246), (0, u "java/util/Collections$UnmodifiableNavigableMap"), (3, .class_ 251), (0, u "java/util/Collections$SynchronizedCollection"), (4, .class_ 257), (0, u "java/util/Collections$SynchronizedSet"), (4, .class_ 263), (0, u "java/util/Collections$SynchronizedSortedSet"), (1, .class_ 266), (0, u "java/util/Collections$SynchronizedNavigableSet"), (1, .class_ 269), (0, u "java/util/Collections$SynchronizedRandomAccessList"), (1, .class_ 272), (0, u "java/util/Collections$SynchronizedList"), (5, .class_ 279), (0, u "java/util/Collections$SynchronizedMap"), (1, .class_ 282), (0, u "java/util/Collections$SynchronizedSortedMap"), (1, .class_ 285), (0, u "java/util/Collections$SynchronizedNavigableMap"), (1, .class_ 288), (0, u "java/util/Collections$CheckedCollection"), (11, .class_ 301), (0, u "java/util/Collections$CheckedQueue"), (3, .class_ 306), (0, u "java/util/Collections$CheckedSet"), (3, .class_ 311), (0, u "java/util/Collections$CheckedSortedSet"), (3, .class_ 316), (0, u "java/util/Collections$CheckedNavigableSet"), (3, .class_ 321), (0, u "java/util/Collections$CheckedRandomAccessList"), (3, .class_ 326), (0, u "java/util/Collections$CheckedList"), (1, .class_ 329), (0, u "java/util/Collections$CheckedMap"), (3, .class_ 334), (0, u "java/util/Collections$CheckedSortedMap"), (3, .class_ 339), (0, u "java/util/Collections$CheckedNavigableMap"), (4, .class_ 346), (1, u "java/util/Collections$EmptyIterator"), (3, .class_ 352), (1, u "java/util/Collections$EmptyListIterator"), (2, .class_ 357), (1, u "java/util/Collections$EmptyEnumeration"), (4, u "EMPTY_SET"), (0, u "Ljava/util/Set;"), (6, u "EMPTY_LIST"), (0, u "Ljava/util/List;"), (2, u "EMPTY_MAP"), (0, u "Ljava/util/Map;"), (4, .class_ 381), (0, u "java/util/Collections$SingletonSet"), (2, .class_ 385), (0, u "java/util/Collections$1"), (1, .class_ 388), (0, u "java/util/Collections$2"), (1, .class_ 391), (0, u "java/util/Collections$SingletonList"), (1, .class_ 394), (0, u "java/util/Collections$SingletonMap"), (22, .class_ 418), (0, u "java/util/Collections$CopiesList"), (4, .class_ 425), (1, u "java/util/Collections$ReverseComparator"), (8, .class_ 435), (0, u "java/util/Collections$ReverseComparator2"), (6, .class_ 443), (0, u "java/util/Collections$3"), (25, .class_ 470), (0, u "java/util/Collections$SetFromMap"), (2, .class_ 474), (0, u "java/util/Collections$SequencedSetFromMap"), (3, .class_ 479), (0, u "java/util/Collections$AsLIFOQueue"), (11, .class_ 492), (0, u "java/util/Collections$EmptySet"), (1, .class_ 495), (0, u "java/util/Collections$EmptyList"), (1, .class_ 498), (0, u "java/util/Collections$EmptyMap"), (1, u "BINARYSEARCH_THRESHOLD"), (0, u "I"), (2, u "REVERSE_THRESHOLD"), (1, u "SHUFFLE_THRESHOLD"), (1, u "FILL_THRESHOLD"), (1, u "ROTATE_THRESHOLD"), (1, u "COPY_THRESHOLD"), (1, u "REPLACEALL_THRESHOLD"), (1, u "INDEXOFSUBLIST_THRESHOLD"), (333, .class_ 851), (0, u "java/util/Collections$CheckedMap$CheckedEntrySet"), (0, .class_ 853), (0, u "java/util/Collections$CheckedMap$CheckedEntrySet$CheckedEntry"), (0, .class_ 855), (0, u "java/util/Collections$CheckedMap$CheckedEntrySet$1"), (0, .class_ 857), (0, u "java/util/Collections$CheckedList$1"), (0, .class_ 859), (0, u "java/util/Collections$CheckedCollection$1"), (0, .class_ 861), (0, u "java/util/Collections$UnmodifiableNavigableMap$EmptyNavigableMap"), (0, .class_ 863), (0, u "java/util/Collections$UnmodifiableMap$UnmodifiableEntrySet"), (0, .class_ 865), (0, u "java/util/Collections$UnmodifiableMap$UnmodifiableEntrySet$UnmodifiableEntry"), (0, .class_ 867), (0, u "java/util/Collections$UnmodifiableMap$UnmodifiableEntrySet$UnmodifiableEntrySetSpliterator"), (0, .class_ 869), (0, u "java/util/Collections$UnmodifiableMap$UnmodifiableEntrySet$1"), (0, .class_ 871), (0, u "java/util/Collections$UnmodifiableList$1"), (0, .class_ 873), (0, u "java/util/Collections$UnmodifiableNavigableSet$EmptyNavigableSet"), (0, .class_ 875), (0, u "java/util/Collections$UnmodifiableCollection$1")] 57

def k28m0 : Method := { name := "<init>", desc := "()V", sig := { parameters := [], returnType := none }, accessFlags := 2, code := none }
/-- java/util/Collections -/
def k28 : Class := { plain "java/util/Collections" (some 0) with
  accessFlags := 33
  interfaces := #[]
  cf := some (fileOf pool28 19 #[.nestMembers #[478, 473, 469, 434, 423, 417, 393, 390, 380, 497, 494, 491, 355, 350, 344, 338, 333, 328, 850, 852, 854, 320, 325, 856, 315, 310, 305, 300, 287, 858, 284, 281, 278, 268, 271, 265, 262, 256, 250, 245, 860, 237, 231, 223, 862, 864, 866, 868, 215, 212, 870, 206, 872, 198, 190, 182, 174, 166, 874, 442, 387, 384]] #[{ accessFlags := 2, nameIndex := 5, descriptorIndex := 6, attributes := #[] }] 33 2 #[] #[{ accessFlags := 26, nameIndex := 500, descriptorIndex := 501, attributes := #[] }, { accessFlags := 26, nameIndex := 504, descriptorIndex := 501, attributes := #[] }, { accessFlags := 26, nameIndex := 506, descriptorIndex := 501, attributes := #[] }, { accessFlags := 26, nameIndex := 508, descriptorIndex := 501, attributes := #[] }, { accessFlags := 26, nameIndex := 510, descriptorIndex := 501, attributes := #[] }, { accessFlags := 26, nameIndex := 512, descriptorIndex := 501, attributes := #[] }, { accessFlags := 26, nameIndex := 514, descriptorIndex := 501, attributes := #[] }, { accessFlags := 26, nameIndex := 516, descriptorIndex := 501, attributes := #[] }, { accessFlags := 10, nameIndex := 84, descriptorIndex := 85, attributes := #[] }, { accessFlags := 25, nameIndex := 362, descriptorIndex := 363, attributes := #[] }, { accessFlags := 25, nameIndex := 370, descriptorIndex := 371, attributes := #[] }, { accessFlags := 25, nameIndex := 374, descriptorIndex := 375, attributes := #[] }])
  fields := #[{ name := "BINARYSEARCH_THRESHOLD", type := .int, accessFlags := 26, slot := 0, constantValue := 0 }, { name := "REVERSE_THRESHOLD", type := .int, accessFlags := 26, slot := 1, constantValue := 0 }, { name := "SHUFFLE_THRESHOLD", type := .int, accessFlags := 26, slot := 2, constantValue := 0 }, { name := "FILL_THRESHOLD", type := .int, accessFlags := 26, slot := 3, constantValue := 0 }, { name := "ROTATE_THRESHOLD", type := .int, accessFlags := 26, slot := 4, constantValue := 0 }, { name := "COPY_THRESHOLD", type := .int, accessFlags := 26, slot := 5, constantValue := 0 }, { name := "REPLACEALL_THRESHOLD", type := .int, accessFlags := 26, slot := 6, constantValue := 0 }, { name := "INDEXOFSUBLIST_THRESHOLD", type := .int, accessFlags := 26, slot := 7, constantValue := 0 }, { name := "r", type := (.object "java/util/Random"), accessFlags := 10, slot := 8, constantValue := 0 }, { name := "EMPTY_SET", type := (.object "java/util/Set"), accessFlags := 25, slot := 9, constantValue := 0 }, { name := "EMPTY_LIST", type := (.object "java/util/List"), accessFlags := 25, slot := 10, constantValue := 0 }, { name := "EMPTY_MAP", type := (.object "java/util/Map"), accessFlags := 25, slot := 11, constantValue := 0 }]
  methods := #[k28m0]
  instanceTypes := #[]
  staticTypes := #[.int, .int, .int, .int, .int, .int, .int, .int, (.object "java/util/Random"), (.object "java/util/Set"), (.object "java/util/List"), (.object "java/util/Map")]
  resolved := Array.replicate 933 none
  statics := some 4 }

def pool29 : Array CpInfo := pool [(8, .class_ 10), (1, u "java/lang/Iterable"), (24, .class_ 36), (0, u "java/lang/Object")] 25

/-- java/lang/Iterable -/
def k29 : Class := { plain "java/lang/Iterable" (some 0) with
  accessFlags := 1537
  interfaces := #[]
  cf := some (fileOf pool29 8 #[] #[] 1537 35 #[] #[])
  fields := #[]
  methods := #[]
  instanceTypes := #[]
  staticTypes := #[]
  resolved := Array.replicate 62 none
  statics := none }

def pool30 : Array CpInfo := pool [(10, .class_ 12), (1, u "java/util/Collection"), (47, .class_ 61), (0, u "java/lang/Object"), (0, .class_ 63), (0, u "java/lang/Iterable")] 51

/-- java/util/Collection -/
def k30 : Class := { plain "java/util/Collection" (some 0) with
  accessFlags := 1537
  interfaces := #[29]
  cf := some (fileOf pool30 10 #[] #[] 1537 60 #[62] #[])
  fields := #[]
  methods := #[]
  instanceTypes := #[]
  staticTypes := #[]
  resolved := Array.replicate 115 none
  statics := none }

def pool31 : Array CpInfo := pool [(2, .class_ 4), (1, u "java/lang/Object"), (0, u "<init>"), (0, u "()V"), (1, .class_ 10), (1, u "java/util/AbstractCollection"), (66, .class_ 78), (0, u "java/util/Collection")] 81

def k31m0 : Method := { name := "<init>", desc := "()V", sig := { parameters := [], returnType := none }, accessFlags := 4, code := none }
/-- java/util/AbstractCollection -/
def k31 : Class := { plain "java/util/AbstractCollection" (some 0) with
  accessFlags := 1057
  interfaces := #[30]
  cf := some (fileOf pool31 8 #[] #[{ accessFlags := 4, nameIndex := 5, descriptorIndex := 6, attributes := #[] }] 1057 2 #[77] #[])
  fields := #[]
  methods := #[k31m0]
  instanceTypes := #[]
  staticTypes := #[]
  resolved := Array.replicate 160 none
  statics := none }

def pool32 : Array CpInfo := pool [(8, .class_ 10), (1, u "java/util/SequencedCollection"), (15, .class_ 27), (0, u "java/lang/Object"), (0, .class_ 29), (0, u "java/util/Collection")] 27

/-- java/util/SequencedCollection -/
def k32 : Class := { plain "java/util/SequencedCollection" (some 0) with
  accessFlags := 1537
  interfaces := #[30]
  cf := some (fileOf pool32 8 #[] #[] 1537 26 #[28] #[])
  fields := #[]
  methods := #[]
  instanceTypes := #[]
  staticTypes := #[]
  resolved := Array.replicate 57 none
  statics := none }

def pool33 : Array CpInfo := pool [(8, .class_ 10), (1, u "java/util/List"), (92, .class_ 104), (0, u "java/lang/Object"), (15, .class_ 121), (0, u "java/util/SequencedCollection")] 129

/-- java/util/List -/
def k33 : Class := { plain "java/util/List" (some 0) with
  accessFlags := 1537
  interfaces := #[32]
  cf := some (fileOf pool33 8 #[] #[] 1537 103 #[120] #[])
  fields := #[]
  methods := #[]
  instanceTypes := #[]
  staticTypes := #[]
  resolved := Array.replicate 251 none
  statics := none }

def pool34 : Array CpInfo := pool [(2, .class_ 4), (1, u "java/util/AbstractCollection"), (0, u "<init>"), (0, u "()V"), (1, .class_ 10), (1, u "java/util/AbstractList"), (0, u "modCount"), (0, u "I"), (64, .class_ 78), (0, u "java/util/AbstractList$Itr"), (3, .class_ 83), (0, u "java/util/AbstractList$ListItr"), (9, .class_ 94), (0, u "java/util/AbstractList$RandomAccessSubList"), (3, .class_ 99), (0, u "java/util/AbstractList$SubList"), (33, .class_ 134), (0, u "java/util/List"), (73, .class_ 209), (0, u "java/util/AbstractList$SubList$1"), (0, .class_ 211), (0, u "java/util/AbstractList$RandomAccessSpliterator")] 6

def k34m0 : Method := { name := "<init>", desc := "()V", sig := { parameters := [], returnType := none }, accessFlags := 4, code := none }
/-- java/util/AbstractList -/
def k34 : Class := { plain "java/util/AbstractList" (some 31) with
  accessFlags := 1057
  interfaces := #[33]
  cf := some (fileOf pool34 8 #[.nestMembers #[93, 98, 208, 210, 82, 77]] #[{ accessFlags := 4, nameIndex := 5, descriptorIndex := 6, attributes := #[] }] 1057 2 #[133] #[{ accessFlags := 132, nameIndex := 11, descriptorIndex := 12, attributes := #[] }])
  fields := #[{ name := "modCount", type := .int, accessFlags := 132, slot := 0, constantValue := 0 }]
  methods := #[k34m0]
  instanceTypes := #[.int]
  staticTypes := #[]
  resolved := Array.replicate 218 none
  statics := none }

def pool35 : Array CpInfo := pool [(1, .class_ 2), (0, u "java/util/RandomAccess"), (0, .class_ 4), (0, u "java/lang/Object")] 2

/-- java/util/RandomAccess -/
def k35 : Class := { plain "java/util/RandomAccess" (some 0) with
  accessFlags := 1537
  interfaces := #[]
  cf := some (fileOf pool35 1 #[] #[] 1537 3 #[] #[])
  fields := #[]
  methods := #[]
  instanceTypes := #[]
  staticTypes := #[]
  resolved := Array.replicate 7 none
  statics := none }

def pool36 : Array CpInfo := pool [(2, .class_ 4), (1, u "java/util/AbstractList"), (0, u "<init>"), (0, u "()V"), (1, .class_ 10), (1, u "java/util/Collections"), (54, .class_ 66), (0, u "java/util/Collections$EmptyList"), (0, .class_ 68), (0, u "java/util/RandomAccess"), (0, .class_ 70), (0, u "java/io/Serializable"), (0, u "serialVersionUID"), (0, u "J")] 77

def k36m0 : Method := { name := "<init>", desc := "()V", sig := { parameters := [], returnType := none }, accessFlags := 2, code := none }
/-- java/util/Collections$EmptyList -/
def k36 : Class := { plain "java/util/Collections$EmptyList" (some 34) with
  accessFlags := 32
  interfaces := #[35, 3]
  cf := some (fileOf pool36 65 #[.nestHost 8] #[{ accessFlags := 2, nameIndex := 5, descriptorIndex := 6, attributes := #[] }] 32 2 #[67, 69] #[{ accessFlags := 26, nameIndex := 71, descriptorIndex := 72, attributes := #[] }])
  fields := #[{ name := "serialVersionUID", type := .long, accessFlags := 26, slot := 0, constantValue := 0 }]
  methods := #[k36m0]
  instanceTypes := #[.int]
  staticTypes := #[.long]
  resolved := Array.replicate 150 none
  statics := none }

def pool37 : Array CpInfo := pool [(2, .class_ 4), (1, u "java/lang/StackTraceElement"), (0, u "<init>"), (2, .class_ 10), (1, u "java/lang/Object"), (0, u "()V"), (2, u "format"), (0, u "B"), (2, u "classLoaderName"), (0, u "Ljava/lang/String;"), (2, u "moduleName"), (2, u "moduleVersion"), (12, u "declaringClass"), (4, u "methodName"), (2, u "fileName"), (2, u "lineNumber"), (0, u "I"), (65, u "declaringClassObject"), (0, u "Ljava/lang/Class;"), (33, .class_ 153), (1, u "java/lang/StackTraceElement$HashedModules"), (17, .class_ 172), (0, u "java/io/Serializable"), (0, u "NATIVE_METHOD"), (1, u "UNKNOWN_SOURCE"), (2, u "BUILTIN_CLASS_LOADER"), (1, u "JDK_NON_UPGRADEABLE_MODULE"), (1, u "serialVersionUID"), (0, u "J")] 51

def k37m0 : Method := { name := "<init>", desc := "()V", sig := { parameters := [], returnType := none }, accessFlags := 2, code := none }
/-- java/lang/StackTraceElement -/
def k37 : Class := { plain "java/lang/StackTraceElement" (some 0) with
  accessFlags := 49
  interfaces := #[3]
  cf := some (fileOf pool37 2 #[.nestMembers #[151]] #[{ accessFlags := 2, nameIndex := 5, descriptorIndex := 11, attributes := #[] }] 49 8 #[171] #[{ accessFlags := 26, nameIndex := 173, descriptorIndex := 19, attributes := #[] }, { accessFlags := 26, nameIndex := 175, descriptorIndex := 19, attributes := #[] }, { accessFlags := 130, nameIndex := 116, descriptorIndex := 117, attributes := #[] }, { accessFlags := 2, nameIndex := 18, descriptorIndex := 19, attributes := #[] }, { accessFlags := 2, nameIndex := 22, descriptorIndex := 19, attributes := #[] }, { accessFlags := 2, nameIndex := 25, descriptorIndex := 19, attributes := #[] }, { accessFlags := 2, nameIndex := 38, descriptorIndex := 19, attributes := #[] }, { accessFlags := 2, nameIndex := 43, descriptorIndex := 19, attributes := #[] }, { accessFlags := 2, nameIndex := 46, descriptorIndex := 19, attributes := #[] }, { accessFlags := 2, nameIndex := 49, descriptorIndex := 50, attributes := #[] }, { accessFlags := 2, nameIndex := 14, descriptorIndex := 15, attributes := #[] }, { accessFlags := 26, nameIndex := 178, descriptorIndex := 15, attributes := #[] }, { accessFlags := 26, nameIndex := 180, descriptorIndex := 15, attributes := #[] }, { accessFlags := 26, nameIndex := 182, descriptorIndex := 183, attributes := #[] }])
  fields := #[{ name := "NATIVE_METHOD", type := (.object "java/lang/String"), accessFlags := 26, slot := 0, constantValue := 0 }, { name := "UNKNOWN_SOURCE", type := (.object "java/lang/String"), accessFlags := 26, slot := 1, constantValue := 0 }, { name := "declaringClassObject", type := (.object "java/lang/Class"), accessFlags := 130, slot := 0, constantValue := 0 }, { name := "classLoaderName", type := (.object "java/lang/String"), accessFlags := 2, slot := 1, constantValue := 0 }, { name := "moduleName", type := (.object "java/lang/String"), accessFlags := 2, slot := 2, constantValue := 0 }, { name := "moduleVersion", type := (.object "java/lang/String"), accessFlags := 2, slot := 3, constantValue := 0 }, { name := "declaringClass", type := (.object "java/lang/String"), accessFlags := 2, slot := 4, constantValue := 0 }, { name := "methodName", type := (.object "java/lang/String"), accessFlags := 2, slot := 5, constantValue := 0 }, { name := "fileName", type := (.object "java/lang/String"), accessFlags := 2, slot := 6, constantValue := 0 }, { name := "lineNumber", type := .int, accessFlags := 2, slot := 7, constantValue := 0 }, { name := "format", type := .byte, accessFlags := 2, slot := 8, constantValue := 0 }, { name := "BUILTIN_CLASS_LOADER", type := .byte, accessFlags := 26, slot := 2, constantValue := 0 }, { name := "JDK_NON_UPGRADEABLE_MODULE", type := .byte, accessFlags := 26, slot := 3, constantValue := 0 }, { name := "serialVersionUID", type := .long, accessFlags := 26, slot := 4, constantValue := 0 }]
  methods := #[k37m0]
  instanceTypes := #[(.object "java/lang/Class"), (.object "java/lang/String"), (.object "java/lang/String"), (.object "java/lang/String"), (.object "java/lang/String"), (.object "java/lang/String"), (.object "java/lang/String"), .int, .byte]
  staticTypes := #[(.object "java/lang/String"), (.object "java/lang/String"), .byte, .byte, .long]
  resolved := Array.replicate 235 none
  statics := none }

/-- the primitive byte -/
def k38 : Class := { plain "byte" none with kind := .primitive 'B', accessFlags := 0x411 }
/-- [B -/
def k39 : Class := { plain "[B" (some 0) with kind := .array 38 .byte, interfaces := #[12, 3], accessFlags := 1041 }

/-- the primitive int -/
def k40 : Class := { plain "int" none with kind := .primitive 'I', accessFlags := 0x411 }
/-- [I -/
def k41 : Class := { plain "[I" (some 0) with kind := .array 40 .int, interfaces := #[12, 3], accessFlags := 1041 }

/-- [Ljava/lang/Object; -/
def k42 : Class := { plain "[Ljava/lang/Object;" (some 0) with kind := .array 0 (.object "java/lang/Object"), interfaces := #[12, 3], accessFlags := 1041 }

/-- [Ljava/lang/StackTraceElement; -/
def k43 : Class := { plain "[Ljava/lang/StackTraceElement;" (some 0) with kind := .array 37 (.object "java/lang/StackTraceElement"), interfaces := #[12, 3], accessFlags := 1041 }

/-- [Ljava/lang/Throwable; -/
def k44 : Class := { plain "[Ljava/lang/Throwable;" (some 0) with kind := .array 13 (.object "java/lang/Throwable"), interfaces := #[12, 3], accessFlags := 1041 }

def heap : Heap := #[{ cls := 8, slots := #[.long 0, .int 1, .null, .int 0, .null, .int 0, .int 0], vm := .statics 8 },
  { cls := 13, slots := #[.long 0, .ref 7, .ref 8, .null, .null, .null, .null, .ref 9, .int 1], vm := .statics 13 },
  { cls := 25, slots := #[.int 0, .int 0, .null, .null, .ref 6, .ref 5, .int 0, .int 0, .long 0], vm := .statics 25 },
  { cls := 27, slots := #[.null, .null, .null], vm := .statics 27 },
  { cls := 28, slots := #[.int 0, .int 0, .int 0, .int 0, .int 0, .int 0, .int 0, .int 0, .null, .null, .ref 8, .null], vm := .statics 28 },
  { cls := 39, slots := #[.int 48, .int 49, .int 50, .int 51, .int 52, .int 53, .int 54, .int 55, .int 56, .int 57, .int 48, .int 49, .int 50, .int 51, .int 52, .int 53, .int 54, .int 55, .int 56, .int 57, .int 48, .int 49, .int 50, .int 51, .int 52, .int 53, .int 54, .int 55, .int 56, .int 57, .int 48, .int 49, .int 50, .int 51, .int 52, .int 53, .int 54, .int 55, .int 56, .int 57, .int 48, .int 49, .int 50, .int 51, .int 52, .int 53, .int 54, .int 55, .int 56, .int 57, .int 48, .int 49, .int 50, .int 51, .int 52, .int 53, .int 54, .int 55, .int 56, .int 57, .int 48, .int 49, .int 50, .int 51, .int 52, .int 53, .int 54, .int 55, .int 56, .int 57, .int 48, .int 49, .int 50, .int 51, .int 52, .int 53, .int 54, .int 55, .int 56, .int 57, .int 48, .int 49, .int 50, .int 51, .int 52, .int 53, .int 54, .int 55, .int 56, .int 57, .int 48, .int 49, .int 50, .int 51, .int 52, .int 53, .int 54, .int 55, .int 56, .int 57], vm := .none },
  { cls := 39, slots := #[.int 48, .int 48, .int 48, .int 48, .int 48, .int 48, .int 48, .int 48, .int 48, .int 48, .int 49, .int 49, .int 49, .int 49, .int 49, .int 49, .int 49, .int 49, .int 49, .int 49, .int 50, .int 50, .int 50, .int 50, .int 50, .int 50, .int 50, .int 50, .int 50, .int 50, .int 51, .int 51, .int 51, .int 51, .int 51, .int 51, .int 51, .int 51, .int 51, .int 51, .int 52, .int 52, .int 52, .int 52, .int 52, .int 52, .int 52, .int 52, .int 52, .int 52, .int 53, .int 53, .int 53, .int 53, .int 53, .int 53, .int 53, .int 53, .int 53, .int 53, .int 54, .int 54, .int 54, .int 54, .int 54, .int 54, .int 54, .int 54, .int 54, .int 54, .int 55, .int 55, .int 55, .int 55, .int 55, .int 55, .int 55, .int 55, .int 55, .int 55, .int 56, .int 56, .int 56, .int 56, .int 56, .int 56, .int 56, .int 56, .int 56, .int 56, .int 57, .int 57, .int 57, .int 57, .int 57, .int 57, .int 57, .int 57, .int 57, .int 57], vm := .none },
  { cls := 43, slots := #[], vm := .none },
  { cls := 36, slots := #[.int 0], vm := .none },
  { cls := 44, slots := #[], vm := .none }]
def classes : Array Class := #[k0, k1, k2, k3, k4, k5, k6, k7, k8, k9, k10, k11, k12, k13, k14, k15, k16, k17, k18, k19, k20, k21, k22, k23, k24, k25, k26, k27, k28, k29, k30, k31, k32, k33, k34, k35, k36, k37, k38, k39, k40, k41, k42, k43, k44]
def interned : List (Array UInt16 × Addr) := []
def slotsUsed : Nat := 241
def theMethod : MethodId := ⟨1, 1⟩
def args0 : Array Value := #[.int 5, .int 2, .int 1, .int 77]
def aboutOver (below : List Frame) : State where
  vm := { classes := classes, interned := interned.toArray }
  heap := heap
  slotsUsed := slotsUsed
  threads := #[{ frames := .invoking theMethod args0 :: below }]
def below0 : List Frame := [.native { method := ⟨0, 0⟩, args := #[] }]
def about1 : State := aboutOver below0
def p0 : Program := .bare "" "" ""
def e0 : Env := launch0.env 0 0 0
theorem w_frames : about1.frames = Frame.invoking theMethod args0 :: below0 := rfl
set_option maxRecDepth 65536 in
theorem w_args : argsFit about1.vm theMethod args0 = true := by decide +kernel
set_option maxRecDepth 65536 in
theorem w_heap : heapFits about1 = true := by decide +kernel
set_option maxRecDepth 65536 in
theorem w_runnable : about1.curStatus? = some .runnable := by decide +kernel
set_option maxRecDepth 65536 in
theorem w_alone : about1.alone = true := by decide +kernel
set_option maxRecDepth 65536 in
theorem w_named : about1.methodNamed? x = some theMethod := by decide +kernel
set_option maxRecDepth 65536 in
theorem w_hears : about1.hears theMethod below0 = true := by decide +kernel
set_option maxRecDepth 65536 in
theorem w_ripe : about1.ripe theMethod args0 below0 = true := by decide +kernel
theorem w_running : about1.status = .running := rfl
set_option maxRecDepth 65536 in
theorem w_room : about1.hasRoom e0.platform room_1 = true :=
  launch0.hasRoom_least _ room_1 (by decide +kernel) (by decide +kernel) (by decide +kernel) (by decide +kernel) (by decide +kernel) (by decide +kernel)
theorem allAtoms_all (ts : List Jvm.Cond) (a : Array Jvm.Value) (st : Jvm.State) : (allAtoms ts).before a st = ts.all (fun c => c.before a st) := by
  induction ts with
  | nil => rfl
  | cons c t ih =>
    show (Jvm.Cond.and c (allAtoms t)).before a st = _
    rw [Jvm.Cond.before_and, ih, List.all_cons]
def words1 : List Jvm.Cond := Jvm.Cond.code x code maxLocals ret :: tables_1
/-- a 'code' word, met by the world's own term for the bytes: nothing is compared byte by byte -/
theorem code_word {y : MethodName} {bytes : ByteArray} {mx : Nat} {rt : Option FieldType} {a : Array Value} {s : State} {m : MethodId} {meth : Method} {c : Code} (h1 : s.methodNamed? y = some m) (h2 : s.vm.method? m = some meth) (h3 : meth.code = some c) (h4 : c.code = bytes)
    (h5 : (c.maxLocals == mx && c.exceptionTable.isEmpty && decide (c.maxStack ≤ mostOperands) && decide (meth.sig.returnType = rt) && !meth.locks && decide (parseMethodDescriptor y.desc = some meth.sig)) = true) : (Jvm.Cond.code y bytes mx rt).before a s = true := by
  simp only [Bool.and_eq_true, beq_iff_eq, Bool.not_eq_true', decide_eq_true_eq] at h5
  obtain ⟨⟨⟨⟨⟨g1, g2⟩, g3⟩, g4⟩, g5⟩, g6⟩ := h5
  simp [Cond.before, Cond.holds, Cond.value, h1, h2, h3, h4, g1, g2, g3, g4, g5, g6]
def isCode : Jvm.Cond → Bool
  | .code _ _ _ _ => true
  | _ => false
theorem all_split {L : List Jvm.Cond} {P : Jvm.Cond → Bool} (h1 : L.all (fun c => isCode c || P c) = true) (h2 : ∀ c ∈ L.filter isCode, P c = true) : L.all P = true := by
  refine List.all_eq_true.mpr fun c hc => ?_
  have h := List.all_eq_true.mp h1 c hc
  rcases Bool.eq_false_or_eq_true (isCode c) with hi | hi
  · exact h2 c (List.mem_filter.mpr ⟨hc, hi⟩)
  · simpa [hi] using h
set_option maxRecDepth 65536 in
theorem w_c0 : (Jvm.Cond.code x code maxLocals ret).before args0 about1 = true := code_word (m := ⟨1, 1⟩) (meth := k1m1) (c := k1c1) (by decide +kernel) rfl rfl rfl (by decide +kernel)
set_option maxRecDepth 65536 in
theorem w_c1 : (Jvm.Cond.code ({ cls := "com/example/wireform/wireform/amf3/AmfInput", name := "<init>", desc := "([B)V" } : Jvm.MethodName) prog_14_method_1_code (2 : Nat) (Option.none : Option Jvm.ClassFile.FieldType)).before args0 about1 = true := code_word (m := ⟨2, 0⟩) (meth := k2m0) (c := k2c0) (by decide +kernel) rfl rfl rfl (by decide +kernel)
set_option maxRecDepth 65536 in
theorem w_c2 : (Jvm.Cond.code ({ cls := "com/example/wireform/wireform/amf3/AmfInput", name := "<init>", desc := "([BI)V" } : Jvm.MethodName) prog_14_method_2_code (3 : Nat) (Option.none : Option Jvm.ClassFile.FieldType)).before args0 about1 = true := code_word (m := ⟨2, 1⟩) (meth := k2m1) (c := k2c1) (by decide +kernel) rfl rfl rfl (by decide +kernel)
set_option maxRecDepth 65536 in
theorem w_c3 : (Jvm.Cond.code ({ cls := "java/lang/Object", name := "<init>", desc := "()V" } : Jvm.MethodName) object_method_1_code (1 : Nat) (Option.none : Option Jvm.ClassFile.FieldType)).before args0 about1 = true := code_word (m := ⟨0, 0⟩) (meth := k0m0) (c := k0c0) (by decide +kernel) rfl rfl rfl (by decide +kernel)
set_option maxRecDepth 65536 in
theorem w_c4 : (Jvm.Cond.code ({ cls := "java/util/Objects", name := "requireNonNull", desc := "(Ljava/lang/Object;Ljava/lang/String;)Ljava/lang/Object;" } : Jvm.MethodName) jdk_31_method_11_code (2 : Nat) (Option.some (Jvm.ClassFile.FieldType.object "java/lang/Object"))).before args0 about1 = true := code_word (m := ⟨9, 1⟩) (meth := k9m1) (c := k9c1) (by decide +kernel) rfl rfl rfl (by decide +kernel)
set_option maxRecDepth 65536 in
theorem w_c5 : (Jvm.Cond.code ({ cls := "com/example/wireform/wireform/mapping/Conversions", name := "requireDepthLimit", desc := "(I)I" } : Jvm.MethodName) prog_36_method_5_code (1 : Nat) (Option.some Jvm.ClassFile.FieldType.int)).before args0 about1 = true := code_word (m := ⟨10, 0⟩) (meth := k10m0) (c := k10c0) (by decide +kernel) rfl rfl rfl (by decide +kernel)
set_option maxRecDepth 65536 in
theorem w_c6 : (Jvm.Cond.code ({ cls := "com/example/wireform/wireform/amf3/AmfInput", name := "startValue", desc := "()I" } : Jvm.MethodName) prog_14_method_8_code (2 : Nat) (Option.some Jvm.ClassFile.FieldType.int)).before args0 about1 = true := code_word (m := ⟨2, 2⟩) (meth := k2m2) (c := k2c2) (by decide +kernel) rfl rfl rfl (by decide +kernel)
set_option maxRecDepth 65536 in
theorem w_c7 : (Jvm.Cond.code ({ cls := "com/example/wireform/wireform/amf3/AmfInput", name := "readBytes", desc := "(ILjava/lang/String;)[B" } : Jvm.MethodName) prog_14_method_17_code (4 : Nat) (Option.some (Jvm.ClassFile.FieldType.array Jvm.ClassFile.FieldType.byte))).before args0 about1 = true := code_word (m := ⟨2, 4⟩) (meth := k2m4) (c := k2c4) (by decide +kernel) rfl rfl rfl (by decide +kernel)
set_option maxRecDepth 65536 in
theorem w_c8 : (Jvm.Cond.code ({ cls := "com/example/wireform/wireform/amf3/AmfInput", name := "require", desc := "(JLjava/lang/String;)V" } : Jvm.MethodName) prog_14_method_19_code (5 : Nat) (Option.none : Option Jvm.ClassFile.FieldType)).before args0 about1 = true := code_word (m := ⟨2, 5⟩) (meth := k2m5) (c := k2c5) (by decide +kernel) rfl rfl rfl (by decide +kernel)
set_option maxRecDepth 65536 in
theorem w_c9 : (Jvm.Cond.code ({ cls := "java/util/Arrays", name := "copyOfRange", desc := "([BII)[B" } : Jvm.MethodName) jdk_65_method_132_code (3 : Nat) (Option.some (Jvm.ClassFile.FieldType.array Jvm.ClassFile.FieldType.byte))).before args0 about1 = true := code_word (m := ⟨11, 3⟩) (meth := k11m3) (c := k11c3) (by decide +kernel) rfl rfl rfl (by decide +kernel)
set_option maxRecDepth 65536 in
theorem w_c10 : (Jvm.Cond.code ({ cls := "com/example/wireform/wireform/amf3/AmfInput", name := "endValue", desc := "(I)V" } : Jvm.MethodName) prog_14_method_9_code (2 : Nat) (Option.none : Option Jvm.ClassFile.FieldType)).before args0 about1 = true := code_word (m := ⟨2, 3⟩) (meth := k2m3) (c := k2c3) (by decide +kernel) rfl rfl rfl (by decide +kernel)
set_option maxRecDepth 65536 in
theorem w_c11 : (Jvm.Cond.code ({ cls := "com/example/wireform/wireform/amf3/AmfInput", name := "failure", desc := "(Ljava/lang/String;)Lcom/example/wireform/wireform/amf3/AmfDecodeException;" } : Jvm.MethodName) prog_14_method_20_code (2 : Nat) (Option.some (Jvm.ClassFile.FieldType.object "com/example/wireform/wireform/amf3/AmfDecodeException"))).before args0 about1 = true := code_word (m := ⟨2, 6⟩) (meth := k2m6) (c := k2c6) (by decide +kernel) rfl rfl rfl (by decide +kernel)
set_option maxRecDepth 65536 in
theorem w_c12 : (Jvm.Cond.code ({ cls := "com/example/wireform/wireform/amf3/AmfDecodeException", name := "<init>", desc := "(Ljava/lang/String;I)V" } : Jvm.MethodName) prog_13_method_1_code (3 : Nat) (Option.none : Option Jvm.ClassFile.FieldType)).before args0 about1 = true := code_word (m := ⟨17, 0⟩) (meth := k17m0) (c := k17c0) (by decide +kernel) rfl rfl rfl (by decide +kernel)
set_option maxRecDepth 65536 in
theorem w_c13 : (Jvm.Cond.code ({ cls := "java/lang/StringBuilder", name := "<init>", desc := "()V" } : Jvm.MethodName) jdk_67_method_1_code (1 : Nat) (Option.none : Option Jvm.ClassFile.FieldType)).before args0 about1 = true := code_word (m := ⟨20, 0⟩) (meth := k20m0) (c := k20c0) (by decide +kernel) rfl rfl rfl (by decide +kernel)
set_option maxRecDepth 65536 in
theorem w_c14 : (Jvm.Cond.code ({ cls := "java/lang/AbstractStringBuilder", name := "<init>", desc := "(I)V" } : Jvm.MethodName) jdk_68_method_2_code (2 : Nat) (Option.none : Option Jvm.ClassFile.FieldType)).before args0 about1 = true := code_word (m := ⟨19, 1⟩) (meth := k19m1) (c := k19c1) (by decide +kernel) rfl rfl rfl (by decide +kernel)
set_option maxRecDepth 65536 in
theorem w_c15 : (Jvm.Cond.code ({ cls := "java/lang/StringBuilder", name := "append", desc := "(Ljava/lang/String;)Ljava/lang/StringBuilder;" } : Jvm.MethodName) jdk_67_method_7_code (2 : Nat) (Option.some (Jvm.ClassFile.FieldType.object "java/lang/StringBuilder"))).before args0 about1 = true := code_word (m := ⟨20, 1⟩) (meth := k20m1) (c := k20c1) (by decide +kernel) rfl rfl rfl (by decide +kernel)
set_option maxRecDepth 65536 in
theorem w_c16 : (Jvm.Cond.code ({ cls := "java/lang/AbstractStringBuilder", name := "append", desc := "(Ljava/lang/String;)Ljava/lang/AbstractStringBuilder;" } : Jvm.MethodName) jdk_68_method_22_code (3 : Nat) (Option.some (Jvm.ClassFile.FieldType.object "java/lang/AbstractStringBuilder"))).before args0 about1 = true := code_word (m := ⟨19, 5⟩) (meth := k19m5) (c := k19c5) (by decide +kernel) rfl rfl rfl (by decide +kernel)
set_option maxRecDepth 65536 in
theorem w_c17 : (Jvm.Cond.code ({ cls := "java/lang/String", name := "length", desc := "()I" } : Jvm.MethodName) jdk_42_method_54_code (1 : Nat) (Option.some Jvm.ClassFile.FieldType.int)).before args0 about1 = true := code_word (m := ⟨8, 2⟩) (meth := k8m2) (c := k8c2) (by decide +kernel) rfl rfl rfl (by decide +kernel)
set_option maxRecDepth 65536 in
theorem w_c18 : (Jvm.Cond.code ({ cls := "java/lang/String", name := "coder", desc := "()B" } : Jvm.MethodName) jdk_42_method_152_code (1 : Nat) (Option.some Jvm.ClassFile.FieldType.byte)).before args0 about1 = true := code_word (m := ⟨8, 5⟩) (meth := k8m5) (c := k8c5) (by decide +kernel) rfl rfl rfl (by decide +kernel)
set_option maxRecDepth 65536 in
theorem w_c19 : (Jvm.Cond.code ({ cls := "java/lang/AbstractStringBuilder", name := "ensureCapacityInternal", desc := "(I)V" } : Jvm.MethodName) jdk_68_method_9_code (3 : Nat) (Option.none : Option Jvm.ClassFile.FieldType)).before args0 about1 = true := code_word (m := ⟨19, 3⟩) (meth := k19m3) (c := k19c3) (by decide +kernel) rfl rfl rfl (by decide +kernel)
set_option maxRecDepth 65536 in
theorem w_c20 : (Jvm.Cond.code ({ cls := "java/lang/AbstractStringBuilder", name := "putStringAt", desc := "(ILjava/lang/String;)V" } : Jvm.MethodName) jdk_68_method_73_code (3 : Nat) (Option.none : Option Jvm.ClassFile.FieldType)).before args0 about1 = true := code_word (m := ⟨19, 10⟩) (meth := k19m10) (c := k19c10) (by decide +kernel) rfl rfl rfl (by decide +kernel)
set_option maxRecDepth 65536 in
theorem w_c21 : (Jvm.Cond.code ({ cls := "java/lang/AbstractStringBuilder", name := "inflateIfNeededFor", desc := "(Ljava/lang/String;)V" } : Jvm.MethodName) jdk_68_method_71_code (2 : Nat) (Option.none : Option Jvm.ClassFile.FieldType)).before args0 about1 = true := code_word (m := ⟨19, 9⟩) (meth := k19m9) (c := k19c9) (by decide +kernel) rfl rfl rfl (by decide +kernel)
set_option maxRecDepth 65536 in
theorem w_c22 : (Jvm.Cond.code ({ cls := "java/lang/String", name := "getBytes", desc := "([BIB)V" } : Jvm.MethodName) jdk_42_method_147_code (4 : Nat) (Option.none : Option Jvm.ClassFile.FieldType)).before args0 about1 = true := code_word (m := ⟨8, 3⟩) (meth := k8m3) (c := k8c3) (by decide +kernel) rfl rfl rfl (by decide +kernel)
set_option maxRecDepth 65536 in
theorem w_c23 : (Jvm.Cond.code ({ cls := "java/lang/AbstractStringBuilder", name := "newCapacity", desc := "(I)I" } : Jvm.MethodName) jdk_68_method_10_code (6 : Nat) (Option.some Jvm.ClassFile.FieldType.int)).before args0 about1 = true := code_word (m := ⟨19, 4⟩) (meth := k19m4) (c := k19c4) (by decide +kernel) rfl rfl rfl (by decide +kernel)
set_option maxRecDepth 65536 in
theorem w_c24 : (Jvm.Cond.code ({ cls := "jdk/internal/util/ArraysSupport", name := "newLength", desc := "(III)I" } : Jvm.MethodName) jdk_48_method_27_code (4 : Nat) (Option.some Jvm.ClassFile.FieldType.int)).before args0 about1 = true := code_word (m := ⟨22, 1⟩) (meth := k22m1) (c := k22c1) (by decide +kernel) rfl rfl rfl (by decide +kernel)
set_option maxRecDepth 65536 in
theorem w_c25 : (Jvm.Cond.code ({ cls := "java/lang/Math", name := "max", desc := "(II)I" } : Jvm.MethodName) jdk_29_method_65_code (2 : Nat) (Option.some Jvm.ClassFile.FieldType.int)).before args0 about1 = true := code_word (m := ⟨23, 1⟩) (meth := k23m1) (c := k23c1) (by decide +kernel) rfl rfl rfl (by decide +kernel)
set_option maxRecDepth 65536 in
theorem w_c26 : (Jvm.Cond.code ({ cls := "java/util/Arrays", name := "copyOf", desc := "([BI)[B" } : Jvm.MethodName) jdk_65_method_121_code (3 : Nat) (Option.some (Jvm.ClassFile.FieldType.array Jvm.ClassFile.FieldType.byte))).before args0 about1 = true := code_word (m := ⟨11, 1⟩) (meth := k11m1) (c := k11c1) (by decide +kernel) rfl rfl rfl (by decide +kernel)
set_option maxRecDepth 65536 in
theorem w_c27 : (Jvm.Cond.code ({ cls := "java/lang/Math", name := "min", desc := "(II)I" } : Jvm.MethodName) jdk_29_method_69_code (2 : Nat) (Option.some Jvm.ClassFile.FieldType.int)).before args0 about1 = true := code_word (m := ⟨23, 2⟩) (meth := k23m2) (c := k23c2) (by decide +kernel) rfl rfl rfl (by decide +kernel)
set_option maxRecDepth 65536 in
theorem w_c28 : (Jvm.Cond.code ({ cls := "java/lang/StringBuilder", name := "append", desc := "(I)Ljava/lang/StringBuilder;" } : Jvm.MethodName) jdk_67_method_15_code (2 : Nat) (Option.some (Jvm.ClassFile.FieldType.object "java/lang/StringBuilder"))).before args0 about1 = true := code_word (m := ⟨20, 2⟩) (meth := k20m2) (c := k20c2) (by decide +kernel) rfl rfl rfl (by decide +kernel)
set_option maxRecDepth 65536 in
theorem w_c29 : (Jvm.Cond.code ({ cls := "java/lang/AbstractStringBuilder", name := "append", desc := "(I)Ljava/lang/AbstractStringBuilder;" } : Jvm.MethodName) jdk_68_method_32_code (4 : Nat) (Option.some (Jvm.ClassFile.FieldType.object "java/lang/AbstractStringBuilder"))).before args0 about1 = true := code_word (m := ⟨19, 6⟩) (meth := k19m6) (c := k19c6) (by decide +kernel) rfl rfl rfl (by decide +kernel)
set_option maxRecDepth 65536 in
theorem w_c30 : (Jvm.Cond.code ({ cls := "java/lang/Integer", name := "stringSize", desc := "(I)I" } : Jvm.MethodName) jdk_33_method_13_code (4 : Nat) (Option.some Jvm.ClassFile.FieldType.int)).before args0 about1 = true := code_word (m := ⟨25, 1⟩) (meth := k25m1) (c := k25c1) (by decide +kernel) rfl rfl rfl (by decide +kernel)
set_option maxRecDepth 65536 in
theorem w_c31 : (Jvm.Cond.code ({ cls := "java/lang/AbstractStringBuilder", name := "isLatin1", desc := "()Z" } : Jvm.MethodName) jdk_68_method_68_code (1 : Nat) (Option.some Jvm.ClassFile.FieldType.boolean)).before args0 about1 = true := code_word (m := ⟨19, 8⟩) (meth := k19m8) (c := k19c8) (by decide +kernel) rfl rfl rfl (by decide +kernel)
set_option maxRecDepth 65536 in
theorem w_c32 : (Jvm.Cond.code ({ cls := "java/lang/Integer", name := "getChars", desc := "(II[B)I" } : Jvm.MethodName) jdk_33_method_12_code (7 : Nat) (Option.some Jvm.ClassFile.FieldType.int)).before args0 about1 = true := code_word (m := ⟨25, 0⟩) (meth := k25m0) (c := k25c0) (by decide +kernel) rfl rfl rfl (by decide +kernel)
set_option maxRecDepth 65536 in
theorem w_c33 : (Jvm.Cond.code ({ cls := "java/lang/StringBuilder", name := "toString", desc := "()Ljava/lang/String;" } : Jvm.MethodName) jdk_67_method_42_code (1 : Nat) (Option.some (Jvm.ClassFile.FieldType.object "java/lang/String"))).before args0 about1 = true := code_word (m := ⟨20, 3⟩) (meth := k20m3) (c := k20c3) (by decide +kernel) rfl rfl rfl (by decide +kernel)
set_option maxRecDepth 65536 in
theorem w_c34 : (Jvm.Cond.code ({ cls := "java/lang/String", name := "<init>", desc := "(Ljava/lang/StringBuilder;)V" } : Jvm.MethodName) jdk_42_method_53_code (2 : Nat) (Option.none : Option Jvm.ClassFile.FieldType)).before args0 about1 = true := code_word (m := ⟨8, 1⟩) (meth := k8m1) (c := k8c1) (by decide +kernel) rfl rfl rfl (by decide +kernel)
set_option maxRecDepth 65536 in
theorem w_c35 : (Jvm.Cond.code ({ cls := "java/lang/String", name := "<init>", desc := "(Ljava/lang/AbstractStringBuilder;Ljava/lang/Void;)V" } : Jvm.MethodName) jdk_42_method_150_code (5 : Nat) (Option.none : Option Jvm.ClassFile.FieldType)).before args0 about1 = true := code_word (m := ⟨8, 4⟩) (meth := k8m4) (c := k8c4) (by decide +kernel) rfl rfl rfl (by decide +kernel)
set_option maxRecDepth 65536 in
theorem w_c36 : (Jvm.Cond.code ({ cls := "java/lang/AbstractStringBuilder", name := "getValue", desc := "()[B" } : Jvm.MethodName) jdk_68_method_64_code (1 : Nat) (Option.some (Jvm.ClassFile.FieldType.array Jvm.ClassFile.FieldType.byte))).before args0 about1 = true := code_word (m := ⟨19, 7⟩) (meth := k19m7) (c := k19c7) (by decide +kernel) rfl rfl rfl (by decide +kernel)
set_option maxRecDepth 65536 in
theorem w_c37 : (Jvm.Cond.code ({ cls := "java/lang/StringBuilder", name := "length", desc := "()I" } : Jvm.MethodName) jdk_67_method_93_code (1 : Nat) (Option.some Jvm.ClassFile.FieldType.int)).before args0 about1 = true := code_word (m := ⟨20, 4⟩) (meth := k20m4) (c := k20c4) (by decide +kernel) rfl rfl rfl (by decide +kernel)
set_option maxRecDepth 65536 in
theorem w_c38 : (Jvm.Cond.code ({ cls := "java/lang/AbstractStringBuilder", name := "length", desc := "()I" } : Jvm.MethodName) jdk_68_method_6_code (1 : Nat) (Option.some Jvm.ClassFile.FieldType.int)).before args0 about1 = true := code_word (m := ⟨19, 2⟩) (meth := k19m2) (c := k19c2) (by decide +kernel) rfl rfl rfl (by decide +kernel)
set_option maxRecDepth 65536 in
theorem w_c39 : (Jvm.Cond.code ({ cls := "java/util/Arrays", name := "copyOfRangeByte", desc := "([BII)[B" } : Jvm.MethodName) jdk_65_method_133_code (5 : Nat) (Option.some (Jvm.ClassFile.FieldType.array Jvm.ClassFile.FieldType.byte))).before args0 about1 = true := code_word (m := ⟨11, 4⟩) (meth := k11m4) (c := k11c4) (by decide +kernel) rfl rfl rfl (by decide +kernel)
set_option maxRecDepth 65536 in
theorem w_c40 : (Jvm.Cond.code ({ cls := "java/util/Arrays", name := "checkLength", desc := "(II)V" } : Jvm.MethodName) jdk_65_method_131_code (2 : Nat) (Option.none : Option Jvm.ClassFile.FieldType)).before args0 about1 = true := code_word (m := ⟨11, 2⟩) (meth := k11m2) (c := k11c2) (by decide +kernel) rfl rfl rfl (by decide +kernel)
set_option maxRecDepth 65536 in
theorem w_c41 : (Jvm.Cond.code ({ cls := "com/example/wireform/wireform/mapping/DecodeException", name := "<init>", desc := "(Ljava/lang/String;I)V" } : Jvm.MethodName) prog_42_method_1_code (3 : Nat) (Option.none : Option Jvm.ClassFile.FieldType)).before args0 about1 = true := code_word (m := ⟨16, 0⟩) (meth := k16m0) (c := k16c0) (by decide +kernel) rfl rfl rfl (by decide +kernel)
set_option maxRecDepth 65536 in
theorem w_c42 : (Jvm.Cond.code ({ cls := "java/lang/RuntimeException", name := "<init>", desc := "(Ljava/lang/String;)V" } : Jvm.MethodName) jdk_58_method_2_code (2 : Nat) (Option.none : Option Jvm.ClassFile.FieldType)).before args0 about1 = true := code_word (m := ⟨15, 1⟩) (meth := k15m1) (c := k15c1) (by decide +kernel) rfl rfl rfl (by decide +kernel)
set_option maxRecDepth 65536 in
theorem w_c43 : (Jvm.Cond.code ({ cls := "java/lang/Exception", name := "<init>", desc := "(Ljava/lang/String;)V" } : Jvm.MethodName) jdk_59_method_2_code (2 : Nat) (Option.none : Option Jvm.ClassFile.FieldType)).before args0 about1 = true := code_word (m := ⟨14, 1⟩) (meth := k14m1) (c := k14c1) (by decide +kernel) rfl rfl rfl (by decide +kernel)
set_option maxRecDepth 65536 in
theorem w_c44 : (Jvm.Cond.code ({ cls := "java/lang/Throwable", name := "<init>", desc := "(Ljava/lang/String;)V" } : Jvm.MethodName) jdk_78_method_2_code (2 : Nat) (Option.none : Option Jvm.ClassFile.FieldType)).before args0 about1 = true := code_word (m := ⟨13, 1⟩) (meth := k13m1) (c := k13c1) (by decide +kernel) rfl rfl rfl (by decide +kernel)
set_option maxRecDepth 65536 in
theorem w_c45 : (Jvm.Cond.code ({ cls := "java/lang/Throwable", name := "<init>", desc := "()V" } : Jvm.MethodName) jdk_78_method_1_code (1 : Nat) (Option.none : Option Jvm.ClassFile.FieldType)).before args0 about1 = true := code_word (m := ⟨13, 0⟩) (meth := k13m0) (c := k13c0) (by decide +kernel) rfl rfl rfl (by decide +kernel)
set_option maxRecDepth 65536 in
theorem w_c46 : (Jvm.Cond.code ({ cls := "com/example/wireform/wireform/mapping/DecodeException", name := "getOffset", desc := "()I" } : Jvm.MethodName) prog_42_method_2_code (1 : Nat) (Option.some Jvm.ClassFile.FieldType.int)).before args0 about1 = true := code_word (m := ⟨16, 1⟩) (meth := k16m1) (c := k16c1) (by decide +kernel) rfl rfl rfl (by decide +kernel)
def codes1 : List Jvm.Cond := [Jvm.Cond.code x code maxLocals ret, Jvm.Cond.code ({ cls := "com/example/wireform/wireform/amf3/AmfInput", name := "<init>", desc := "([B)V" } : Jvm.MethodName) prog_14_method_1_code (2 : Nat) (Option.none : Option Jvm.ClassFile.FieldType), Jvm.Cond.code ({ cls := "com/example/wireform/wireform/amf3/AmfInput", name := "<init>", desc := "([BI)V" } : Jvm.MethodName) prog_14_method_2_code (3 : Nat) (Option.none : Option Jvm.ClassFile.FieldType), Jvm.Cond.code ({ cls := "java/lang/Object", name := "<init>", desc := "()V" } : Jvm.MethodName) object_method_1_code (1 : Nat) (Option.none : Option Jvm.ClassFile.FieldType), Jvm.Cond.code ({ cls := "java/util/Objects", name := "requireNonNull", desc := "(Ljava/lang/Object;Ljava/lang/String;)Ljava/lang/Object;" } : Jvm.MethodName) jdk_31_method_11_code (2 : Nat) (Option.some (Jvm.ClassFile.FieldType.object "java/lang/Object")), Jvm.Cond.code ({ cls := "com/example/wireform/wireform/mapping/Conversions", name := "requireDepthLimit", desc := "(I)I" } : Jvm.MethodName) prog_36_method_5_code (1 : Nat) (Option.some Jvm.ClassFile.FieldType.int), Jvm.Cond.code ({ cls := "com/example/wireform/wireform/amf3/AmfInput", name := "startValue", desc := "()I" } : Jvm.MethodName) prog_14_method_8_code (2 : Nat) (Option.some Jvm.ClassFile.FieldType.int), Jvm.Cond.code ({ cls := "com/example/wireform/wireform/amf3/AmfInput", name := "readBytes", desc := "(ILjava/lang/String;)[B" } : Jvm.MethodName) prog_14_method_17_code (4 : Nat) (Option.some (Jvm.ClassFile.FieldType.array Jvm.ClassFile.FieldType.byte)), Jvm.Cond.code ({ cls := "com/example/wireform/wireform/amf3/AmfInput", name := "require", desc := "(JLjava/lang/String;)V" } : Jvm.MethodName) prog_14_method_19_code (5 : Nat) (Option.none : Option Jvm.ClassFile.FieldType), Jvm.Cond.code ({ cls := "java/util/Arrays", name := "copyOfRange", desc := "([BII)[B" } : Jvm.MethodName) jdk_65_method_132_code (3 : Nat) (Option.some (Jvm.ClassFile.FieldType.array Jvm.ClassFile.FieldType.byte)), Jvm.Cond.code ({ cls := "com/example/wireform/wireform/amf3/AmfInput", name := "endValue", desc := "(I)V" } : Jvm.MethodName) prog_14_method_9_code (2 : Nat) (Option.none : Option Jvm.ClassFile.FieldType), Jvm.Cond.code ({ cls := "com/example/wireform/wireform/amf3/AmfInput", name := "failure", desc := "(Ljava/lang/String;)Lcom/example/wireform/wireform/amf3/AmfDecodeException;" } : Jvm.MethodName) prog_14_method_20_code (2 : Nat) (Option.some (Jvm.ClassFile.FieldType.object "com/example/wireform/wireform/amf3/AmfDecodeException")), Jvm.Cond.code ({ cls := "com/example/wireform/wireform/amf3/AmfDecodeException", name := "<init>", desc := "(Ljava/lang/String;I)V" } : Jvm.MethodName) prog_13_method_1_code (3 : Nat) (Option.none : Option Jvm.ClassFile.FieldType), Jvm.Cond.code ({ cls := "java/lang/StringBuilder", name := "<init>", desc := "()V" } : Jvm.MethodName) jdk_67_method_1_code (1 : Nat) (Option.none : Option Jvm.ClassFile.FieldType), Jvm.Cond.code ({ cls := "java/lang/AbstractStringBuilder", name := "<init>", desc := "(I)V" } : Jvm.MethodName) jdk_68_method_2_code (2 : Nat) (Option.none : Option Jvm.ClassFile.FieldType), Jvm.Cond.code ({ cls := "java/lang/StringBuilder", name := "append", desc := "(Ljava/lang/String;)Ljava/lang/StringBuilder;" } : Jvm.MethodName) jdk_67_method_7_code (2 : Nat) (Option.some (Jvm.ClassFile.FieldType.object "java/lang/StringBuilder")), Jvm.Cond.code ({ cls := "java/lang/AbstractStringBuilder", name := "append", desc := "(Ljava/lang/String;)Ljava/lang/AbstractStringBuilder;" } : Jvm.MethodName) jdk_68_method_22_code (3 : Nat) (Option.some (Jvm.ClassFile.FieldType.object "java/lang/AbstractStringBuilder")), Jvm.Cond.code ({ cls := "java/lang/String", name := "length", desc := "()I" } : Jvm.MethodName) jdk_42_method_54_code (1 : Nat) (Option.some Jvm.ClassFile.FieldType.int), Jvm.Cond.code ({ cls := "java/lang/String", name := "coder", desc := "()B" } : Jvm.MethodName) jdk_42_method_152_code (1 : Nat) (Option.some Jvm.ClassFile.FieldType.byte), Jvm.Cond.code ({ cls := "java/lang/AbstractStringBuilder", name := "ensureCapacityInternal", desc := "(I)V" } : Jvm.MethodName) jdk_68_method_9_code (3 : Nat) (Option.none : Option Jvm.ClassFile.FieldType), Jvm.Cond.code ({ cls := "java/lang/AbstractStringBuilder", name := "putStringAt", desc := "(ILjava/lang/String;)V" } : Jvm.MethodName) jdk_68_method_73_code (3 : Nat) (Option.none : Option Jvm.ClassFile.FieldType), Jvm.Cond.code ({ cls := "java/lang/AbstractStringBuilder", name := "inflateIfNeededFor", desc := "(Ljava/lang/String;)V" } : Jvm.MethodName) jdk_68_method_71_code (2 : Nat) (Option.none : Option Jvm.ClassFile.FieldType), Jvm.Cond.code ({ cls := "java/lang/String", name := "getBytes", desc := "([BIB)V" } : Jvm.MethodName) jdk_42_method_147_code (4 : Nat) (Option.none : Option Jvm.ClassFile.FieldType), Jvm.Cond.code ({ cls := "java/lang/AbstractStringBuilder", name := "newCapacity", desc := "(I)I" } : Jvm.MethodName) jdk_68_method_10_code (6 : Nat) (Option.some Jvm.ClassFile.FieldType.int), Jvm.Cond.code ({ cls := "jdk/internal/util/ArraysSupport", name := "newLength", desc := "(III)I" } : Jvm.MethodName) jdk_48_method_27_code (4 : Nat) (Option.some Jvm.ClassFile.FieldType.int), Jvm.Cond.code ({ cls := "java/lang/Math", name := "max", desc := "(II)I" } : Jvm.MethodName) jdk_29_method_65_code (2 : Nat) (Option.some Jvm.ClassFile.FieldType.int), Jvm.Cond.code ({ cls := "java/util/Arrays", name := "copyOf", desc := "([BI)[B" } : Jvm.MethodName) jdk_65_method_121_code (3 : Nat) (Option.some (Jvm.ClassFile.FieldType.array Jvm.ClassFile.FieldType.byte)), Jvm.Cond.code ({ cls := "java/lang/Math", name := "min", desc := "(II)I" } : Jvm.MethodName) jdk_29_method_69_code (2 : Nat) (Option.some Jvm.ClassFile.FieldType.int), Jvm.Cond.code ({ cls := "java/lang/StringBuilder", name := "append", desc := "(I)Ljava/lang/StringBuilder;" } : Jvm.MethodName) jdk_67_method_15_code (2 : Nat) (Option.some (Jvm.ClassFile.FieldType.object "java/lang/StringBuilder")), Jvm.Cond.code ({ cls := "java/lang/AbstractStringBuilder", name := "append", desc := "(I)Ljava/lang/AbstractStringBuilder;" } : Jvm.MethodName) jdk_68_method_32_code (4 : Nat) (Option.some (Jvm.ClassFile.FieldType.object "java/lang/AbstractStringBuilder")), Jvm.Cond.code ({ cls := "java/lang/Integer", name := "stringSize", desc := "(I)I" } : Jvm.MethodName) jdk_33_method_13_code (4 : Nat) (Option.some Jvm.ClassFile.FieldType.int), Jvm.Cond.code ({ cls := "java/lang/AbstractStringBuilder", name := "isLatin1", desc := "()Z" } : Jvm.MethodName) jdk_68_method_68_code (1 : Nat) (Option.some Jvm.ClassFile.FieldType.boolean), Jvm.Cond.code ({ cls := "java/lang/Integer", name := "getChars", desc := "(II[B)I" } : Jvm.MethodName) jdk_33_method_12_code (7 : Nat) (Option.some Jvm.ClassFile.FieldType.int), Jvm.Cond.code ({ cls := "java/lang/StringBuilder", name := "toString", desc := "()Ljava/lang/String;" } : Jvm.MethodName) jdk_67_method_42_code (1 : Nat) (Option.some (Jvm.ClassFile.FieldType.object "java/lang/String")), Jvm.Cond.code ({ cls := "java/lang/String", name := "<init>", desc := "(Ljava/lang/StringBuilder;)V" } : Jvm.MethodName) jdk_42_method_53_code (2 : Nat) (Option.none : Option Jvm.ClassFile.FieldType), Jvm.Cond.code ({ cls := "java/lang/String", name := "<init>", desc := "(Ljava/lang/AbstractStringBuilder;Ljava/lang/Void;)V" } : Jvm.MethodName) jdk_42_method_150_code (5 : Nat) (Option.none : Option Jvm.ClassFile.FieldType), Jvm.Cond.code ({ cls := "java/lang/AbstractStringBuilder", name := "getValue", desc := "()[B" } : Jvm.MethodName) jdk_68_method_64_code (1 : Nat) (Option.some (Jvm.ClassFile.FieldType.array Jvm.ClassFile.FieldType.byte)), Jvm.Cond.code ({ cls := "java/lang/StringBuilder", name := "length", desc := "()I" } : Jvm.MethodName) jdk_67_method_93_code (1 : Nat) (Option.some Jvm.ClassFile.FieldType.int), Jvm.Cond.code ({ cls := "java/lang/AbstractStringBuilder", name := "length", desc := "()I" } : Jvm.MethodName) jdk_68_method_6_code (1 : Nat) (Option.some Jvm.ClassFile.FieldType.int), Jvm.Cond.code ({ cls := "java/util/Arrays", name := "copyOfRangeByte", desc := "([BII)[B" } : Jvm.MethodName) jdk_65_method_133_code (5 : Nat) (Option.some (Jvm.ClassFile.FieldType.array Jvm.ClassFile.FieldType.byte)), Jvm.Cond.code ({ cls := "java/util/Arrays", name := "checkLength", desc := "(II)V" } : Jvm.MethodName) jdk_65_method_131_code (2 : Nat) (Option.none : Option Jvm.ClassFile.FieldType), Jvm.Cond.code ({ cls := "com/example/wireform/wireform/mapping/DecodeException", name := "<init>", desc := "(Ljava/lang/String;I)V" } : Jvm.MethodName) prog_42_method_1_code (3 : Nat) (Option.none : Option Jvm.ClassFile.FieldType), Jvm.Cond.code ({ cls := "java/lang/RuntimeException", name := "<init>", desc := "(Ljava/lang/String;)V" } : Jvm.MethodName) jdk_58_method_2_code (2 : Nat) (Option.none : Option Jvm.ClassFile.FieldType), Jvm.Cond.code ({ cls := "java/lang/Exception", name := "<init>", desc := "(Ljava/lang/String;)V" } : Jvm.MethodName) jdk_59_method_2_code (2 : Nat) (Option.none : Option Jvm.ClassFile.FieldType), Jvm.Cond.code ({ cls := "java/lang/Throwable", name := "<init>", desc := "(Ljava/lang/String;)V" } : Jvm.MethodName) jdk_78_method_2_code (2 : Nat) (Option.none : Option Jvm.ClassFile.FieldType), Jvm.Cond.code ({ cls := "java/lang/Throwable", name := "<init>", desc := "()V" } : Jvm.MethodName) jdk_78_method_1_code (1 : Nat) (Option.none : Option Jvm.ClassFile.FieldType), Jvm.Cond.code ({ cls := "com/example/wireform/wireform/mapping/DecodeException", name := "getOffset", desc := "()I" } : Jvm.MethodName) prog_42_method_2_code (1 : Nat) (Option.some Jvm.ClassFile.FieldType.int)]
set_option maxRecDepth 65536 in
theorem codes_eq : words1.filter isCode = codes1 := rfl
theorem w_codes : ∀ c ∈ words1.filter isCode, c.before args0 about1 = true := by
  rw [codes_eq]
  intro c hc
  simp only [codes1, List.mem_cons, List.not_mem_nil, or_false] at hc
  rcases hc with rfl | rfl | rfl | rfl | rfl | rfl | rfl | rfl | rfl | rfl | rfl | rfl | rfl | rfl | rfl | rfl | rfl | rfl | rfl | rfl | rfl | rfl | rfl | rfl | rfl | rfl | rfl | rfl | rfl | rfl | rfl | rfl | rfl | rfl | rfl | rfl | rfl | rfl | rfl | rfl | rfl | rfl | rfl | rfl | rfl | rfl | rfl
  · exact w_c0
  · exact w_c1
  · exact w_c2
  · exact w_c3
  · exact w_c4
  · exact w_c5
  · exact w_c6
  · exact w_c7
  · exact w_c8
  · exact w_c9
  · exact w_c10
  · exact w_c11
  · exact w_c12
  · exact w_c13
  · exact w_c14
  · exact w_c15
  · exact w_c16
  · exact w_c17
  · exact w_c18
  · exact w_c19
  · exact w_c20
  · exact w_c21
  · exact w_c22
  · exact w_c23
  · exact w_c24
  · exact w_c25
  · exact w_c26
  · exact w_c27
  · exact w_c28
  · exact w_c29
  · exact w_c30
  · exact w_c31
  · exact w_c32
  · exact w_c33
  · exact w_c34
  · exact w_c35
  · exact w_c36
  · exact w_c37
  · exact w_c38
  · exact w_c39
  · exact w_c40
  · exact w_c41
  · exact w_c42
  · exact w_c43
  · exact w_c44
  · exact w_c45
  · exact w_c46
set_option maxRecDepth 65536 in
theorem w_t1 : (words1.take 24).all (fun c => isCode c || c.before args0 about1) = true := by decide +kernel
set_option maxRecDepth 65536 in
theorem w_t2 : ((words1.drop 24).take 24).all (fun c => isCode c || c.before args0 about1) = true := by decide +kernel
set_option maxRecDepth 65536 in
theorem w_t3 : (((words1.drop 24).drop 24).take 24).all (fun c => isCode c || c.before args0 about1) = true := by decide +kernel
set_option maxRecDepth 65536 in
theorem w_t4 : ((((words1.drop 24).drop 24).drop 24).take 24).all (fun c => isCode c || c.before args0 about1) = true := by decide +kernel
set_option maxRecDepth 65536 in
theorem w_t5 : (((((words1.drop 24).drop 24).drop 24).drop 24).take 24).all (fun c => isCode c || c.before args0 about1) = true := by decide +kernel
set_option maxRecDepth 65536 in
theorem w_t6 : ((((((words1.drop 24).drop 24).drop 24).drop 24).drop 24).take 24).all (fun c => isCode c || c.before args0 about1) = true := by decide +kernel
set_option maxRecDepth 65536 in
theorem w_t7 : (((((((words1.drop 24).drop 24).drop 24).drop 24).drop 24).drop 24).take 24).all (fun c => isCode c || c.before args0 about1) = true := by decide +kernel
set_option maxRecDepth 65536 in
theorem w_t8 : ((((((((words1.drop 24).drop 24).drop 24).drop 24).drop 24).drop 24).drop 24).take 24).all (fun c => isCode c || c.before args0 about1) = true := by decide +kernel
set_option maxRecDepth 65536 in
theorem w_t9 : (((((((((words1.drop 24).drop 24).drop 24).drop 24).drop 24).drop 24).drop 24).drop 24).take 24).all (fun c => isCode c || c.before args0 about1) = true := by decide +kernel
set_option maxRecDepth 65536 in
theorem w_t10 : ((((((((((words1.drop 24).drop 24).drop 24).drop 24).drop 24).drop 24).drop 24).drop 24).drop 24).take 24).all (fun c => isCode c || c.before args0 about1) = true := by decide +kernel
set_option maxRecDepth 65536 in
theorem w_t11 : (((((((((((words1.drop 24).drop 24).drop 24).drop 24).drop 24).drop 24).drop 24).drop 24).drop 24).drop 24).take 24).all (fun c => isCode c || c.before args0 about1) = true := by decide +kernel
set_option maxRecDepth 65536 in
theorem w_t12 : ((((((((((((words1.drop 24).drop 24).drop 24).drop 24).drop 24).drop 24).drop 24).drop 24).drop 24).drop 24).drop 24).take 24).all (fun c => isCode c || c.before args0 about1) = true := by decide +kernel
set_option maxRecDepth 65536 in
theorem w_t13 : ((((((((((((words1.drop 24).drop 24).drop 24).drop 24).drop 24).drop 24).drop 24).drop 24).drop 24).drop 24).drop 24).drop 24).all (fun c => isCode c || c.before args0 about1) = true := by decide +kernel
theorem w_tables : (allAtoms (Jvm.Cond.code x code maxLocals ret :: tables_1)).before args0 about1 = true := by
  rw [allAtoms_all]
  show words1.all (fun c => c.before args0 about1) = true
  refine all_split ?_ w_codes
  rw [← List.take_append_drop 24 words1, List.all_append, w_t1, ← List.take_append_drop 24 (words1.drop 24), List.all_append, w_t2, ← List.take_append_drop 24 ((words1.drop 24).drop 24), List.all_append, w_t3, ← List.take_append_drop 24 (((words1.drop 24).drop 24).drop 24), List.all_append, w_t4, ← List.take_append_drop 24 ((((words1.drop 24).drop 24).drop 24).drop 24), List.all_append, w_t5, ← List.take_append_drop 24 (((((words1.drop 24).drop 24).drop 24).drop 24).drop 24), List.all_append, w_t6, ← List.take_append_drop 24 ((((((words1.drop 24).drop 24).drop 24).drop 24).drop 24).drop 24), List.all_append, w_t7, ← List.take_append_drop 24 (((((((words1.drop 24).drop 24).drop 24).drop 24).drop 24).drop 24).drop 24), List.all_append, w_t8, ← List.take_append_drop 24 ((((((((words1.drop 24).drop 24).drop 24).drop 24).drop 24).drop 24).drop 24).drop 24), List.all_append, w_t9, ← List.take_append_drop 24 (((((((((words1.drop 24).drop 24).drop 24).drop 24).drop 24).drop 24).drop 24).drop 24).drop 24), List.all_append, w_t10, ← List.take_append_drop 24 ((((((((((words1.drop 24).drop 24).drop 24).drop 24).drop 24).drop 24).drop 24).drop 24).drop 24).drop 24), List.all_append, w_t11, ← List.take_append_drop 24 (((((((((((words1.drop 24).drop 24).drop 24).drop 24).drop 24).drop 24).drop 24).drop 24).drop 24).drop 24).drop 24), List.all_append, w_t12, w_t13]
  rfl
set_option maxRecDepth 65536 in
theorem w_rest : rest_1_c.before args0 about1 = true := by decide +kernel
set_option maxRecDepth 65536 in
theorem w_case : (Jvm.Cond.and given_1 narrow_1).before args0 about1 = true := by decide +kernel
set_option maxRecDepth 65536 in
theorem w_consts : constsHeld consts_1 about1 := Jvm.Lit.constsHeldB_iff.mp (by decide +kernel)
theorem w_applies : (headSpec (Jvm.Cond.code x code maxLocals ret :: tables_1) room_1).applies x e0.platform about1 = true :=
  (Spec.applies_iff w_frames).mpr ⟨w_running, w_runnable, w_alone, w_named, w_hears, w_ripe, w_room, w_tables⟩
theorem atStart : AtStart classFile x code maxLocals ret World_1 tables_1 room_1 Calls_1 rest_1 Pre_1 launch0 p0 e0 about1 theMethod args0 below0 :=
  ⟨lists_1, trivial, launch0.admits_env _ _ _, launch0.least_env, fairChoices_fair.cas, fairChoices_fair.clock, w_frames, w_args, w_heap, w_applies, ⟨(by decide +kernel : framesKnown about1 = true), ⟨(by decide +kernel : tablesKnown about1 = true), ⟨w_consts, trivial⟩⟩⟩, w_rest, w_case⟩
end start1
theorem witness_1 : WitnessClaimed_1 := ⟨start1.p0, start1.e0, start1.about1, start1.theMethod, start1.args0, start1.below0, start1.atStart⟩
end Jvm.Pilot.@@N@@
