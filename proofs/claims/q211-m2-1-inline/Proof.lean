import JvmDerived
import JvmDerived.Pilot.@@N@@Statement
import JvmDerived.Pilot.@@N@@Code
set_option linter.unusedVariables false
set_option linter.unusedSimpArgs false
namespace Jvm.RoadKit
open Sem ClassFile Op Lib Jvm.Stand Jvm.Free Jvm.LawKit
section New
variable {p : Program} {l : Launch} {e : Env} {R : Room} {s : State} {m : MethodId} {args : Array Value} {below : List Frame} {meth : Method} {c : Code} {T : State} {locs : List Loc} {cells slots : Nat}
theorem retI (X : Stand p l e R s m args below meth c T locs cells slots) (hx : p.tables.exec = Jvm.exec) {pc : Nat} {Ls : Array Slot} {z : Int32} {rest : List Value} (hret : meth.sig.returnType = some .int) (hd : decode c.code pc = .ok (.ireturn, 1)) {fs : List Frame}
    (hl : ∀ (f : JFrame) (acts : List Action), f.method = m → f.locked = none → f.entered = [] → (doReturn e (T.setTop f) acts (some (.int z))).1 = T.setFrames fs) : Steps p.tables e below (T.setTop (mkF m pc Ls (.int z :: rest))) (T.setFrames fs) := by
  have hm' : T.vm.method? m = some meth := X.method'
  have hn : narrow .int (.int z) = .int z := rfl
  show Steps p.tables e below (T.setTop { method := m, pc := pc, locals := Ls, stack := _ :: rest, locked := none }) _
  jvm_step X.here [X.here.top, hx, hd, hm', hret, hn]
  first | (intro acts; rw [hl _ acts rfl rfl rfl]) | rw [hl _ _ rfl rfl rfl]
  exact Steps.refl _
end New
end Jvm.RoadKit
@@BLOCK:TracedD.lean.txt@@
/- laws to paste: Road.backV, Road.eqW, Road.codOf (cut by pick.py; bodies as the Statement names them) -/
namespace Jvm.Pilot.@@N@@
namespace StrChars
open Jvm Sem ClassFile Op Lib Jvm.Stand Jvm.Free.XT Jvm.Free.ALB Jvm.Free.JM Jvm.Free
open Jvm.Lib.Cold (StaticIs)
/-- a char array whose places are chars -/
def Ch (a : Addr) (A : Cell) (U : State) : Prop := Arr .char a A U ∧ Typed .char A
theorem Ch.mv {a : Addr} {A : Cell} {U U' : State} (h : Ch a A U) (hal : U.vm.Alike U'.vm) (hh : U'.heap = U.heap) : Ch a A U' := ⟨h.1.mv hal hh, h.2⟩
theorem Ch.keep {a : Addr} {A : Cell} {U U' : State} (h : Ch a A U) (hal : U.vm.Alike U'.vm) (hk : U'.heap[a]? = some A) : Ch a A U' := ⟨h.1.keep hal hk, h.2⟩
/-- what place i of a char[]'s cell holds -/
def cv (A : Cell) (i : Nat) : Int32 := match A.slots[i]? with | some (.int x) => x | _ => 0
theorem Ch.get {a : Addr} {A : Cell} {U : State} (h : Ch a A U) {i : Nat} (hi : i < A.slots.size) : A.slots[i]? = some (.int (cv A i)) := by
  have e := Array.getElem?_eq_getElem hi
  have f := h.2 i _ e
  unfold cv; rw [e]
  generalize A.slots[i] = v at f
  cases v <;> simp [fits] at f ⊢
/-- the byte that i2b leaves of a char -/
def lo8 (x : Int32) : Int32 := x.toInt8.toInt32
theorem fits_lo8 (y : Int32) : fits .byte (.int (lo8 y)) = true := by
  have h1 := y.toInt8.le_toInt
  have h2 := y.toInt8.toInt_lt
  simp only [lo8, fits, Bool.and_eq_true, decide_eq_true_eq, Int32.le_iff_toInt_le, Int8.toInt_toInt32, show (-128 : Int32).toInt = -128 from by decide, show (127 : Int32).toInt = 127 from by decide]
  omega
/-- A' is A but that each place j of lo .. hi - 1 holds f j -/
def Laid (A A' : Cell) (lo hi : Nat) (f : Nat → Value) : Prop := A'.cls = A.cls ∧ A'.vm = A.vm ∧ A'.slots.size = A.slots.size ∧ ∀ i, A'.slots[i]? = if lo ≤ i ∧ i < hi then some (f i) else A.slots[i]?
theorem Laid.zero (A : Cell) (lo : Nat) (f : Nat → Value) : Laid A A lo (lo + 0) f := ⟨rfl, rfl, rfl, fun i => by rw [if_neg (by omega)]⟩
theorem Laid.step {A Ak : Cell} {lo k : Nat} {f : Nat → Value} {v : Value} (h : Laid A Ak lo k f) (hlo : lo ≤ k) (hk : k < Ak.slots.size) (hv : v = f k) : Laid A (Ak.setSlot k v) lo (k + 1) f := by
  refine ⟨h.1, h.2.1, by simpa [Cell.setSlot] using h.2.2.1, fun i => ?_⟩
  by_cases e : k = i
  · subst e; rw [Cell.slots_setSlot_self v hk, if_pos (by omega), hv]
  · rw [Cell.slots_setSlot_ne v e, h.2.2.2 i]
    by_cases q : lo ≤ i ∧ i < k
    · rw [if_pos q, if_pos (by omega)]
    · rw [if_neg q, if_neg (by omega)]
def U16 : String := "java/lang/StringUTF16"
namespace Cmp5
def yN : MethodName := ⟨"java/lang/StringUTF16", "compress", "([CI[BII)I"⟩
abbrev yB : ByteArray := jdk_52_method_21_code
theorem d0 : decode yB 0 = .ok (.iconst 0, 1) := by decide +kernel
theorem d1 : decode yB 1 = .ok (.istore 5, 2) := by decide +kernel
theorem d3 : decode yB 3 = .ok (.iload 5, 2) := by decide +kernel
theorem d5 : decode yB 5 = .ok (.iload 4, 2) := by decide +kernel
theorem d7 : decode yB 7 = .ok (.if_icmp (.ge) 37, 3) := by decide +kernel
theorem d10 : decode yB 10 = .ok (.aload_n 0, 1) := by decide +kernel
theorem d11 : decode yB 11 = .ok (.iload_n 1, 1) := by decide +kernel
theorem d12 : decode yB 12 = .ok (.caload, 1) := by decide +kernel
theorem d13 : decode yB 13 = .ok (.istore 6, 2) := by decide +kernel
theorem d15 : decode yB 15 = .ok (.iload 6, 2) := by decide +kernel
theorem d17 : decode yB 17 = .ok (.sipush 255, 3) := by decide +kernel
theorem d20 : decode yB 20 = .ok (.if_icmp (.le) 6, 3) := by decide +kernel
theorem d26 : decode yB 26 = .ok (.aload_n 2, 1) := by decide +kernel
theorem d27 : decode yB 27 = .ok (.iload_n 3, 1) := by decide +kernel
theorem d28 : decode yB 28 = .ok (.iload 6, 2) := by decide +kernel
theorem d30 : decode yB 30 = .ok (.i2b, 1) := by decide +kernel
theorem d31 : decode yB 31 = .ok (.bastore, 1) := by decide +kernel
theorem d32 : decode yB 32 = .ok (.iinc 1 1, 3) := by decide +kernel
theorem d35 : decode yB 35 = .ok (.iinc 3 1, 3) := by decide +kernel
theorem d38 : decode yB 38 = .ok (.iinc 5 1, 3) := by decide +kernel
theorem d41 : decode yB 41 = .ok (.goto (-38), 3) := by decide +kernel
theorem d44 : decode yB 44 = .ok (.iload 4, 2) := by decide +kernel
theorem d46 : decode yB 46 = .ok (.ireturn, 1) := by decide +kernel
def site : List Cond := []
def tab : Cond := tabOf yN yB 7 (some .int) site
def P (b : Addr) (A : Cell) (d : Addr) (B : Cell) (o q len : Nat) (args : Array Value) (s : State) : Prop := args = #[.ref b, .int (Int32.ofNat o), .ref d, .int (Int32.ofNat q), .int (Int32.ofNat len)] ∧ Ch b A s ∧ Arr .byte d B s ∧ b ≠ d ∧ o + len ≤ A.slots.size ∧ q + len ≤ B.slots.size ∧ ∀ i, i < len → ¬ 255 < cv A (o + i)
def E (b : Addr) (A : Cell) (d : Addr) (B : Cell) (o q len : Nat) (r : Option Value) (s u : State) : Prop := r = some (.int (Int32.ofNat len)) ∧ ∃ B', Put d B' s u ∧ Laid B B' q (q + len) (fun j => Value.int (lo8 (cv A (o + (j - q)))))
/-- no char of the range above 255: len; the places written hold each char's low byte -/
theorem law (l : Launch) (b : Addr) (A : Cell) (d : Addr) (B : Cell) (o q len : Nat) : Law l yN 5 5 0 0 yB 7 (some .int) site (P b A d B o q len) (E b A d B o q len) (copyLocs d q len) 0 0 := by
  refine Law.of_walk (plainFor_of_name (by decide +kernel)) (by decide +kernel) (by decide +kernel) (by decide) (fun _ _ h => by rw [h.1]; rfl) (fun _ U U' hal hh h => ⟨h.1, h.2.1.mv hal hh, h.2.2.1.mv hal hh, h.2.2.2⟩) (fun r U U' V V' h1 hal h2 h => ⟨h.1, h.2.elim fun B' q => ⟨B', q.1.mv h1 h2, q.2⟩⟩) ?_
  intro p e s m args below meth c s₁ X0 hexec hbytes hml hret hlk hnm hown hh0 W hP
  obtain ⟨rfl, hA, hB, hne, l1, l2, hp⟩ := hP
  have c1 : Steps p.tables e below (s₁.setTop (entryFrame m #[.ref b, .int (Int32.ofNat o), .ref d, .int (Int32.ofNat q), .int (Int32.ofNat len)] 7)) (s₁.setTop (mkF m 0 #[.val (.ref b), .val (.int (Int32.ofNat o)), .val (.ref d), .val (.int (Int32.ofNat q)), .val (.int (Int32.ofNat len)), .unset, .unset] [])) := entry rfl
  have hA0 := hA.1.mv X0.warmed.alike hh0
  have hB0 := hB.mv X0.warmed.alike hh0
  have a31 := hA.1.2.2.2
  have c2 : Steps p.tables e below (s₁.setTop (entryFrame m #[.ref b, .int (Int32.ofNat o), .ref d, .int (Int32.ofNat q), .int (Int32.ofNat len)] 7)) (s₁.setTop (mkF m 3 #[.val (.ref b), .val (.int (Int32.ofNat o)), .val (.ref d), .val (.int (Int32.ofNat q)), .val (.int (Int32.ofNat len)), .val (.int 0), .unset] [])) := c1.trans (by
    refine iconstV X0.here hexec rfl 0 (hb hbytes d0) (by decide) ?_
    refine XS.istore X0.here hexec rfl (hb hbytes d1) rfl rfl ?_
    exact Steps.refl _)
  have loop : ∀ (r i : Nat), i + r = len → ∀ (z : Slot), (z = .unset ∨ ∃ w, z = .val w ∧ w.category = 1) → ∀ (Tl : State) (Bk : Cell), Stand p l e { frames := 0, locals := 0, cells := 0, slots := 0 } s m #[.ref b, .int (Int32.ofNat o), .ref d, .int (Int32.ofNat q), .int (Int32.ofNat len)] below meth c Tl ([] ++ copyLocs d q i) 0 0 → Put d Bk s₁ Tl → Laid B Bk q (q + i) (fun j => Value.int (lo8 (cv A (o + (j - q))))) →
      Steps p.tables e below (s₁.setTop (entryFrame m #[.ref b, .int (Int32.ofNat o), .ref d, .int (Int32.ofNat q), .int (Int32.ofNat len)] 7)) (Tl.setTop (mkF m 3 #[.val (.ref b), .val (.int (Int32.ofNat (o + i))), .val (.ref d), .val (.int (Int32.ofNat (q + i))), .val (.int (Int32.ofNat len)), .val (.int (Int32.ofNat i)), z] [])) → ∃ (T' : State) (B' : Cell) (z' : Slot), Stand p l e { frames := 0, locals := 0, cells := 0, slots := 0 } s m #[.ref b, .int (Int32.ofNat o), .ref d, .int (Int32.ofNat q), .int (Int32.ofNat len)] below meth c T' ([] ++ copyLocs d q len) 0 0 ∧ Put d B' s₁ T' ∧ Laid B B' q (q + len) (fun j => Value.int (lo8 (cv A (o + (j - q))))) ∧
      Steps p.tables e below (s₁.setTop (entryFrame m #[.ref b, .int (Int32.ofNat o), .ref d, .int (Int32.ofNat q), .int (Int32.ofNat len)] 7)) (T'.setTop (mkF m 3 #[.val (.ref b), .val (.int (Int32.ofNat (o + len))), .val (.ref d), .val (.int (Int32.ofNat (q + len))), .val (.int (Int32.ofNat len)), .val (.int (Int32.ofNat len)), z'] [])) := by
    intro r
    induction r with
    | zero =>
      intro i hi z hz Tl Bk Xl pl fl cl
      have hil : i = len := by omega
      rw [hil] at Xl fl cl
      exact ⟨Tl, Bk, z, Xl, pl, fl, cl⟩
    | succ r ih =>
      intro i hi z hz Tl Bk Xl pl fl cl
      have all := X0.warmed.alike.symm.trans Xl.warmed.alike
      have hAl := hA0.keep all (pl.other hne hA0.1)
      have hBk := hB0.like all pl.1 fl.1 fl.2.1 fl.2.2.1
      have hlt : q + i < Bk.slots.size := by rw [fl.2.2.1]; omega
      have c3 : Steps p.tables e below (s₁.setTop (entryFrame m #[.ref b, .int (Int32.ofNat o), .ref d, .int (Int32.ofNat q), .int (Int32.ofNat len)] 7)) (Tl.setTop (mkF m 12 #[.val (.ref b), .val (.int (Int32.ofNat (o + i))), .val (.ref d), .val (.int (Int32.ofNat (q + i))), .val (.int (Int32.ofNat len)), .val (.int (Int32.ofNat i)), z] [.int (Int32.ofNat (o + i)), .ref b])) := cl.trans (by
        refine XS.iload Xl.here hexec rfl (hb hbytes d3) rfl ?_
        refine XS.iload Xl.here hexec rfl (hb hbytes d5) rfl ?_
        refine XS.icmpNo Xl.here hexec rfl (hb hbytes d7) rfl (ii_ge_f (lt32 (by omega) (by omega))) ?_
        refine XS.aloadN Xl.here hexec rfl (hb hbytes d10) rfl rfl ?_
        refine XS.iloadN Xl.here hexec rfl (hb hbytes d11) rfl ?_
        exact Steps.refl _)
      have c4 : Steps p.tables e below (s₁.setTop (entryFrame m #[.ref b, .int (Int32.ofNat o), .ref d, .int (Int32.ofNat q), .int (Int32.ofNat len)] 7)) (Tl.setTop (mkF m 13 #[.val (.ref b), .val (.int (Int32.ofNat (o + i))), .val (.ref d), .val (.int (Int32.ofNat (q + i))), .val (.int (Int32.ofNat len)), .val (.int (Int32.ofNat i)), z] [.int (cv A (o + i))])) := c3.trans (by
        refine Xl.aget hexec hAl rfl (hA.get (i := o + i) (by omega)) rfl rfl (hb hbytes d12) ?_
        exact Steps.refl _)
      have c5 : Steps p.tables e below (s₁.setTop (entryFrame m #[.ref b, .int (Int32.ofNat o), .ref d, .int (Int32.ofNat q), .int (Int32.ofNat len)] 7)) (Tl.setTop (mkF m 15 #[.val (.ref b), .val (.int (Int32.ofNat (o + i))), .val (.ref d), .val (.int (Int32.ofNat (q + i))), .val (.int (Int32.ofNat len)), .val (.int (Int32.ofNat i)), .val (.int (cv A (o + i)))] [])) := c4.trans (by
        refine XS.istoreS Xl.here hexec rfl (hb hbytes d13) rfl rfl hz ?_
        exact Steps.refl _)
      have c6 : Steps p.tables e below (s₁.setTop (entryFrame m #[.ref b, .int (Int32.ofNat o), .ref d, .int (Int32.ofNat q), .int (Int32.ofNat len)] 7)) (Tl.setTop (mkF m 31 #[.val (.ref b), .val (.int (Int32.ofNat (o + i))), .val (.ref d), .val (.int (Int32.ofNat (q + i))), .val (.int (Int32.ofNat len)), .val (.int (Int32.ofNat i)), .val (.int (cv A (o + i)))] [.int (lo8 (cv A (o + i))), .int (Int32.ofNat (q + i)), .ref d])) := c5.trans (by
        refine XS.iload Xl.here hexec rfl (hb hbytes d15) rfl ?_
        refine sipushV Xl.here hexec rfl 255 (hb hbytes d17) (by decide) ?_
        refine XS.icmpYes Xl.here hexec rfl (pc0 := 20) rfl (hb hbytes d20) rfl (ii_le_t (hp i (by omega))) (by decide) rfl ?_
        refine XS.aloadN Xl.here hexec rfl (hb hbytes d26) rfl rfl ?_
        refine XS.iloadN Xl.here hexec rfl (hb hbytes d27) rfl ?_
        refine XS.iload Xl.here hexec rfl (hb hbytes d28) rfl ?_
        refine i2b Xl.here hexec rfl (hb hbytes d30) rfl ?_
        exact Steps.refl _)
      obtain ⟨T7, X7, p7, st7⟩ := Xl.aput hexec hBk rfl hlt rfl (fits_lo8 (cv A (o + i))) (g := (mkF m 31 #[.val (.ref b), .val (.int (Int32.ofNat (o + i))), .val (.ref d), .val (.int (Int32.ofNat (q + i))), .val (.int (Int32.ofNat len)), .val (.int (Int32.ofNat i)), .val (.int (cv A (o + i)))] [.int (lo8 (cv A (o + i))), .int (Int32.ofNat (q + i)), .ref d])) rfl (rest := []) rfl (hb hbytes d31)
      have c8 : Steps p.tables e below (s₁.setTop (entryFrame m #[.ref b, .int (Int32.ofNat o), .ref d, .int (Int32.ofNat q), .int (Int32.ofNat len)] 7)) (T7.setTop (mkF m 32 #[.val (.ref b), .val (.int (Int32.ofNat (o + i))), .val (.ref d), .val (.int (Int32.ofNat (q + i))), .val (.int (Int32.ofNat len)), .val (.int (Int32.ofNat i)), .val (.int (cv A (o + i)))] [])) := c6.trans (st7 _ (Steps.refl _))
      have c9 : Steps p.tables e below (s₁.setTop (entryFrame m #[.ref b, .int (Int32.ofNat o), .ref d, .int (Int32.ofNat q), .int (Int32.ofNat len)] 7)) (T7.setTop (mkF m 3 #[.val (.ref b), .val (.int (Int32.ofNat (o + i) + 1)), .val (.ref d), .val (.int (Int32.ofNat (q + i) + 1)), .val (.int (Int32.ofNat len)), .val (.int (Int32.ofNat i + 1)), .val (.int (cv A (o + i)))] [])) := c8.trans (by
        refine iincV X7.here hexec rfl 1 (hb hbytes d32) (by decide) rfl rfl ?_
        refine iincV X7.here hexec rfl 1 (hb hbytes d35) (by decide) rfl rfl ?_
        refine iincV X7.here hexec rfl 1 (hb hbytes d38) (by decide) rfl rfl ?_
        refine XS.goto X7.here hexec rfl (pc0 := 41) rfl (hb hbytes d41) (by decide) rfl ?_
        exact Steps.refl _)
      have c10 : Steps p.tables e below (s₁.setTop (entryFrame m #[.ref b, .int (Int32.ofNat o), .ref d, .int (Int32.ofNat q), .int (Int32.ofNat len)] 7)) (T7.setTop (mkF m 3 #[.val (.ref b), .val (.int (Int32.ofNat (o + (i + 1)))), .val (.ref d), .val (.int (Int32.ofNat (q + (i + 1)))), .val (.int (Int32.ofNat len)), .val (.int (Int32.ofNat (i + 1))), .val (.int (cv A (o + i)))] [])) := by
        have := c9
        rw [succ32, succ32, succ32] at this
        exact this
      exact ih (i + 1) (by omega) _ (Or.inr ⟨_, rfl, rfl⟩) T7 _ (by rw [copyLocs_step, ← List.append_assoc]; exact X7) (pl.trans p7) (fl.step (by omega) hlt (by simp)) c10
  obtain ⟨T9, B9, z9, X9, p9, f9, g9⟩ := loop len 0 (by omega) .unset (Or.inl rfl) s₁ B (by simpa [copyLocs] using X0) ⟨hB0.1, fun _ _ => rfl, rfl⟩ (Laid.zero _ _ _) c2
  have c11 : Steps p.tables e below (s₁.setTop (entryFrame m #[.ref b, .int (Int32.ofNat o), .ref d, .int (Int32.ofNat q), .int (Int32.ofNat len)] 7)) (T9.setTop (mkF m 46 #[.val (.ref b), .val (.int (Int32.ofNat (o + len))), .val (.ref d), .val (.int (Int32.ofNat (q + len))), .val (.int (Int32.ofNat len)), .val (.int (Int32.ofNat len)), z9] [.int (Int32.ofNat len)])) := g9.trans (by
    refine XS.iload X9.here hexec rfl (hb hbytes d3) rfl ?_
    refine XS.iload X9.here hexec rfl (hb hbytes d5) rfl ?_
    refine XS.icmpYes X9.here hexec rfl (pc0 := 7) rfl (hb hbytes d7) rfl (ii_ge_t (nlt32 (by omega) (Nat.le_refl _))) (by decide) rfl ?_
    refine XS.iload X9.here hexec rfl (hb hbytes d44) rfl ?_
    exact Steps.refl _)
  exact ⟨T9, some (.int (Int32.ofNat len)), _, _, _, X9, by simp, rfl, rfl, (fun h => by cases h), ⟨rfl, B9, p9.from hh0, f9⟩, fun fs hl => c11.trans (X9.ireturnOut hexec hret rfl (Or.inl rfl) (hb hbytes d46) hl)⟩
end Cmp5
namespace Cmp3
def yN : MethodName := ⟨"java/lang/StringUTF16", "compress", "([CII)[B"⟩
abbrev yB : ByteArray := jdk_52_method_16_code
theorem d0 : decode yB 0 = .ok (.iload_n 2, 1) := by decide +kernel
theorem d1 : decode yB 1 = .ok (.newarray .byte, 2) := by decide +kernel
theorem d3 : decode yB 3 = .ok (.astore_n 3, 1) := by decide +kernel
theorem d4 : decode yB 4 = .ok (.aload_n 0, 1) := by decide +kernel
theorem d5 : decode yB 5 = .ok (.iload_n 1, 1) := by decide +kernel
theorem d6 : decode yB 6 = .ok (.aload_n 3, 1) := by decide +kernel
theorem d7 : decode yB 7 = .ok (.iconst 0, 1) := by decide +kernel
theorem d8 : decode yB 8 = .ok (.iload_n 2, 1) := by decide +kernel
theorem d9 : decode yB 9 = .ok (.invokestatic 115, 3) := by decide +kernel
theorem d12 : decode yB 12 = .ok (.istore 4, 2) := by decide +kernel
theorem d14 : decode yB 14 = .ok (.iload 4, 2) := by decide +kernel
theorem d16 : decode yB 16 = .ok (.iload_n 2, 1) := by decide +kernel
theorem d17 : decode yB 17 = .ok (.if_icmp (.eq) 40, 3) := by decide +kernel
theorem d57 : decode yB 57 = .ok (.aload_n 3, 1) := by decide +kernel
theorem d58 : decode yB 58 = .ok (.areturn, 1) := by decide +kernel
def site : List Cond := [.arrayClass .byte, Cmp5.tab] ++ staticW U16 115 Cmp5.yN
def tab : Cond := tabOf yN yB 6 (some (.array .byte)) site
def P (b : Addr) (A : Cell) (o len : Nat) (args : Array Value) (s : State) : Prop := args = #[.ref b, .int (Int32.ofNat o), .int (Int32.ofNat len)] ∧ Ch b A s ∧ o + len ≤ A.slots.size ∧ len ≤ 536870912 ∧ ∀ i, i < len → ¬ 255 < cv A (o + i)
def E (b : Addr) (A : Cell) (o len : Nat) (r : Option Value) (s u : State) : Prop := NewArr .byte "[B" len (fun j => .int (lo8 (cv A (o + j)))) r s u ∧ u.heap.size = s.heap.size + 1
/-- no char of the range above 255: a new byte[] of their low bytes -/
theorem law (l : Launch) (b : Addr) (A : Cell) (o len : Nat) : Law l yN 3 3 1 18 yB 6 (some (.array .byte)) site (P b A o len) (E b A o len) [] 1 len := by
  refine Law.of_walk (plainFor_of_name (by decide +kernel)) (by decide +kernel) (by decide +kernel) (by decide) (fun _ _ h => by rw [h.1]; rfl) (fun _ U U' hal hh h => ⟨h.1, h.2.1.mv hal hh, h.2.2⟩) (fun r U U' V V' h1 hal h2 h => ⟨NewArr.mv r U U' V V' h1 hal h2 h.1, by rw [h1, h2]; exact h.2⟩) ?_
  intro p e s m args below meth c s₁ X0 hexec hbytes hml hret hlk hnm hown hh0 W hP
  obtain ⟨rfl, hA, l1, l2, hp⟩ := hP
  have a31 := hA.1.2.2.2
  have c1 : Steps p.tables e below (s₁.setTop (entryFrame m #[.ref b, .int (Int32.ofNat o), .int (Int32.ofNat len)] 6)) (s₁.setTop (mkF m 0 #[.val (.ref b), .val (.int (Int32.ofNat o)), .val (.int (Int32.ofNat len)), .unset, .unset, .unset] [])) := entry rfl
  have c2 : Steps p.tables e below (s₁.setTop (entryFrame m #[.ref b, .int (Int32.ofNat o), .int (Int32.ofNat len)] 6)) (s₁.setTop (mkF m 1 #[.val (.ref b), .val (.int (Int32.ofNat o)), .val (.int (Int32.ofNat len)), .unset, .unset, .unset] [.int (Int32.ofNat len)])) := c1.trans (by
    refine XS.iloadN X0.here hexec rfl (hb hbytes d0) rfl ?_
    exact Steps.refl _)
  obtain ⟨T3, B3, X3, ba3, bs3, bv3, bh3, bf3, st3⟩ := X0.anew hexec (atype := .byte) (wk W (.arrayClass .byte)) rfl (by show len * 1 ≤ _; omega) (by omega) (g := (mkF m 1 #[.val (.ref b), .val (.int (Int32.ofNat o)), .val (.int (Int32.ofNat len)), .unset, .unset, .unset] [.int (Int32.ofNat len)])) rfl (hb hbytes d1) (rest := []) rfl (Nat.le_refl _) (by show 0 + len ≤ len; omega)
  rw [hh0] at ba3 st3
  have kp3 : XT.Kept s T3 := (XT.Kept.of_eq hh0).push bh3
  have hA3 := hA.keep X3.warmed.alike (kp3 _ _ hA.1.1)
  have hne : b ≠ s.heap.size := hA.1.ne
  have c4 : Steps p.tables e below (s₁.setTop (entryFrame m #[.ref b, .int (Int32.ofNat o), .int (Int32.ofNat len)] 6)) (T3.setTop (mkF m 3 #[.val (.ref b), .val (.int (Int32.ofNat o)), .val (.int (Int32.ofNat len)), .unset, .unset, .unset] [.ref s.heap.size])) := c2.trans (st3 _ (Steps.refl _))
  have c5 : Steps p.tables e below (s₁.setTop (entryFrame m #[.ref b, .int (Int32.ofNat o), .int (Int32.ofNat len)] 6)) (T3.setTop (mkF m 9 #[.val (.ref b), .val (.int (Int32.ofNat o)), .val (.int (Int32.ofNat len)), .val (.ref s.heap.size), .unset, .unset] [.int (Int32.ofNat len), .int 0, .ref s.heap.size, .int (Int32.ofNat o), .ref b])) := c4.trans (by
    refine XS.astoreN X3.here hexec rfl (hb hbytes d3) rfl rfl rfl ?_
    refine XS.aloadN X3.here hexec rfl (hb hbytes d4) rfl rfl ?_
    refine XS.iloadN X3.here hexec rfl (hb hbytes d5) rfl ?_
    refine XS.aloadN X3.here hexec rfl (hb hbytes d6) rfl rfl ?_
    refine iconstV X3.here hexec rfl 0 (hb hbytes d7) (by decide) ?_
    refine XS.iloadN X3.here hexec rfl (hb hbytes d8) rfl ?_
    exact Steps.refl _)
  obtain ⟨v6, T6, X6, E6, g6⟩ := X3.callS hexec (Cmp5.law l b A s.heap.size B3 o 0 len) hown (wks W (staticW U16 115 Cmp5.yN)) (wk W Cmp5.tab) (W := 0) (Nat.le_of_ble_eq_true rfl) (Nat.le_of_ble_eq_true rfl) (Nat.le_refl _) (by show 0 + len + 0 ≤ len; omega) (g := (mkF m 9 #[.val (.ref b), .val (.int (Int32.ofNat o)), .val (.int (Int32.ofNat len)), .val (.ref s.heap.size), .unset, .unset] [.int (Int32.ofNat len), .int (Int32.ofNat 0), .ref s.heap.size, .int (Int32.ofNat o), .ref b])) rfl (by rw [hml]; rfl) c5 (argsL := [.ref b, .int (Int32.ofNat o), .ref s.heap.size, .int (Int32.ofNat 0), .int (Int32.ofNat len)]) (rest := []) rfl rfl (by show 2 * 0 + 0 ≤ _; decide) (hb hbytes d9) (⟨rfl, hA3, ba3, hne, l1, by rw [bs3]; simp, hp⟩)
  obtain ⟨rfl, B6, p6, f6⟩ := E6
  have c7 : Steps p.tables e below (s₁.setTop (entryFrame m #[.ref b, .int (Int32.ofNat o), .int (Int32.ofNat len)] 6)) (T6.setTop (mkF m 12 #[.val (.ref b), .val (.int (Int32.ofNat o)), .val (.int (Int32.ofNat len)), .val (.ref s.heap.size), .unset, .unset] [.int (Int32.ofNat len)])) := g6
  have c8 : Steps p.tables e below (s₁.setTop (entryFrame m #[.ref b, .int (Int32.ofNat o), .int (Int32.ofNat len)] 6)) (T6.setTop (mkF m 58 #[.val (.ref b), .val (.int (Int32.ofNat o)), .val (.int (Int32.ofNat len)), .val (.ref s.heap.size), .val (.int (Int32.ofNat len)), .unset] [.ref s.heap.size])) := c7.trans (by
    refine XS.istore X6.here hexec rfl (hb hbytes d12) rfl rfl ?_
    refine XS.iload X6.here hexec rfl (hb hbytes d14) rfl ?_
    refine XS.iloadN X6.here hexec rfl (hb hbytes d16) rfl ?_
    refine XS.icmpYes X6.here hexec rfl (pc0 := 17) rfl (hb hbytes d17) rfl (ii_eq_t rfl) (by decide) rfl ?_
    refine XS.aloadN X6.here hexec rfl (hb hbytes d57) rfl rfl ?_
    exact Steps.refl _)
  have X8 := X6.wide (L' := []) (cells' := 1) (slots' := len) (fun x hx hlt => by
    simp only [List.nil_append, copyLocs, List.mem_map, List.mem_range] at hx
    obtain ⟨i, -, rfl⟩ := hx
    exact absurd hlt (Nat.lt_irrefl _)) (Nat.le_refl _) (by omega)
  exact ⟨T6, some (.ref s.heap.size), _, _, _, X8, rfl, rfl, rfl, (fun h => by cases h), ⟨⟨rfl, B6, ba3.like (X3.warmed.alike.symm.trans X6.warmed.alike) p6.1 f6.1 f6.2.1 f6.2.2.1, f6.2.1.trans bv3, by rw [X6.warmed.alike.findClass, f6.1]; exact bf3, by rw [f6.2.2.1, bs3]; simp, fun j hj => by rw [f6.2.2.2 j, if_pos (by omega)]; rfl, kp3.put p6 (Nat.le_refl _)⟩, by rw [p6.2.2, bh3, hh0]; simp⟩, fun fs hl => c8.trans (X8.areturnOut hexec rfl hret rfl (hb hbytes d58) hl)⟩
end Cmp3
namespace CodL
def yN : MethodName := ⟨"java/lang/StringUTF16", "coderFromArrayLen", "([BI)B"⟩
abbrev yB : ByteArray := jdk_52_method_15_code
theorem d0 : decode yB 0 = .ok (.iload_n 1, 1) := by decide +kernel
theorem d1 : decode yB 1 = .ok (.aload_n 0, 1) := by decide +kernel
theorem d2 : decode yB 2 = .ok (.arraylength, 1) := by decide +kernel
theorem d3 : decode yB 3 = .ok (.isub, 1) := by decide +kernel
theorem d4 : decode yB 4 = .ok (.bipush 31, 2) := by decide +kernel
theorem d6 : decode yB 6 = .ok (.iushr, 1) := by decide +kernel
theorem d7 : decode yB 7 = .ok (.i2b, 1) := by decide +kernel
theorem d8 : decode yB 8 = .ok (.ireturn, 1) := by decide +kernel
def site : List Cond := []
def tab : Cond := tabOf yN yB 2 (some .byte) site
def P (d : Addr) (B : Cell) (args : Array Value) (s : State) : Prop := args = #[.ref d, .int (Int32.ofNat B.slots.size)] ∧ Arr .byte d B s
def E (r : Option Value) (s u : State) : Prop := XT.PureE (some (.int 0)) r s u
/-- an array as long as the number of chars: LATIN1 -/
theorem law (l : Launch) (d : Addr) (B : Cell) : Law l yN 2 2 0 0 yB 2 (some .byte) site (P d B) E [] 0 0 := by
  refine Law.of_walk (plainFor_of_name (by decide +kernel)) (by decide +kernel) (by decide +kernel) (by decide) (fun _ _ h => by rw [h.1]; rfl) (fun _ U U' hal hh h => ⟨h.1, h.2.mv hal hh⟩) (fun r U U' V V' h1 hal h2 h => XT.PureE.mv r U U' V V' h1 hal h2 h) ?_
  intro p e s m args below meth c s₁ X0 hexec hbytes hml hret hlk hnm hown hh0 W hP
  obtain ⟨rfl, hB⟩ := hP
  have hB0 := hB.mv X0.warmed.alike hh0
  have c1 : Steps p.tables e below (s₁.setTop (entryFrame m #[.ref d, .int (Int32.ofNat B.slots.size)] 2)) (s₁.setTop (mkF m 0 #[.val (.ref d), .val (.int (Int32.ofNat B.slots.size))] [])) := entry rfl
  have c2 : Steps p.tables e below (s₁.setTop (entryFrame m #[.ref d, .int (Int32.ofNat B.slots.size)] 2)) (s₁.setTop (mkF m 2 #[.val (.ref d), .val (.int (Int32.ofNat B.slots.size))] [.ref d, .int (Int32.ofNat B.slots.size)])) := c1.trans (by
    refine XS.iloadN X0.here hexec rfl (hb hbytes d0) rfl ?_
    refine XS.aloadN X0.here hexec rfl (hb hbytes d1) rfl rfl ?_
    exact Steps.refl _)
  have c3 : Steps p.tables e below (s₁.setTop (entryFrame m #[.ref d, .int (Int32.ofNat B.slots.size)] 2)) (s₁.setTop (mkF m 8 #[.val (.ref d), .val (.int (Int32.ofNat B.slots.size))] [.int (lo8 (ushr (Int32.ofNat B.slots.size - Int32.ofNat B.slots.size) 31))])) := c2.trans (by
    refine X0.alen hexec hB0 rfl rfl (hb hbytes d2) ?_
    refine XS.isub X0.here hexec rfl (hb hbytes d3) rfl ?_
    refine bipushV X0.here hexec rfl 31 (hb hbytes d4) (by decide) ?_
    refine iushr X0.here hexec rfl (hb hbytes d6) rfl ?_
    refine i2b X0.here hexec rfl (hb hbytes d7) rfl ?_
    exact Steps.refl _)
  have e0 : lo8 (ushr (Int32.ofNat B.slots.size - Int32.ofNat B.slots.size) 31) = 0 := by rw [Int32.sub_self]; decide
  rw [e0] at c3
  exact ⟨s₁, some (.int 0), _, _, _, X0, rfl, rfl, rfl, (fun h => by cases h), ⟨rfl, hh0⟩, fun fs hl => c3.trans (X0.ireturnOut hexec hret rfl (Or.inr (Or.inr (Or.inl rfl))) (hb hbytes d8) hl)⟩
end CodL
/-- the String at a is Latin-1 over a new byte[] (the heap's one new cell): the low bytes of the len chars of A from o on; every cell but a is kept -/
def Got (a : Addr) (D : Cell) (fV fC : Field) (A : Cell) (o len : Nat) (r : Option Value) (s u : State) : Prop := r = none ∧ ∃ D' V : Cell, Blank "java/lang/String" a D' u ∧ Same D D' [fV.slot, fC.slot] ∧ D'.slots[fV.slot]? = some (.ref s.heap.size) ∧ D'.slots[fC.slot]? = some (.int 0) ∧ Arr .byte s.heap.size V u ∧ V.vm = .none ∧ u.vm.findClass "[B" = some V.cls ∧ V.slots.size = len ∧ (∀ j, j < len → V.slots[j]? = some (.int (lo8 (cv A (o + j))))) ∧ (∀ (y : Addr) (c : Cell), y ≠ a → s.heap[y]? = some c → u.heap[y]? = some c) ∧ u.heap.size = s.heap.size + 1
theorem Got.mv {a : Addr} {D A : Cell} {fV fC : Field} {o len : Nat} : ∀ r (U U' V V' : State), U'.heap = U.heap → V.vm.Alike V'.vm → V'.heap = V.heap → Got a D fV fC A o len r U V → Got a D fV fC A o len r U' V' :=
  fun r U U' V V' h1 hal h2 ⟨e0, D', X, a1, a2, a3, a4, a5, a6, a7, a8, a9, a10, a11⟩ => ⟨e0, D', X, a1.mv hal h2, a2, by rw [h1]; exact a3, a4, by rw [h1]; exact a5.mv hal h2, a6, by rw [hal.findClass]; exact a7, a8, a9, by rw [h1, h2]; exact a10, by rw [h1, h2]; exact a11⟩
namespace New4
def yN : MethodName := ⟨"java/lang/String", "<init>", "([CIILjava/lang/Void;)V"⟩
abbrev yB : ByteArray := jdk_42_method_149_code
theorem d0 : decode yB 0 = .ok (.aload_n 0, 1) := by decide +kernel
theorem d1 : decode yB 1 = .ok (.invokespecial 1, 3) := by decide +kernel
theorem d4 : decode yB 4 = .ok (.iload_n 3, 1) := by decide +kernel
theorem d5 : decode yB 5 = .ok (.ifCond (.ne) 22, 3) := by decide +kernel
theorem d27 : decode yB 27 = .ok (.getstatic 38, 3) := by decide +kernel
theorem d30 : decode yB 30 = .ok (.ifCond (.eq) 28, 3) := by decide +kernel
theorem d33 : decode yB 33 = .ok (.aload_n 1, 1) := by decide +kernel
theorem d34 : decode yB 34 = .ok (.iload_n 2, 1) := by decide +kernel
theorem d35 : decode yB 35 = .ok (.iload_n 3, 1) := by decide +kernel
theorem d36 : decode yB 36 = .ok (.invokestatic 177, 3) := by decide +kernel
theorem d39 : decode yB 39 = .ok (.astore 5, 2) := by decide +kernel
theorem d41 : decode yB 41 = .ok (.aload_n 0, 1) := by decide +kernel
theorem d42 : decode yB 42 = .ok (.aload 5, 2) := by decide +kernel
theorem d44 : decode yB 44 = .ok (.iload_n 3, 1) := by decide +kernel
theorem d45 : decode yB 45 = .ok (.invokestatic 47, 3) := by decide +kernel
theorem d48 : decode yB 48 = .ok (.putfield 15, 3) := by decide +kernel
theorem d51 : decode yB 51 = .ok (.aload_n 0, 1) := by decide +kernel
theorem d52 : decode yB 52 = .ok (.aload 5, 2) := by decide +kernel
theorem d54 : decode yB 54 = .ok (.putfield 9, 3) := by decide +kernel
theorem d57 : decode yB 57 = .ok (.return_, 1) := by decide +kernel
def site : List Cond := [.fieldLink "java/lang/String" 38 "java/lang/String" "COMPACT_STRINGS" "Z", Cmp3.tab, CodL.tab, .laysFinal "java/lang/String" "java/lang/String" "value" "[B", .fieldLink "java/lang/String" 9 "java/lang/String" "value" "[B", .laysFinal "java/lang/String" "java/lang/String" "coder" "B", .fieldLink "java/lang/String" 15 "java/lang/String" "coder" "B"] ++ objW "java/lang/String" 1 ++ staticW "java/lang/String" 177 Cmp3.yN ++ staticW "java/lang/String" 47 CodL.yN
def tab : Cond := tabOf yN yB 6 none site
def P (a : Addr) (D : Cell) (fV fC : Field) (b : Addr) (A : Cell) (z : Int32) (o len : Nat) (args : Array Value) (s : State) : Prop := args = #[.ref a, .ref b, .int (Int32.ofNat o), .int (Int32.ofNat len), .null] ∧ Blank "java/lang/String" a D s ∧ Found "java/lang/String" "value" "[B" fV s ∧ Found "java/lang/String" "coder" "B" fC s ∧ Ch b A s ∧ StaticIs s "java/lang/String" "COMPACT_STRINGS" "Z" (.int z) ∧ ¬ z = 0 ∧ 0 < len ∧ o + len ≤ A.slots.size ∧ len ≤ 536870912 ∧ ∀ i, i < len → ¬ 255 < cv A (o + i)
def E (a : Addr) (D : Cell) (fV fC : Field) (A : Cell) (o len : Nat) (r : Option Value) (s u : State) : Prop := Got a D fV fC A o len r s u
/-- len > 0, no char of the range above 255: a Latin-1 String of their low bytes -/
theorem law (l : Launch) (a : Addr) (D : Cell) (fV fC : Field) (b : Addr) (A : Cell) (z : Int32) (o len : Nat) : Law l yN 5 4 2 35 yB 6 none site (P a D fV fC b A z o len) (E a D fV fC A o len) [⟨a, fC.slot⟩, ⟨a, fV.slot⟩] 1 len := by
  refine Law.of_walk (plainFor_of_name (by decide +kernel)) (by decide +kernel) (by decide +kernel) (by decide) (fun _ _ h => by rw [h.1]; rfl) (fun _ U U' hal hh h => ⟨h.1, h.2.1.mv hal hh, h.2.2.1.al hal, h.2.2.2.1.al hal, h.2.2.2.2.1.mv hal hh, h.2.2.2.2.2.1.there hal hh, h.2.2.2.2.2.2⟩) (fun r U U' V V' h1 hal h2 h => Got.mv r U U' V V' h1 hal h2 h) ?_
  intro p e s m args below meth c s₁ X0 hexec hbytes hml hret hlk hnm hown hh0 W hP
  obtain ⟨rfl, hB, f1, f2, hA, s1, hz, l0, l1, l2, hp⟩ := hP
  have a31 := hA.1.2.2.2
  have c1 : Steps p.tables e below (s₁.setTop (entryFrame m #[.ref a, .ref b, .int (Int32.ofNat o), .int (Int32.ofNat len), .null] 6)) (s₁.setTop (mkF m 0 #[.val (.ref a), .val (.ref b), .val (.int (Int32.ofNat o)), .val (.int (Int32.ofNat len)), .val .null, .unset] [])) := entry rfl
  have c2 : Steps p.tables e below (s₁.setTop (entryFrame m #[.ref a, .ref b, .int (Int32.ofNat o), .int (Int32.ofNat len), .null] 6)) (s₁.setTop (mkF m 1 #[.val (.ref a), .val (.ref b), .val (.int (Int32.ofNat o)), .val (.int (Int32.ofNat len)), .val .null, .unset] [.ref a])) := c1.trans (by
    refine XS.aloadN X0.here hexec rfl (hb hbytes d0) rfl rfl ?_
    exact Steps.refl _)
  obtain ⟨T3, X3, q3, st3⟩ := X0.oinit hexec hown (wks W (objW "java/lang/String" 1)) (g := (mkF m 1 #[.val (.ref a), .val (.ref b), .val (.int (Int32.ofNat o)), .val (.int (Int32.ofNat len)), .val .null, .unset] [.ref a])) rfl (by rw [hml]; rfl) (rest := []) rfl (hb hbytes d1) (W := 0) (by show 2 * 0 + 0 ≤ _; decide) (Nat.le_of_ble_eq_true rfl) (Nat.le_of_ble_eq_true rfl)
  have hh3 := q3.trans hh0
  have c4 : Steps p.tables e below (s₁.setTop (entryFrame m #[.ref a, .ref b, .int (Int32.ofNat o), .int (Int32.ofNat len), .null] 6)) (T3.setTop (mkF m 27 #[.val (.ref a), .val (.ref b), .val (.int (Int32.ofNat o)), .val (.int (Int32.ofNat len)), .val .null, .unset] [])) := (c2.trans (st3 _ (Steps.refl _))).trans (by
    refine XS.iloadN X3.here hexec rfl (hb hbytes d4) rfl ?_
    refine XS.ifYes X3.here hexec rfl (pc0 := 5) rfl (hb hbytes d5) rfl (i0_ne_t (nz32 (by omega) l0)) (by decide) rfl ?_
    exact Steps.refl _)
  obtain ⟨T5, X5, q5, st5⟩ := X3.sget hexec hown (wk W (.fieldLink "java/lang/String" 38 "java/lang/String" "COMPACT_STRINGS" "Z")) s1 (fun _ _ h => by rw [hh3]; exact h) (g := (mkF m 27 #[.val (.ref a), .val (.ref b), .val (.int (Int32.ofNat o)), .val (.int (Int32.ofNat len)), .val .null, .unset] [])) rfl (hb hbytes d27)
  have hh5 := q5.trans hh3
  have c6 : Steps p.tables e below (s₁.setTop (entryFrame m #[.ref a, .ref b, .int (Int32.ofNat o), .int (Int32.ofNat len), .null] 6)) (T5.setTop (mkF m 30 #[.val (.ref a), .val (.ref b), .val (.int (Int32.ofNat o)), .val (.int (Int32.ofNat len)), .val .null, .unset] [.int z])) := c4.trans (st5 _ (Steps.refl _))
  have c7 : Steps p.tables e below (s₁.setTop (entryFrame m #[.ref a, .ref b, .int (Int32.ofNat o), .int (Int32.ofNat len), .null] 6)) (T5.setTop (mkF m 36 #[.val (.ref a), .val (.ref b), .val (.int (Int32.ofNat o)), .val (.int (Int32.ofNat len)), .val .null, .unset] [.int (Int32.ofNat len), .int (Int32.ofNat o), .ref b])) := c6.trans (by
    refine XS.ifNo X5.here hexec rfl (hb hbytes d30) rfl (i0_eq_f hz) ?_
    refine XS.aloadN X5.here hexec rfl (hb hbytes d33) rfl rfl ?_
    refine XS.iloadN X5.here hexec rfl (hb hbytes d34) rfl ?_
    refine XS.iloadN X5.here hexec rfl (hb hbytes d35) rfl ?_
    exact Steps.refl _)
  obtain ⟨v8, T8, X8, E8, g8⟩ := X5.callS hexec (Cmp3.law l b A o len) hown (wks W (staticW "java/lang/String" 177 Cmp3.yN)) (wk W Cmp3.tab) (W := 0) (Nat.le_of_ble_eq_true rfl) (Nat.le_of_ble_eq_true rfl) (Nat.le_refl _) (by show 0 + len ≤ len; omega) (g := (mkF m 36 #[.val (.ref a), .val (.ref b), .val (.int (Int32.ofNat o)), .val (.int (Int32.ofNat len)), .val .null, .unset] [.int (Int32.ofNat len), .int (Int32.ofNat o), .ref b])) rfl (by rw [hml]; rfl) c7 (argsL := [.ref b, .int (Int32.ofNat o), .int (Int32.ofNat len)]) (rest := []) rfl rfl (by show 2 * 0 + 0 ≤ _; decide) (hb hbytes d36) (⟨rfl, hA.mv X5.warmed.alike hh5, l1, l2, hp⟩)
  obtain ⟨e8, z8⟩ := E8
  obtain ⟨rfl, N, n1, n2, n3, n4, n5, n6⟩ := NewArr.mv _ T5 s _ _ hh5.symm (Vm.Alike.refl _) rfl e8
  rw [hh5] at z8
  have hB1 := hB.keep X8.warmed.alike (n6 _ _ hB.1)
  have hne : s.heap.size ≠ a := (Nat.ne_of_lt (Array.getElem?_eq_some_iff.mp hB.1).1).symm
  have c9 : Steps p.tables e below (s₁.setTop (entryFrame m #[.ref a, .ref b, .int (Int32.ofNat o), .int (Int32.ofNat len), .null] 6)) (T8.setTop (mkF m 39 #[.val (.ref a), .val (.ref b), .val (.int (Int32.ofNat o)), .val (.int (Int32.ofNat len)), .val .null, .unset] [.ref s.heap.size])) := g8
  have c10 : Steps p.tables e below (s₁.setTop (entryFrame m #[.ref a, .ref b, .int (Int32.ofNat o), .int (Int32.ofNat len), .null] 6)) (T8.setTop (mkF m 45 #[.val (.ref a), .val (.ref b), .val (.int (Int32.ofNat o)), .val (.int (Int32.ofNat len)), .val .null, .val (.ref s.heap.size)] [.int (Int32.ofNat N.slots.size), .ref s.heap.size, .ref a])) := by
    have hc : Steps p.tables e below (s₁.setTop (entryFrame m #[.ref a, .ref b, .int (Int32.ofNat o), .int (Int32.ofNat len), .null] 6)) (T8.setTop (mkF m 45 #[.val (.ref a), .val (.ref b), .val (.int (Int32.ofNat o)), .val (.int (Int32.ofNat len)), .val .null, .val (.ref s.heap.size)] [.int (Int32.ofNat len), .ref s.heap.size, .ref a])) := c9.trans (by
      refine XS.astore X8.here hexec rfl (hb hbytes d39) rfl rfl rfl ?_
      refine XS.aloadN X8.here hexec rfl (hb hbytes d41) rfl rfl ?_
      refine XS.aload X8.here hexec rfl (hb hbytes d42) rfl rfl ?_
      refine XS.iloadN X8.here hexec rfl (hb hbytes d44) rfl ?_
      exact Steps.refl _)
    rw [n4]; exact hc
  obtain ⟨v11, T11, X11, E11, g11⟩ := X8.callS hexec (CodL.law l s.heap.size N) hown (wks W (staticW "java/lang/String" 47 CodL.yN)) (wk W CodL.tab) (W := 1) (Nat.le_of_ble_eq_true rfl) (Nat.le_of_ble_eq_true rfl) (Nat.le_refl _) (by show 0 + len + 0 ≤ len; omega) (g := (mkF m 45 #[.val (.ref a), .val (.ref b), .val (.int (Int32.ofNat o)), .val (.int (Int32.ofNat len)), .val .null, .val (.ref s.heap.size)] [.int (Int32.ofNat N.slots.size), .ref s.heap.size, .ref a])) rfl (by rw [hml]; rfl) c10 (argsL := [.ref s.heap.size, .int (Int32.ofNat N.slots.size)]) (rest := [.ref a]) rfl rfl (by show 2 * 0 + (1 + 0) ≤ _; decide) (hb hbytes d45) (⟨rfl, n1⟩)
  obtain ⟨rfl, q11⟩ := E11
  have hB11 := hB1.mv (X8.warmed.alike.symm.trans X11.warmed.alike) q11
  have c12 : Steps p.tables e below (s₁.setTop (entryFrame m #[.ref a, .ref b, .int (Int32.ofNat o), .int (Int32.ofNat len), .null] 6)) (T11.setTop (mkF m 48 #[.val (.ref a), .val (.ref b), .val (.int (Int32.ofNat o)), .val (.int (Int32.ofNat len)), .val .null, .val (.ref s.heap.size)] [.int 0, .ref a])) := g11
  obtain ⟨T13, X13, p13, bl13, sl13, st13⟩ := X11.finit hexec hown (wk W (.fieldLink "java/lang/String" 15 "java/lang/String" "coder" "B")) (Or.inr ⟨_, (wk W (.laysFinal "java/lang/String" "java/lang/String" "coder" "B"))⟩) (Or.inl ⟨rfl, hnm⟩) f2 (Or.inl rfl) hB11 (t := .byte) (by decide +kernel) rfl (g := (mkF m 48 #[.val (.ref a), .val (.ref b), .val (.int (Int32.ofNat o)), .val (.int (Int32.ofNat len)), .val .null, .val (.ref s.heap.size)] [.int 0, .ref a])) rfl (rest := []) rfl (hb hbytes d48)
  have c14 : Steps p.tables e below (s₁.setTop (entryFrame m #[.ref a, .ref b, .int (Int32.ofNat o), .int (Int32.ofNat len), .null] 6)) (T13.setTop (mkF m 54 #[.val (.ref a), .val (.ref b), .val (.int (Int32.ofNat o)), .val (.int (Int32.ofNat len)), .val .null, .val (.ref s.heap.size)] [.ref s.heap.size, .ref a])) := (c12.trans (st13 _ (Steps.refl _))).trans (by
    refine XS.aloadN X13.here hexec rfl (hb hbytes d51) rfl rfl ?_
    refine XS.aload X13.here hexec rfl (hb hbytes d52) rfl rfl ?_
    exact Steps.refl _)
  obtain ⟨T15, X15, p15, bl15, sl15, st15⟩ := X13.finit hexec hown (wk W (.fieldLink "java/lang/String" 9 "java/lang/String" "value" "[B")) (Or.inr ⟨_, (wk W (.laysFinal "java/lang/String" "java/lang/String" "value" "[B"))⟩) (Or.inl ⟨rfl, hnm⟩) f1 (Or.inl rfl) bl13 (t := (.array .byte)) (by decide +kernel) rfl (g := (mkF m 54 #[.val (.ref a), .val (.ref b), .val (.int (Int32.ofNat o)), .val (.int (Int32.ofNat len)), .val .null, .val (.ref s.heap.size)] [.ref s.heap.size, .ref a])) rfl (rest := []) rfl (hb hbytes d54)
  have c16 : Steps p.tables e below (s₁.setTop (entryFrame m #[.ref a, .ref b, .int (Int32.ofNat o), .int (Int32.ofNat len), .null] 6)) (T15.setTop (mkF m 57 #[.val (.ref a), .val (.ref b), .val (.int (Int32.ofNat o)), .val (.int (Int32.ofNat len)), .val .null, .val (.ref s.heap.size)] [])) := c14.trans (st15 _ (Steps.refl _))
  have ap := apart (Or.inr ⟨_, (wk W (.laysFinal "java/lang/String" "java/lang/String" "value" "[B"))⟩) (Or.inr ⟨_, (wk W (.laysFinal "java/lang/String" "java/lang/String" "coder" "B"))⟩) f1 f2 (t₁ := .array .byte) (t₂ := .byte) (by decide +kernel) (by decide +kernel) (by decide)
  have al := X8.warmed.alike.symm.trans X15.warmed.alike
  have n7 : T11.heap[s.heap.size]? = some N := by rw [q11]; exact n1.1
  exact ⟨T15, none, _, _, _, X15, by simp, rfl, by omega, (fun _ => rfl), ⟨rfl, _, N, bl15, ((Same.refl D _).set _ (by simp)).set _ (by simp), sl15, (Cell.slots_setSlot_ne _ ap).trans sl13, n1.keep al (p15.other hne (p13.other hne n7)), n2, by rw [al.findClass]; exact n3, n4, n5, fun y c h1 h2 => p15.other h1 (p13.other h1 (by rw [q11]; exact n6 y c h2)), by rw [p15.2.2, p13.2.2, q11]; exact z8⟩, fun fs hl => c16.trans (X15.returnOut hexec hret (hb hbytes d57) hl)⟩
end New4
namespace New1
def yN : MethodName := ⟨"java/lang/String", "<init>", "([C)V"⟩
abbrev yB : ByteArray := jdk_42_method_3_code
theorem d0 : decode yB 0 = .ok (.aload_n 0, 1) := by decide +kernel
theorem d1 : decode yB 1 = .ok (.aload_n 1, 1) := by decide +kernel
theorem d2 : decode yB 2 = .ok (.iconst 0, 1) := by decide +kernel
theorem d3 : decode yB 3 = .ok (.aload_n 1, 1) := by decide +kernel
theorem d4 : decode yB 4 = .ok (.arraylength, 1) := by decide +kernel
theorem d5 : decode yB 5 = .ok (.aconst_null, 1) := by decide +kernel
theorem d6 : decode yB 6 = .ok (.invokespecial 27, 3) := by decide +kernel
theorem d9 : decode yB 9 = .ok (.return_, 1) := by decide +kernel
def site : List Cond := [New4.tab] ++ initW "java/lang/String" 27 New4.yN
def tab : Cond := tabOf yN yB 2 none site
def P (a : Addr) (D : Cell) (fV fC : Field) (b : Addr) (A : Cell) (z : Int32) (args : Array Value) (s : State) : Prop := args = #[.ref a, .ref b] ∧ Blank "java/lang/String" a D s ∧ Found "java/lang/String" "value" "[B" fV s ∧ Found "java/lang/String" "coder" "B" fC s ∧ Ch b A s ∧ StaticIs s "java/lang/String" "COMPACT_STRINGS" "Z" (.int z) ∧ ¬ z = 0 ∧ 0 < A.slots.size ∧ A.slots.size ≤ 536870912 ∧ ∀ i, i < A.slots.size → ¬ 255 < cv A i
def E (a : Addr) (D : Cell) (fV fC : Field) (A : Cell) (r : Option Value) (s u : State) : Prop := Got a D fV fC A 0 A.slots.size r s u
/-- new String(chars), not empty, no char above 255: a Latin-1 String of their low bytes -/
theorem law (l : Launch) (a : Addr) (D : Cell) (fV fC : Field) (b : Addr) (A : Cell) (z : Int32) : Law l yN 2 1 3 52 yB 2 none site (P a D fV fC b A z) (E a D fV fC A) [⟨a, fC.slot⟩, ⟨a, fV.slot⟩] 1 A.slots.size := by
  refine Law.of_walk (plainFor_of_name (by decide +kernel)) (by decide +kernel) (by decide +kernel) (by decide) (fun _ _ h => by rw [h.1]; rfl) (fun _ U U' hal hh h => ⟨h.1, h.2.1.mv hal hh, h.2.2.1.al hal, h.2.2.2.1.al hal, h.2.2.2.2.1.mv hal hh, h.2.2.2.2.2.1.there hal hh, h.2.2.2.2.2.2⟩) (fun r U U' V V' h1 hal h2 h => Got.mv r U U' V V' h1 hal h2 h) ?_
  intro p e s m args below meth c s₁ X0 hexec hbytes hml hret hlk hnm hown hh0 W hP
  obtain ⟨rfl, hB, f1, f2, hA, s1, hz, l0, l2, hp⟩ := hP
  have c1 : Steps p.tables e below (s₁.setTop (entryFrame m #[.ref a, .ref b] 2)) (s₁.setTop (mkF m 0 #[.val (.ref a), .val (.ref b)] [])) := entry rfl
  have c2 : Steps p.tables e below (s₁.setTop (entryFrame m #[.ref a, .ref b] 2)) (s₁.setTop (mkF m 6 #[.val (.ref a), .val (.ref b)] [.null, .int (Int32.ofNat A.slots.size), .int 0, .ref b, .ref a])) := c1.trans (by
    refine XS.aloadN X0.here hexec rfl (hb hbytes d0) rfl rfl ?_
    refine XS.aloadN X0.here hexec rfl (hb hbytes d1) rfl rfl ?_
    refine iconstV X0.here hexec rfl 0 (hb hbytes d2) (by decide) ?_
    refine XS.aloadN X0.here hexec rfl (hb hbytes d3) rfl rfl ?_
    refine X0.alen hexec (hA.1.mv X0.warmed.alike hh0) rfl rfl (hb hbytes d4) ?_
    refine XS.aconstNull X0.here hexec rfl (hb hbytes d5) ?_
    exact Steps.refl _)
  obtain ⟨v3, T3, X3, E3, g3⟩ := X0.callN hexec (New4.law l a D fV fC b A z 0 A.slots.size) rfl hown (wks W (initW "java/lang/String" 27 New4.yN)) (W New4.tab (by simp only [site, List.mem_cons, List.mem_append, true_or, or_true])) (W := 0) (Nat.le_of_ble_eq_true rfl) (Nat.le_of_ble_eq_true rfl) (Nat.le_refl _) (by show 0 + A.slots.size ≤ A.slots.size; omega) (g := (mkF m 6 #[.val (.ref a), .val (.ref b)] [.null, .int (Int32.ofNat A.slots.size), .int (Int32.ofNat 0), .ref b, .ref a])) rfl (by rw [hml]; rfl) c2 (argsL := [.ref b, .int (Int32.ofNat 0), .int (Int32.ofNat A.slots.size), .null]) (rest := []) rfl rfl (by show 2 * 0 + 0 ≤ _; decide) (hb hbytes d6) (⟨rfl, hB.mv X0.warmed.alike hh0, f1.al X0.warmed.alike, f2.al X0.warmed.alike, hA.mv X0.warmed.alike hh0, s1.there X0.warmed.alike hh0, hz, l0, by omega, l2, fun i hi => by rw [Nat.zero_add]; exact hp i hi⟩)
  have e0 := Got.mv _ s₁ s _ _ hh0.symm (Vm.Alike.refl _) rfl E3
  obtain rfl := e0.1
  have c4 : Steps p.tables e below (s₁.setTop (entryFrame m #[.ref a, .ref b] 2)) (T3.setTop (mkF m 9 #[.val (.ref a), .val (.ref b)] [])) := g3
  exact ⟨T3, none, _, _, _, X3, by simp, rfl, by omega, (fun _ => rfl), e0, fun fs hl => c4.trans (X3.returnOut hexec hret (hb hbytes d9) hl)⟩
theorem pays {l : Launch} {R : Room} {p : Program} {e : Env} {below : List Frame} {s : State} {sargs : Array Value} {len W : Nat} (a : Addr) (D : Cell) (fV fC : Field) (b : Addr) (A : Cell) (z : Int32) (htab : tab.before sargs s = true) (hfr : 4 ≤ R.frames) (hlo : W + 65 ≤ R.locals) :
    Back l R p e below s sargs yN len W (fun A₁ a₁ => A₁.cells + 1 ≤ R.cells ∧ A₁.slots + A.slots.size ≤ R.slots ∧ P a D fV fC b A z a₁ A₁.U) (fun A₁ _ v₁ B₁ => E a D fV fC A v₁ A₁.U B₁.U ∧ B₁.locs = A₁.locs ++ [⟨a, fC.slot⟩, ⟨a, fV.slot⟩] ∧ B₁.cells = A₁.cells + 1 ∧ B₁.slots = A₁.slots + A.slots.size) :=
  (law l a D fV fC b A z).pays htab hfr (by omega)
end New1
/-- the byte, read back as charAt reads it, is the char -/
theorem lo8_mask {x : Int32} (h0 : ¬ x < 0) (h1 : ¬ 255 < x) : lo8 x &&& 255 = x := by
  have t : ∀ k : Fin 256, lo8 (Int32.ofNat k.val) &&& 255 = Int32.ofNat k.val := by decide +kernel
  rw [Int32.lt_iff_toInt_lt] at h0 h1
  have e0 : (0 : Int32).toInt = 0 := rfl
  have e1 : (255 : Int32).toInt = 255 := rfl
  obtain ⟨k, hk⟩ : ∃ k : Nat, x.toInt = k := ⟨x.toInt.toNat, by omega⟩
  have hx : x = Int32.ofNat k := Int32.toInt_inj.mp (by rw [hk, Int32.toInt_ofNat_small (by omega)])
  rw [hx]
  exact t ⟨k, by omega⟩
end StrChars
namespace StrChars.Road
open Jvm Sem ClassFile Op Lib Jvm.Stand Jvm.Free Jvm.Free.XT
open Jvm.Lib.Cold (StaticIs)
abbrev ST : String := "java/lang/String"
/-- every table word that New1's law asks, flat -/
abbrev words : List Jvm.Cond := [.code New1.yN New1.yB 2 none, .initialized ST, .methodLink ST 27 New4.yN, .instanceMethod New4.yN,
  .code New4.yN New4.yB 6 none, .fieldLink ST 38 ST "COMPACT_STRINGS" "Z", .laysFinal ST ST "value" "[B", .fieldLink ST 9 ST "value" "[B", .laysFinal ST ST "coder" "B", .fieldLink ST 15 ST "coder" "B",
  .methodLink ST 1 Lib.objectInit, .instanceMethod Lib.objectInit, .code Lib.objectInit ⟨#[0xb1]⟩ 1 none, .methodLink ST 177 Cmp3.yN, .static Cmp3.yN, .methodLink ST 47 CodL.yN, .static CodL.yN,
  .code Cmp3.yN Cmp3.yB 6 (some (.array .byte)), .initialized U16, .arrayClass .byte, .methodLink U16 115 Cmp5.yN, .static Cmp5.yN, .code Cmp5.yN Cmp5.yB 7 (some .int), .code CodL.yN CodL.yB 2 (some .byte)]
theorem tab_of {a : Array Value} {s : State} (h : ∀ w ∈ words, w.before a s = true) : New1.tab.before a s = true := by
  have h5 : Cmp5.tab.before a s = true := unparts (wk h (.code Cmp5.yN Cmp5.yB 7 (some .int))) (wks h (.initialized Cmp5.yN.cls :: Cmp5.site))
  have hc : CodL.tab.before a s = true := unparts (wk h (.code CodL.yN CodL.yB 2 (some .byte))) (wks h (.initialized CodL.yN.cls :: CodL.site))
  have q5 : ∀ w ∈ Cmp5.tab :: words, w.before a s = true := fun w hw => (List.mem_cons.mp hw).elim (fun e => e ▸ h5) (h w)
  have h3 : Cmp3.tab.before a s = true := unparts (wk q5 (.code Cmp3.yN Cmp3.yB 6 (some (.array .byte)))) (wks q5 (.initialized Cmp3.yN.cls :: Cmp3.site))
  have q3 : ∀ w ∈ Cmp3.tab :: CodL.tab :: words, w.before a s = true := fun w hw => (List.mem_cons.mp hw).elim (fun e => e ▸ h3) fun hw => (List.mem_cons.mp hw).elim (fun e => e ▸ hc) (h w)
  have h4 : New4.tab.before a s = true := unparts (wk q3 (.code New4.yN New4.yB 6 none)) (wks q3 (.initialized New4.yN.cls :: New4.site))
  have q4 : ∀ w ∈ New4.tab :: words, w.before a s = true := fun w hw => (List.mem_cons.mp hw).elim (fun e => e ▸ h4) (h w)
  exact unparts (wk q4 (.code New1.yN New1.yB 2 none)) (wks q4 (.initialized New1.yN.cls :: New1.site))
/-- the words ride from the start Z to the walk's own state -/
theorem moved {Z s : State} {a0 args : Array Value} (hZ : Z.Warmed39 s.vm) (hw : ∀ d ∈ words, d.before a0 Z = true) : ∀ d ∈ words, d.before args s = true := fun d hd => by
  have q := hw d hd
  have t : ∀ d ∈ words, d = .arrayClass .byte ∨ (d.onTables && d.keepsFace) = true := by decide +kernel
  rcases t d hd with rfl | t
  · exact RoadKit.mvA hZ q
  · exact RoadKit.mv hZ q t
/-- WHAT COMES BACK, over the tables of the start Z: h the heap at the call, h' behind it -/
def Q (Z : State) (x : Addr) (A : Cell) (h : Heap) (v : Option Value) (h' : Heap) (L : List Loc) : Prop := v = none ∧ (∀ y ∈ L, y.base = x) ∧ RoadKit.Keep h h' [x] ∧ h'.size = h.size + 1 ∧ RoadKit.Exa Z h' x ST ∧ RoadKit.Fld Z h' x ST "value" "[B" (.ref h.size) ∧ RoadKit.Fld Z h' x ST "coder" "B" (.int 0) ∧
  (∃ V : Cell, RoadKit.Arr Z h' h.size V .byte ∧ V.vm = .none ∧ Z.vm.findClass "[B" = some V.cls ∧ V.slots.size = A.slots.size ∧ ∀ j, j < A.slots.size → V.slots[j]? = some (.int (lo8 (cv A j)))) ∧
  ∀ (O n d : String) (w : Value), RoadKit.Fld Z h x O n d w → RoadKit.slotOf Z O n d ≠ RoadKit.slotOf Z ST "value" "[B" → RoadKit.slotOf Z O n d ≠ RoadKit.slotOf Z ST "coder" "B" → RoadKit.Fld Z h' x O n d w
/-- **new String(chars) AT A CALL, IN THE ROAD'S FORM**: for specialBack behind newO: x the fresh String, b the char[] with the cell A -/
theorem back {p : Program} {l : Launch} {e : Env} {R : Room} {s : State} {args : Array Value} {below : List Frame} {len W : Nat} {Z : State} {a0 : Array Value} {h : Heap} (hZ : Z.Warmed39 s.vm) (hw : ∀ d ∈ words, d.before a0 Z = true) {kI : Nat} (wi : (Jvm.Cond.instantiable ST kI).before a0 Z = true)
    {x b : Addr} {A : Cell} {z : Int32} {v0 c0 : Value} (E : RoadKit.Exa Z h x ST) (V : RoadKit.Fld Z h x ST "value" "[B" v0) (C : RoadKit.Fld Z h x ST "coder" "B" c0) (K : RoadKit.Arr Z h b A .char) (hty : Typed .char A) (S : RoadKit.Sta Z h ST "COMPACT_STRINGS" "Z" (.int z)) (hz : ¬ z = 0)
    (l0 : 0 < A.slots.size) (l2 : A.slots.size ≤ 536870912) (hp : ∀ i, i < A.slots.size → ¬ 255 < cv A i) (hfr : 4 ≤ R.frames) (hlo : W + 65 ≤ R.locals) :
    Back l R p e below s args New1.yN len W (fun P a => a = #[.ref x, .ref b] ∧ P.U.heap = h ∧ P.cells + 1 ≤ R.cells ∧ P.slots + A.slots.size ≤ R.slots)
      (fun P _ v B => ∃ L, Q Z x A h v B.U.heap L ∧ B.locs = P.locs ++ L ∧ B.cells = P.cells + 1 ∧ B.slots = P.slots + A.slots.size) := by
  intro m meth c P g ig mk a X hg hsize hdg hW hn hp'
  obtain ⟨rfl, rfl, r1, r2⟩ := hp'
  have al : Z.vm.Alike P.U.vm := hZ.alike.trans X.warmed.alike
  obtain ⟨D, cfV, kV, iV, fV, hD, gV, stV, knV, obV, asV, slV⟩ := id V
  obtain ⟨D', cfC, kC, iC, fC, hD', gC, stC, -, -, asC, slC⟩ := id C
  cases hD.symm.trans hD'
  obtain ⟨D2, kD, e1, e2, e3, e4, e5⟩ := id E
  cases hD.symm.trans e1
  obtain ⟨c2, k2, i1, i2, i3, -⟩ := Cond.instantiable_spec wi
  cases e2.symm.trans i1
  cases e3.symm.trans i2
  obtain ⟨kU, u1, u2⟩ := al.2.2 _ _ e3
  have hB : Blank ST x D P.U := ⟨hD, ⟨knV, fun q hq => by rw [hq] at obV; cases obV⟩, by rw [al.findClass]; exact e2, kU, u1, by rw [u2]; exact i3, by rw [u2]; exact e5 i3⟩
  have F1 : Found ST "value" "[B" fV P.U := ⟨SBG.found_only al ⟨cfV, kV, iV, gV⟩, stV⟩
  have F2 : Found ST "coder" "B" fC P.U := ⟨SBG.found_only al ⟨cfC, kC, iC, gC⟩, stC⟩
  have hA : Ch b A P.U := ⟨⟨K.1, State.isArrayOf_alike al K.2.1, K.2.2, by omega⟩, hty⟩
  have hS : StaticIs P.U ST "COMPACT_STRINGS" "Z" (.int z) := by
    obtain ⟨cfS, iS, kS, fS, st, cS, t1, t2, t3, t4, t5, t6, t7⟩ := S
    exact StaticIs.there (s := { Z with heap := P.U.heap }) ⟨cfS, iS, kS, fS, st, cS, t1, t2, t3, t4, t5, (fun q => by rw [q] at t6; cases t6), t7⟩ al rfl
  obtain ⟨v, B, X', ⟨⟨hv, E', V', q1, q2, q3, q4, q5, q6, q7, q8, q9, q10, q11⟩, hl, hc, hs⟩, st⟩ := New1.pays x D fV fC b A z (tab_of (moved hZ hw)) hfr hlo m meth c P g ig mk _ X hg hsize hdg hW hn ⟨r1, r2, rfl, hB, F1, F2, hA, hS, hz, l0, l2, hp⟩
  have al' : Z.vm.Alike B.U.vm := hZ.alike.trans X'.warmed.alike
  have hsz : E'.slots.size = D.slots.size := by
    obtain ⟨-, -, -, kB, w1, w2, w3⟩ := q1
    obtain ⟨kB', y1, y2⟩ := al'.2.2 _ _ e3
    rw [q2.2.1] at w1
    cases w1.symm.trans y1
    rw [w3, e5 i3, y2]
  refine ⟨v, B, X', ⟨_, ⟨hv, ?_, ⟨by omega, fun y cy hy hn' => q10 y cy (by simpa using hn') hy, fun y cy hy => ?_⟩, q11, ⟨E', _, q1.1, by rw [q2.2.1]; exact e2, by rw [q2.2.1]; exact e3, by rw [q2.1]; exact obV, fun _ => by rw [hsz]; exact e5 i3⟩,
    ⟨E', cfV, kV, iV, fV, q1.1, gV, stV, by rw [q2.1]; exact knV, by rw [q2.1]; exact obV, by rw [q2.2.1]; exact asV, q3⟩, ⟨E', cfC, kC, iC, fC, q1.1, gC, stC, by rw [q2.1]; exact knV, by rw [q2.1]; exact obV, by rw [q2.2.1]; exact asC, q4⟩,
    ⟨V', ⟨q5.1, State.isArrayOf_alike al'.symm q5.2.1, q5.2.2.1⟩, q6, by rw [← al'.findClass]; exact q7, q8, fun j hj => by have := q9 j hj; rwa [Nat.zero_add] at this⟩, fun O n d w F n1 n2 => ?_⟩, hl, hc, hs⟩, st⟩
  · intro y hy
    simp only [List.mem_cons, List.not_mem_nil, or_false] at hy
    rcases hy with rfl | rfl <;> rfl
  · by_cases q : y = x
    · subst q
      cases hD.symm.trans hy
      exact ⟨E', q1.1, q2.2.1, q2.1, hsz⟩
    · exact ⟨cy, q10 y cy q hy, rfl, rfl, rfl⟩
  · obtain ⟨D3, cf, k, i, f, g1, g2, g3, g4, g5, g6, g7⟩ := F
    cases hD.symm.trans g1
    simp only [RoadKit.slotOf, g2, gV, gC, Option.map_some, Option.getD_some] at n1 n2
    exact ⟨E', cf, k, i, f, q1.1, g2, g3, by rw [q2.1]; exact g4, by rw [q2.1]; exact g5, by rw [q2.2.1]; exact g6, by rw [q2.2.2 f.slot (by simp [n1, n2])]; exact g7⟩
end StrChars.Road
namespace StrChars.Road
open Jvm Sem ClassFile Op Lib Jvm.Stand Jvm.Free Jvm.Free.XT
/-- WHAT COMES BACK, the byte[] as a list of values -/
def QA (Z : State) (x : Addr) (zn : Int32) (cs : List Int32) (h : Heap) (v : Option Value) (h' : Heap) (L : List Loc) : Prop := v = none ∧ (∀ y ∈ L, y.base = x) ∧ RoadKit.Keep h h' [x] ∧ h'.size = h.size + 1 ∧ RoadKit.Exa Z h' x ST ∧ RoadKit.Fld Z h' x ST "value" "[B" (.ref h.size) ∧ RoadKit.Fld Z h' x ST "coder" "B" (.int 0) ∧
  (∃ kb, Z.vm.findClass "[B" = some kb ∧ RoadKit.Arv Z h' h.size kb .byte zn (cs.map fun c => .int (lo8 c)) (.int 0)) ∧
  ∀ (O n d : String) (w : Value), RoadKit.Fld Z h x O n d w → RoadKit.slotOf Z O n d ≠ RoadKit.slotOf Z ST "value" "[B" → RoadKit.slotOf Z O n d ≠ RoadKit.slotOf Z ST "coder" "B" → RoadKit.Fld Z h' x O n d w
/-- **new String(chars) AT A CALL, THE ARRAYS AS LISTS**: the char[] at b holds cs, not empty, no char above 255 -/
theorem backArv {p : Program} {l : Launch} {e : Env} {R : Room} {s : State} {args : Array Value} {below : List Frame} {len W : Nat} {Z : State} {a0 : Array Value} {h : Heap} (hZ : Z.Warmed39 s.vm) (hw : ∀ d ∈ words, d.before a0 Z = true) {kI : Nat} (wi : (Jvm.Cond.instantiable ST kI).before a0 Z = true)
    {x b : Addr} {k : ClassId} {zn z : Int32} {cs : List Int32} {dv v0 c0 : Value} (E : RoadKit.Exa Z h x ST) (V : RoadKit.Fld Z h x ST "value" "[B" v0) (C : RoadKit.Fld Z h x ST "coder" "B" c0) (K : RoadKit.Arv Z h b k .char zn (cs.map Value.int) dv) (S : RoadKit.Sta Z h ST "COMPACT_STRINGS" "Z" (.int z)) (hz : ¬ z = 0)
    (hlen : zn.toNatClampNeg = cs.length) (h0 : 0 < cs.length) (hbig : cs.length ≤ 536870912) (hall : ∀ c ∈ cs, ¬ 255 < c) (hfr : 4 ≤ R.frames) (hlo : W + 65 ≤ R.locals) :
    Back l R p e below s args New1.yN len W (fun P a => a = #[.ref x, .ref b] ∧ P.U.heap = h ∧ P.cells + 1 ≤ R.cells ∧ P.slots + cs.length ≤ R.slots)
      (fun P _ v B => ∃ L, QA Z x zn cs h v B.U.heap L ∧ B.locs = P.locs ++ L ∧ B.cells = P.cells + 1 ∧ B.slots = P.slots + cs.length) := by
  obtain ⟨A, K1, K2, K3, K4, K5, K6⟩ := K
  have e : A.slots.size = cs.length := K3.trans hlen
  have hat : ∀ (i : Nat) (hi : i < cs.length), A.slots[i]? = some (.int cs[i]) := fun i hi => by rw [K5 i (by omega)]; simp [List.getD_eq_getElem?_getD, hi]
  have hcv : ∀ (i : Nat) (hi : i < cs.length), cv A i = cs[i] := fun i hi => by unfold cv; rw [hat i hi]
  have hty : Typed .char A := fun i v hv => by
    have hi : i < A.slots.size := (Array.getElem?_eq_some_iff.mp hv).1
    have q := K5 i hi
    rw [hv] at q
    rw [Option.some.inj q]
    exact K6 i hi
  refine Back.mono (back hZ hw wi E V C K1 hty S hz (by omega) (by omega) (fun i hi => by rw [hcv i (by omega)]; exact hall _ (List.getElem_mem _)) hfr hlo) (fun P a hp => ⟨hp.1, hp.2.1, hp.2.2.1, by rw [e]; exact hp.2.2.2⟩) (fun P a v B hp hq => ?_)
  obtain ⟨L, ⟨q1, q2, q3, q4, q5, q6, q7, ⟨V', v1, v2, v3, v4, v5⟩, q9⟩, hl, hc, hs⟩ := hq
  refine ⟨L, ⟨q1, q2, q3, q4, q5, q6, q7, ⟨V'.cls, v3, V', v1, rfl, by rw [v4, e, hlen], K4, fun i hi => ?_, fun i hi => ?_⟩, q9⟩, hl, hc, by rw [hs, e]⟩
  · have hi' : i < cs.length := by omega
    rw [v5 i (by omega), hcv i hi']; simp [List.getD_eq_getElem?_getD, hi']
  · have hi' : i < cs.length := by omega
    simp only [List.getD_eq_getElem?_getD, List.getElem?_map, List.getElem?_eq_getElem hi', Option.map_some, Option.getD_some]
    exact fits_lo8 _
end StrChars.Road
namespace StrChars.Road
open Jvm Sem ClassFile Op Lib Jvm.Stand Jvm.Free Jvm.Free.XT
/-- WHAT COMES BACK, in the writer's own shape -/
def QV (Z : State) (x : Addr) (N : Int32) (bs : List Int32) (h : Heap) (n0 : Nat) (v : Option Value) (h' : Heap) (L : List Loc) : Prop := v = none ∧ RoadKit.Fr n0 L ∧ RoadKit.Keep h h' [x] ∧ RoadKit.Exa Z h' x ST ∧ RoadKit.Fld Z h' x ST "coder" "B" (.int 0) ∧
  ∃ (t : Addr) (kb : ClassId), n0 ≤ t ∧ h.size ≤ t ∧ ¬ t = x ∧ RoadKit.Fld Z h' x ST "value" "[B" (.ref t) ∧ RoadKit.Arv Z h' t kb .byte N (bs.map Value.int) (.int 0)
/-- **new String(chars) AT A CALL, FOR THE WRITER**: a char[] of n known ints, each 0 to 255 -/
theorem backV {p : Program} {l : Launch} {e : Env} {R : Room} {s : State} {args : Array Value} {below : List Frame} {len W : Nat} {Z : State} {a0 : Array Value} {h : Heap} (hZ : Z.Warmed39 s.vm) (hw : ∀ d ∈ words, d.before a0 Z = true) {kI : Nat} (wi : (Jvm.Cond.instantiable ST kI).before a0 Z = true)
    {x b : Addr} {kC : ClassId} {cs bs : List Int32} {d v0 c0 : Value} {z N : Int32} {n n0 : Nat} (hx0 : n0 ≤ x) (hh0 : n0 ≤ h.size) (E : RoadKit.Exa Z h x ST) (V : RoadKit.Fld Z h x ST "value" "[B" v0) (C : RoadKit.Fld Z h x ST "coder" "B" c0) (K : RoadKit.Arv Z h b kC .char N (cs.map Value.int) d) (S : RoadKit.Sta Z h ST "COMPACT_STRINGS" "Z" (.int z)) (hz : ¬ z = 0)
    (hn : cs.length = n) (hN : N = Int32.ofNat n) (l0 : 0 < n) (l2 : n ≤ 4000) (hp : ∀ c ∈ cs, ¬ c < 0 ∧ ¬ (255 : Int32) < c) (hb : bs = cs.map (fun c => c.toInt8.toInt32)) (hfr : 4 ≤ R.frames) (hlo : W + 65 ≤ R.locals) :
    Back l R p e below s args (⟨"java/lang/String", "<init>", "([C)V"⟩ : MethodName) len W (fun P a => a = #[.ref x, .ref b] ∧ P.U.heap = h ∧ P.cells + 1 ≤ R.cells ∧ P.slots + n ≤ R.slots)
      (fun P _ v B => ∃ L, QV Z x N bs h n0 v B.U.heap L ∧ B.locs = P.locs ++ L ∧ B.cells = P.cells + 1 ∧ B.slots = P.slots + n) := by
  subst hn hN hb
  refine Back.mono (backArv hZ hw wi E V C K S hz (n32 (by omega)) l0 (by omega) (fun c hc => (hp c hc).2) hfr hlo) (fun P a hp => hp) (fun P a v B hp hq => ?_)
  obtain ⟨L, ⟨q1, q2, q3, q4, q5, q6, q7, ⟨kb, v1, v2⟩, q9⟩, hl, hc, hs⟩ := hq
  exact ⟨L, ⟨q1, fun y hy => by rw [q2 y hy]; exact hx0, q3, q5, q7, h.size, kb, hh0, Nat.le_refl _, Nat.ne_of_gt E.lt, q6, by rw [List.map_map]; exact v2⟩, hl, hc, hs⟩
end StrChars.Road
namespace StrChars
open Jvm Sem ClassFile Op Lib Jvm.Stand Jvm.Free.XT Jvm.Free.ALB Jvm.Free.JM Jvm.Free
open Jvm.Lib.Cold (StaticIs)
def hi8 (x : Int32) : Int32 := lo8 (x >>> ((8 : Int32) &&& 31))
/-- what StringUTF16.getChar makes of two bytes -/
def pairCh (u v : Int32) : Int32 := (((u &&& 255) <<< ((0 : Int32) &&& 31)) ||| ((v &&& 255) <<< ((8 : Int32) &&& 31))).toUInt32.toUInt16.toUInt32.toInt32
theorem lo8_and (x : Int32) : (lo8 x &&& 255).toBitVec.toNat = x.toBitVec.toNat % 256 := by
  have h : (lo8 x).toBitVec = (x.toBitVec.signExtend 8).signExtend 32 := by rw [lo8, Int8.toBitVec_toInt32, Int32.toBitVec_toInt8]
  rw [Int32.toBitVec_and, BitVec.toNat_and, h]
  have e : ((x.toBitVec.signExtend 8).signExtend 32).toNat % 256 = x.toBitVec.toNat % 256 := by
    rw [BitVec.toNat_signExtend]
    have hlt := x.toBitVec.isLt
    simp only [BitVec.toNat_setWidth, BitVec.toNat_signExtend]
    split <;> split <;> omega
  rw [← e]
  exact Nat.and_two_pow_sub_one_eq_mod _ 8
theorem pair_says {c : Int32} (h0 : ¬ c < 0) (h1 : ¬ 65535 < c) : pairCh (lo8 c) (hi8 c) = c := by
  rw [Int32.lt_iff_toInt_lt] at h0 h1
  have e0 : (0 : Int32).toInt = 0 := rfl
  have e1 : (65535 : Int32).toInt = 65535 := rfl
  have hc : c.toInt = c.toBitVec.toNat := by
    have := c.toBitVec.isLt
    have e : c.toInt = c.toBitVec.toInt := rfl
    rw [e] at h0 h1
    rw [e]
    rw [BitVec.toInt_eq_toNat_cond] at h0 h1 ⊢
    split at h0 <;> split <;> omega
  have hn : c.toBitVec.toNat < 65536 := by omega
  have a1 := lo8_and c
  have a2 : (hi8 c &&& 255).toBitVec.toNat = c.toBitVec.toNat / 256 := by
    rw [hi8, lo8_and]
    have e : ((8 : Int32) &&& 31) = 8 := by decide
    rw [e, Int32.toBitVec_shiftRight]
    have e2 : ((8 : Int32).toBitVec.smod 32) = 8#32 := by decide
    rw [e2, BitVec.sshiftRight_eq', BitVec.toNat_sshiftRight_of_msb_false (by rw [BitVec.msb_eq_false_iff_two_mul_lt]; omega)]
    show c.toBitVec.toNat >>> 8 % 256 = _
    rw [Nat.shiftRight_eq_div_pow]
    omega
  unfold pairCh
  apply Int32.toBitVec_inj.mp
  apply BitVec.eq_of_toNat_eq
  have f0 : ((0 : Int32) &&& 31) = 0 := by decide
  have f8 : ((8 : Int32) &&& 31) = 8 := by decide
  rw [f0, f8]
  have g : (((lo8 c &&& 255) <<< (0 : Int32)) ||| ((hi8 c &&& 255) <<< (8 : Int32))).toBitVec.toNat = c.toBitVec.toNat := by
    rw [Int32.toBitVec_or, Int32.toBitVec_shiftLeft, Int32.toBitVec_shiftLeft]
    have s0 : ((0 : Int32).toBitVec.smod 32) = 0#32 := by decide
    have s8 : ((8 : Int32).toBitVec.smod 32) = 8#32 := by decide
    rw [s0, s8, BitVec.toNat_or]
    simp only [BitVec.shiftLeft_eq', BitVec.toNat_shiftLeft, a1, a2]
    show (c.toBitVec.toNat % 256) <<< 0 % 2 ^ 32 ||| (c.toBitVec.toNat / 256) <<< 8 % 2 ^ 32 = _
    rw [Nat.shiftLeft_zero, Nat.mod_eq_of_lt (show c.toBitVec.toNat % 256 < 2 ^ 32 by omega), Nat.mod_eq_of_lt (show (c.toBitVec.toNat / 256) <<< 8 < 2 ^ 32 by rw [Nat.shiftLeft_eq]; omega), Nat.or_comm, ← Nat.shiftLeft_add_eq_or_of_lt (by omega), Nat.shiftLeft_eq]
    omega
  show BitVec.toNat (((((lo8 c &&& 255) <<< (0 : Int32)) ||| ((hi8 c &&& 255) <<< (8 : Int32))).toBitVec.setWidth 16).setWidth 32) = _
  rw [BitVec.toNat_setWidth, BitVec.toNat_setWidth, g]
  omega
end StrChars
namespace StrChars
open Jvm Sem ClassFile Op Lib Jvm.Stand Jvm.Free.XT Jvm.Free.ALB Jvm.Free.JM Jvm.Free
open Jvm.Lib.Cold (StaticIs)
/-- the array's cell V codes the n chars f 0 .. f (n - 1) by the coder cd, as the JDK does: coder 1 just where some char is above 255 -/
def Cod (cd : Int32) (n : Nat) (f : Nat → Int32) (V : Cell) : Prop := (cd = 0 ∧ V.slots.size = n ∧ ∀ j, j < n → V.slots[j]? = some (.int (lo8 (f j))) ∧ ¬ 255 < f j) ∨ (cd = 1 ∧ V.slots.size = 2 * n ∧ (∀ j, j < n → V.slots[2 * j]? = some (.int (lo8 (f j))) ∧ V.slots[2 * j + 1]? = some (.int (hi8 (f j)))) ∧ ∃ j, j < n ∧ 255 < f j)
/-- **x is a String of the n chars f 0 .. f (n - 1)**, Latin-1 or UTF-16; its array at t has the cell V -/
def Txt (x t : Addr) (V : Cell) (cd : Int32) (n : Nat) (f : Nat → Int32) (U : State) : Prop := Exact "java/lang/String" x U ∧ Has x "java/lang/String" "value" "[B" (.ref t) U ∧ Has x "java/lang/String" "coder" "B" (.int cd) U ∧ XT.Arr .byte t V U ∧ Cod cd n f V ∧ ∀ j, j < n → ¬ f j < 0 ∧ ¬ 65535 < f j
theorem Txt.mv {x t : Addr} {V : Cell} {cd : Int32} {n : Nat} {f : Nat → Int32} {U U' : State} (h : Txt x t V cd n f U) (hal : U.vm.Alike U'.vm) (hh : U'.heap = U.heap) : Txt x t V cd n f U' := ⟨h.1.mv hal hh, h.2.1.mv hal hh, h.2.2.1.mv hal hh, h.2.2.2.1.mv hal hh, h.2.2.2.2⟩
end StrChars
namespace StrChars.Road
open Jvm Sem ClassFile Op Lib Jvm.Stand Jvm.Free Jvm.Free.XT
open Jvm.Lib.Cold (StaticIs)
theorem consq {a : Array Value} {s : State} {c : Jvm.Cond} {L : List Jvm.Cond} (h0 : c.before a s = true) (h : ∀ w ∈ L, w.before a s = true) : ∀ w ∈ c :: L, w.before a s = true := fun w hw => (List.mem_cons.mp hw).elim (fun e => e ▸ h0) (h w)
/-- the bytes of the chars cs, low before high -/
def wideBytes : List Int32 → List Value
  | [] => []
  | c :: cs => .int (lo8 c) :: .int (hi8 c) :: wideBytes cs
theorem wide_lo (d : Value) : ∀ (cs : List Int32) (j : Nat), j < cs.length → (wideBytes cs).getD (2 * j) d = .int (lo8 (cs.getD j 0))
  | [], j, h => absurd h (Nat.not_lt_zero j)
  | c :: cs, 0, _ => rfl
  | c :: cs, j + 1, h => by
    have q := wide_lo d cs j (by simpa using h)
    rw [show 2 * (j + 1) = 2 * j + 1 + 1 from by omega]
    simpa [wideBytes] using q
theorem wide_hi (d : Value) : ∀ (cs : List Int32) (j : Nat), j < cs.length → (wideBytes cs).getD (2 * j + 1) d = .int (hi8 (cs.getD j 0))
  | [], j, h => absurd h (Nat.not_lt_zero j)
  | c :: cs, 0, _ => rfl
  | c :: cs, j + 1, h => by
    have q := wide_hi d cs j (by simpa using h)
    rw [show 2 * (j + 1) + 1 = 2 * j + 1 + 1 + 1 from by omega]
    simpa [wideBytes] using q
theorem low_at (d : Value) (cs : List Int32) (j : Nat) (h : j < cs.length) : (cs.map fun c => Value.int (lo8 c)).getD j d = .int (lo8 (cs.getD j 0)) := by
  simp [List.getD_eq_getElem?_getD, h]
/-- an array of N2 bytes vs codes the chars cs by the coder cd -/
def CodA (cs : List Int32) (cd N2 : Int32) (vs : List Value) : Prop := (cd = 0 ∧ N2 = Int32.ofNat cs.length ∧ vs = (cs.map fun c => Value.int (lo8 c)) ∧ ∀ c ∈ cs, ¬ 255 < c) ∨ (cd = 1 ∧ N2 = Int32.ofNat (2 * cs.length) ∧ vs = wideBytes cs ∧ ∃ c ∈ cs, 255 < c)
theorem CodA.cod {cs : List Int32} {cd N2 : Int32} {vs : List Value} {V : Cell} (h : CodA cs cd N2 vs) (hn : 2 * cs.length < 2 ^ 31) (hs : V.slots.size = N2.toNatClampNeg) (hv : RoadKit.Has V vs (.int 0)) : Cod cd cs.length (fun j => cs.getD j 0) V := by
  rcases h with ⟨rfl, rfl, rfl, h⟩ | ⟨rfl, rfl, rfl, c, hc, hw⟩
  · rw [n32 (by omega)] at hs
    exact Or.inl ⟨rfl, hs, fun j hj => ⟨by rw [hv j (by omega), low_at _ _ _ hj], by
      have e : cs.getD j 0 = cs[j] := by simp [List.getD_eq_getElem?_getD, hj]
      show ¬ 255 < cs.getD j 0
      rw [e]; exact h _ (List.getElem_mem _)⟩⟩
  · rw [n32 (by omega)] at hs
    obtain ⟨j, hj, rfl⟩ := List.getElem_of_mem hc
    exact Or.inr ⟨rfl, hs, fun j hj => ⟨by rw [hv _ (by omega), wide_lo _ _ _ hj], by rw [hv _ (by omega), wide_hi _ _ _ hj]⟩, j, hj, by
      have e : cs.getD j 0 = cs[j] := by simp [List.getD_eq_getElem?_getD, hj]
      show 255 < cs.getD j 0
      rw [e]; exact hw⟩
/-- an object of exactly java/lang/String, its two fields found: as the laws ask it -/
theorem strObj {Z U : State} {a0 : Array Value} {kI : Nat} (wi : (Jvm.Cond.instantiable ST kI).before a0 Z = true) (al : Z.vm.Alike U.vm) {x : Addr} {v0 c0 : Value} (E : RoadKit.Exa Z U.heap x ST) (V : RoadKit.Fld Z U.heap x ST "value" "[B" v0) (C : RoadKit.Fld Z U.heap x ST "coder" "B" c0) :
    ∃ (D : Cell) (fV fC : Field), Blank ST x D U ∧ Found ST "value" "[B" fV U ∧ Found ST "coder" "B" fC U ∧ D.slots[fV.slot]? = some v0 ∧ D.slots[fC.slot]? = some c0 ∧ RoadKit.slotOf Z ST "value" "[B" = fV.slot ∧ RoadKit.slotOf Z ST "coder" "B" = fC.slot := by
  obtain ⟨D, cfV, kV, iV, fV, hD, gV, stV, knV, obV, asV, slV⟩ := V
  obtain ⟨D', cfC, kC, iC, fC, hD', gC, stC, -, -, asC, slC⟩ := C
  cases hD.symm.trans hD'
  obtain ⟨D2, kD, e1, e2, e3, e4, e5⟩ := E
  cases hD.symm.trans e1
  obtain ⟨c2, k2, i1, i2, i3, -⟩ := Cond.instantiable_spec wi
  cases e2.symm.trans i1
  cases e3.symm.trans i2
  obtain ⟨kU, u1, u2⟩ := al.2.2 _ _ e3
  exact ⟨D, fV, fC, ⟨hD, ⟨knV, fun q hq => by rw [hq] at obV; cases obV⟩, by rw [al.findClass]; exact e2, kU, u1, by rw [u2]; exact i3, by rw [u2]; exact e5 i3⟩, ⟨SBG.found_only al ⟨cfV, kV, iV, gV⟩, stV⟩, ⟨SBG.found_only al ⟨cfC, kC, iC, gC⟩, stC⟩, slV, slC, by simp [RoadKit.slotOf, gV], by simp [RoadKit.slotOf, gC]⟩
theorem sta_is {Z U : State} (al : Z.vm.Alike U.vm) {C n d : String} {v : Value} (S : RoadKit.Sta Z U.heap C n d v) : StaticIs U C n d v := by
  obtain ⟨cfS, iS, kS, fS, st, cS, t1, t2, t3, t4, t5, t6, t7⟩ := S
  exact StaticIs.there (s := { Z with heap := U.heap }) ⟨cfS, iS, kS, fS, st, cS, t1, t2, t3, t4, t5, (fun q => by rw [q] at t6; cases t6), t7⟩ al rfl
end StrChars.Road
namespace StrChars
open Jvm Sem ClassFile Op Lib Jvm.Stand Jvm.Free.XT Jvm.Free.ALB Jvm.Free.JM Jvm.Free
open Jvm.Lib.Cold (StaticIs)
/-- what place i of a byte[]'s cell holds -/
def yv (A : Cell) (i : Nat) : Int32 := match A.slots[i]? with | some (.int x) => x | _ => 0
theorem yv_get {a : Addr} {A : Cell} {U : State} (h : XT.Arr .byte a A U) (ht : Typed .byte A) {i : Nat} (hi : i < A.slots.size) : A.slots[i]? = some (.int (yv A i)) := by
  have e := Array.getElem?_eq_getElem hi
  have f := ht i _ e
  unfold yv; rw [e]
  generalize A.slots[i] = v at f
  cases v <;> simp [fits] at f ⊢
/-- the two arrays are equal, place for place -/
def EqC (A B : Cell) : Prop := A.slots.size = B.slots.size ∧ ∀ i, i < A.slots.size → yv A i = yv B i
/-- a boolean that says whether p -/
def Says01 (q : Prop) (r : Option Value) (s u : State) : Prop := ∃ v : Int32, r = some (.int v) ∧ u.heap = s.heap ∧ ((v = 1 ∧ q) ∨ (v = 0 ∧ ¬ q))
theorem Says01.mv {q : Prop} : ∀ r (U U' V V' : State), U'.heap = U.heap → V.vm.Alike V'.vm → V'.heap = V.heap → Says01 q r U V → Says01 q r U' V' :=
  fun r U U' V V' h1 _ h2 ⟨v, a, b, c⟩ => ⟨v, a, by rw [h1, h2]; exact b, c⟩
namespace LEq
def yN : MethodName := ⟨"java/lang/StringLatin1", "equals", "([B[B)Z"⟩
abbrev yB : ByteArray := jdk_43_method_13_code
theorem d0 : decode yB 0 = .ok (.aload_n 0, 1) := by decide +kernel
theorem d1 : decode yB 1 = .ok (.arraylength, 1) := by decide +kernel
theorem d2 : decode yB 2 = .ok (.aload_n 1, 1) := by decide +kernel
theorem d3 : decode yB 3 = .ok (.arraylength, 1) := by decide +kernel
theorem d4 : decode yB 4 = .ok (.if_icmp (.ne) 30, 3) := by decide +kernel
theorem d7 : decode yB 7 = .ok (.iconst 0, 1) := by decide +kernel
theorem d8 : decode yB 8 = .ok (.istore_n 2, 1) := by decide +kernel
theorem d9 : decode yB 9 = .ok (.iload_n 2, 1) := by decide +kernel
theorem d10 : decode yB 10 = .ok (.aload_n 0, 1) := by decide +kernel
theorem d11 : decode yB 11 = .ok (.arraylength, 1) := by decide +kernel
theorem d12 : decode yB 12 = .ok (.if_icmp (.ge) 20, 3) := by decide +kernel
theorem d15 : decode yB 15 = .ok (.aload_n 0, 1) := by decide +kernel
theorem d16 : decode yB 16 = .ok (.iload_n 2, 1) := by decide +kernel
theorem d17 : decode yB 17 = .ok (.baload, 1) := by decide +kernel
theorem d18 : decode yB 18 = .ok (.aload_n 1, 1) := by decide +kernel
theorem d19 : decode yB 19 = .ok (.iload_n 2, 1) := by decide +kernel
theorem d20 : decode yB 20 = .ok (.baload, 1) := by decide +kernel
theorem d21 : decode yB 21 = .ok (.if_icmp (.eq) 5, 3) := by decide +kernel
theorem d24 : decode yB 24 = .ok (.iconst 0, 1) := by decide +kernel
theorem d25 : decode yB 25 = .ok (.ireturn, 1) := by decide +kernel
theorem d26 : decode yB 26 = .ok (.iinc 2 1, 3) := by decide +kernel
theorem d29 : decode yB 29 = .ok (.goto (-20), 3) := by decide +kernel
theorem d32 : decode yB 32 = .ok (.iconst 1, 1) := by decide +kernel
theorem d33 : decode yB 33 = .ok (.ireturn, 1) := by decide +kernel
theorem d34 : decode yB 34 = .ok (.iconst 0, 1) := by decide +kernel
theorem d35 : decode yB 35 = .ok (.ireturn, 1) := by decide +kernel
def site : List Cond := []
def tab : Cond := tabOf yN yB 3 (some .boolean) site
def P (a : Addr) (A : Cell) (b : Addr) (B : Cell) (args : Array Value) (s : State) : Prop := args = #[.ref a, .ref b] ∧ XT.Arr .byte a A s ∧ Typed .byte A ∧ XT.Arr .byte b B s ∧ Typed .byte B
/-- whether two byte[] are equal, place for place -/
theorem law (l : Launch) (a : Addr) (A : Cell) (b : Addr) (B : Cell) : Law l yN 2 2 0 0 yB 3 (some .boolean) site (P a A b B) (Says01 (EqC A B)) [] 0 0 := by
  refine Law.of_walk (plainFor_of_name (by decide +kernel)) (by decide +kernel) (by decide +kernel) (by decide) (fun _ _ h => by rw [h.1]; rfl) (fun _ U U' hal hh h => ⟨h.1, h.2.1.mv hal hh, h.2.2.1, h.2.2.2.1.mv hal hh, h.2.2.2.2⟩) (fun r U U' V V' h1 hal h2 h => Says01.mv r U U' V V' h1 hal h2 h) ?_
  intro p e s m args below meth c s₁ X0 hexec hbytes hml hret hlk hnm hown hh0 W hP
  obtain ⟨rfl, hA, tA, hB, tB⟩ := hP
  have a31 := hA.2.2.2
  have b31 := hB.2.2.2
  have hA0 := hA.mv X0.warmed.alike hh0
  have hB0 := hB.mv X0.warmed.alike hh0
  have c1 : Steps p.tables e below (s₁.setTop (entryFrame m #[.ref a, .ref b] 3)) (s₁.setTop (mkF m 0 #[.val (.ref a), .val (.ref b), .unset] [])) := entry rfl
  have c2 : Steps p.tables e below (s₁.setTop (entryFrame m #[.ref a, .ref b] 3)) (s₁.setTop (mkF m 4 #[.val (.ref a), .val (.ref b), .unset] [.int (Int32.ofNat B.slots.size), .int (Int32.ofNat A.slots.size)])) := c1.trans (by
    refine XS.aloadN X0.here hexec rfl (hb hbytes d0) rfl rfl ?_
    refine X0.alen hexec hA0 rfl rfl (hb hbytes d1) ?_
    refine XS.aloadN X0.here hexec rfl (hb hbytes d2) rfl rfl ?_
    refine X0.alen hexec hB0 rfl rfl (hb hbytes d3) ?_
    exact Steps.refl _)
  by_cases hs : A.slots.size = B.slots.size
  · have c3 : Steps p.tables e below (s₁.setTop (entryFrame m #[.ref a, .ref b] 3)) (s₁.setTop (mkF m 9 #[.val (.ref a), .val (.ref b), .val (.int 0)] [])) := c2.trans (by
      refine XS.icmpNo X0.here hexec rfl (hb hbytes d4) rfl (ii_ne_f (by rw [hs])) ?_
      refine iconstV X0.here hexec rfl 0 (hb hbytes d7) (by decide) ?_
      refine XS.istoreN X0.here hexec rfl (hb hbytes d8) rfl rfl ?_
      exact Steps.refl _)
    have loop : ∀ (r i : Nat), i + r = A.slots.size → (∀ j, j < i → yv A j = yv B j) → Steps p.tables e below (s₁.setTop (entryFrame m #[.ref a, .ref b] 3)) (s₁.setTop (mkF m 9 #[.val (.ref a), .val (.ref b), .val (.int (Int32.ofNat i))] [])) → ∃ (pc : Nat) (Ls : Array Slot) (v : Int32), (pc = 25 ∨ pc = 33) ∧ ((v = 1 ∧ EqC A B) ∨ (v = 0 ∧ ¬ EqC A B)) ∧ Steps p.tables e below (s₁.setTop (entryFrame m #[.ref a, .ref b] 3)) (s₁.setTop (mkF m pc Ls [.int v])) := by
      intro r
      induction r with
      | zero =>
        intro i hi he cl
        exact ⟨33, _, 1, Or.inr rfl, Or.inl ⟨rfl, hs, fun j hj => he j (by omega)⟩, cl.trans (by
          refine XS.iloadN X0.here hexec rfl (hb hbytes d9) rfl ?_
          refine XS.aloadN X0.here hexec rfl (hb hbytes d10) rfl rfl ?_
          refine X0.alen hexec hA0 rfl rfl (hb hbytes d11) ?_
          refine XS.icmpYes X0.here hexec rfl (pc0 := 12) rfl (hb hbytes d12) rfl (ii_ge_t (nlt32 (by omega) (by omega))) (by decide) rfl ?_
          refine iconstV X0.here hexec rfl 1 (hb hbytes d32) (by decide) ?_
          exact Steps.refl _)⟩
      | succ r ih =>
        intro i hi he cl
        have c4 : Steps p.tables e below (s₁.setTop (entryFrame m #[.ref a, .ref b] 3)) (s₁.setTop (mkF m 21 #[.val (.ref a), .val (.ref b), .val (.int (Int32.ofNat i))] [.int (yv B i), .int (yv A i)])) := cl.trans (by
          refine XS.iloadN X0.here hexec rfl (hb hbytes d9) rfl ?_
          refine XS.aloadN X0.here hexec rfl (hb hbytes d10) rfl rfl ?_
          refine X0.alen hexec hA0 rfl rfl (hb hbytes d11) ?_
          refine XS.icmpNo X0.here hexec rfl (hb hbytes d12) rfl (ii_ge_f (lt32 (by omega) (by omega))) ?_
          refine XS.aloadN X0.here hexec rfl (hb hbytes d15) rfl rfl ?_
          refine XS.iloadN X0.here hexec rfl (hb hbytes d16) rfl ?_
          refine X0.aget hexec hA0 rfl (yv_get hA tA (i := i) (by omega)) rfl rfl (hb hbytes d17) ?_
          refine XS.aloadN X0.here hexec rfl (hb hbytes d18) rfl rfl ?_
          refine XS.iloadN X0.here hexec rfl (hb hbytes d19) rfl ?_
          refine X0.aget hexec hB0 rfl (yv_get hB tB (i := i) (by omega)) rfl rfl (hb hbytes d20) ?_
          exact Steps.refl _)
        by_cases hv : yv A i = yv B i
        · have c5 : Steps p.tables e below (s₁.setTop (entryFrame m #[.ref a, .ref b] 3)) (s₁.setTop (mkF m 9 #[.val (.ref a), .val (.ref b), .val (.int (Int32.ofNat i + 1))] [])) := c4.trans (by
            refine XS.icmpYes X0.here hexec rfl (pc0 := 21) rfl (hb hbytes d21) rfl (ii_eq_t hv) (by decide) rfl ?_
            refine iincV X0.here hexec rfl 1 (hb hbytes d26) (by decide) rfl rfl ?_
            refine XS.goto X0.here hexec rfl (pc0 := 29) rfl (hb hbytes d29) (by decide) rfl ?_
            exact Steps.refl _)
          rw [succ32] at c5
          exact ih (i + 1) (by omega) (fun j hj => by
            by_cases e : j = i
            · rw [e]; exact hv
            · exact he j (by omega)) c5
        · exact ⟨25, _, 0, Or.inl rfl, Or.inr ⟨rfl, fun q => hv (q.2 i (by omega))⟩, c4.trans (by
            refine XS.icmpNo X0.here hexec rfl (hb hbytes d21) rfl (ii_eq_f hv) ?_
            refine iconstV X0.here hexec rfl 0 (hb hbytes d24) (by decide) ?_
            exact Steps.refl _)⟩
    obtain ⟨pc, Ls, v, hpc, hv, cz⟩ := loop A.slots.size 0 (by omega) (fun j hj => absurd hj (Nat.not_lt_zero j)) c3
    have nv : narrow .boolean (.int v) = .int v := by rcases hv with ⟨rfl, -⟩ | ⟨rfl, -⟩ <;> rfl
    rcases hpc with rfl | rfl
    · exact ⟨s₁, some (.int v), _, _, _, X0, rfl, rfl, rfl, (fun h => by cases h), ⟨v, rfl, hh0, hv⟩, fun fs hl => cz.trans (X0.ireturnOut hexec hret nv (Or.inr (Or.inl rfl)) (hb hbytes d25) hl)⟩
    · exact ⟨s₁, some (.int v), _, _, _, X0, rfl, rfl, rfl, (fun h => by cases h), ⟨v, rfl, hh0, hv⟩, fun fs hl => cz.trans (X0.ireturnOut hexec hret nv (Or.inr (Or.inl rfl)) (hb hbytes d33) hl)⟩
  · have c3 : Steps p.tables e below (s₁.setTop (entryFrame m #[.ref a, .ref b] 3)) (s₁.setTop (mkF m 35 #[.val (.ref a), .val (.ref b), .unset] [.int 0])) := c2.trans (by
      refine XS.icmpYes X0.here hexec rfl (pc0 := 4) rfl (hb hbytes d4) rfl (ii_ne_t (ne32 a31 b31 hs)) (by decide) rfl ?_
      refine iconstV X0.here hexec rfl 0 (hb hbytes d34) (by decide) ?_
      exact Steps.refl _)
    exact ⟨s₁, some (.int 0), _, _, _, X0, rfl, rfl, rfl, (fun h => by cases h), ⟨0, rfl, hh0, Or.inr ⟨rfl, fun q => hs q.1⟩⟩, fun fs hl => c3.trans (X0.ireturnOut hexec hret rfl (Or.inr (Or.inl rfl)) (hb hbytes d35) hl)⟩
end LEq
theorem Cod.ty {cd : Int32} {n : Nat} {f : Nat → Int32} {V : Cell} (h : Cod cd n f V) : Typed .byte V := fun i v hv => by
  have hi : i < V.slots.size := (Array.getElem?_eq_some_iff.mp hv).1
  rcases h with ⟨-, k1, k2⟩ | ⟨-, k1, k2, -⟩
  · rw [(k2 i (by omega)).1] at hv; cases hv; exact fits_lo8 _
  · rcases Nat.mod_two_eq_zero_or_one i with e | e
    · obtain ⟨j, rfl⟩ : ∃ j, i = 2 * j := ⟨i / 2, by omega⟩
      rw [(k2 j (by omega)).1] at hv; cases hv; exact fits_lo8 _
    · obtain ⟨j, rfl⟩ : ∃ j, i = 2 * j + 1 := ⟨i / 2, by omega⟩
      rw [(k2 j (by omega)).2] at hv; cases hv; exact fits_lo8 _
/-- the same text -/
def SameT (n : Nat) (f : Nat → Int32) (k : Nat) (g : Nat → Int32) : Prop := n = k ∧ ∀ j, j < n → f j = g j
theorem lo8_inj {x y : Int32} (h0 : ¬ x < 0) (h1 : ¬ 255 < x) (k0 : ¬ y < 0) (k1 : ¬ 255 < y) (h : lo8 x = lo8 y) : x = y := by
  rw [← lo8_mask h0 h1, ← lo8_mask k0 k1, h]
/-- arrays coded by one coder are equal just where the texts are -/
theorem Cod.eqv {cd : Int32} {n k : Nat} {f g : Nat → Int32} {V V' : Cell} (h : Cod cd n f V) (h' : Cod cd k g V') (hf : ∀ j, j < n → ¬ f j < 0 ∧ ¬ 65535 < f j) (hg : ∀ j, j < k → ¬ g j < 0 ∧ ¬ 65535 < g j) : EqC V V' ↔ SameT n f k g := by
  have yvv : ∀ {W : Cell} {i : Nat} {x : Int32}, W.slots[i]? = some (.int x) → yv W i = x := fun q => by unfold yv; rw [q]
  rcases h with ⟨rfl, k1, k2⟩ | ⟨rfl, k1, k2, -⟩
  · rcases h' with ⟨-, m1, m2⟩ | ⟨e, -⟩
    · constructor
      · rintro ⟨e1, e2⟩
        refine ⟨by omega, fun j hj => ?_⟩
        have q := e2 j (by omega)
        rw [yvv (k2 j hj).1, yvv (m2 j (by omega)).1] at q
        exact lo8_inj (hf j hj).1 (k2 j hj).2 (hg j (by omega)).1 (m2 j (by omega)).2 q
      · rintro ⟨rfl, e2⟩
        refine ⟨by omega, fun j hj => ?_⟩
        rw [yvv (k2 j (by omega)).1, yvv (m2 j (by omega)).1, e2 j (by omega)]
    · exact absurd e (by decide)
  · rcases h' with ⟨e, -⟩ | ⟨-, m1, m2, -⟩
    · exact absurd e (by decide)
    · constructor
      · rintro ⟨e1, e2⟩
        refine ⟨by omega, fun j hj => ?_⟩
        have q1 := e2 (2 * j) (by omega)
        have q2 := e2 (2 * j + 1) (by omega)
        rw [yvv (k2 j hj).1, yvv (m2 j (by omega)).1] at q1
        rw [yvv (k2 j hj).2, yvv (m2 j (by omega)).2] at q2
        rw [← pair_says (hf j hj).1 (hf j hj).2, ← pair_says (hg j (by omega)).1 (hg j (by omega)).2, q1, q2]
      · rintro ⟨rfl, e2⟩
        refine ⟨by omega, fun i hi => ?_⟩
        rcases Nat.mod_two_eq_zero_or_one i with e | e
        · obtain ⟨j, rfl⟩ : ∃ j, i = 2 * j := ⟨i / 2, by omega⟩
          rw [yvv (k2 j (by omega)).1, yvv (m2 j (by omega)).1, e2 j (by omega)]
        · obtain ⟨j, rfl⟩ : ∃ j, i = 2 * j + 1 := ⟨i / 2, by omega⟩
          rw [yvv (k2 j (by omega)).2, yvv (m2 j (by omega)).2, e2 j (by omega)]
/-- two codings differ: so do the texts -/
theorem Cod.dif {cd cd' : Int32} {n k : Nat} {f g : Nat → Int32} {V V' : Cell} (h : Cod cd n f V) (h' : Cod cd' k g V') (hne : ¬ cd = cd') : ¬ SameT n f k g := by
  rintro ⟨rfl, e⟩
  rcases h with ⟨rfl, -, k2⟩ | ⟨rfl, -, -, j, hj, hw⟩
  · rcases h' with ⟨rfl, -⟩ | ⟨-, -, -, j, hj, hw⟩
    · exact hne rfl
    · exact (k2 j hj).2 (by rw [e j hj]; exact hw)
  · rcases h' with ⟨-, -, m2⟩ | ⟨rfl, -⟩
    · exact (m2 j hj).2 (by rw [← e j hj]; exact hw)
    · exact hne rfl
/-- an object of exactly C is an instance of C -/
theorem cinst {p : Program} {l : Launch} {e : Env} {R : Room} {s : State} {m : MethodId} {args : Array Value} {below : List Frame} {meth : Method} {c : Code} {T : State} {locs : List Loc} {cells slots : Nat} (X : Stand p l e R s m args below meth c T locs cells slots) (hexec : p.tables.exec = Jvm.exec) {own C : String} {index : Nat} (hown : s.vm.findClass own = some m.cls) (hlink : (Cond.classLink own index C).before args s = true) {a : Addr} (hE : Exact C a T)
    {g : JFrame} (hg : g.method = m) {rest : List Value} (hstack : g.stack = .ref a :: rest) (hdg : decode c.code g.pc = .ok (.instanceof index, 3)) :
    ∃ T', Stand p l e R s m args below meth c T' locs cells slots ∧ T'.heap = T.heap ∧ ∀ target, Steps p.tables e below (T'.setTop { g with pc := g.pc + 3, stack := .int 1 :: rest }) target → Steps p.tables e below (T.setTop g) target := by
  obtain ⟨cB, h1, D, h2, h3, h4⟩ := hE
  have h1' : s.vm.findClass C = some cB := by rw [← X.warmed.alike.findClass]; exact h1
  obtain ⟨vm', X', st⟩ := X.instanceofYes hexec hown hlink h2 h4 h1' (by rw [h3]; exact Jvm.Free.SB.assignable_self _ _) hg hstack hdg
  exact ⟨_, X', rfl, st⟩
theorem cself {p : Program} {l : Launch} {e : Env} {R : Room} {s : State} {m : MethodId} {args : Array Value} {below : List Frame} {meth : Method} {c : Code} {T : State} {locs : List Loc} {cells slots : Nat} (X : Stand p l e R s m args below meth c T locs cells slots) (hexec : p.tables.exec = Jvm.exec) {own C : String} {index : Nat} (hown : s.vm.findClass own = some m.cls) (hlink : (Cond.classLink own index C).before args s = true) {a : Addr} (hE : Exact C a T)
    {g : JFrame} (hg : g.method = m) {rest : List Value} (hstack : g.stack = .ref a :: rest) (hdg : decode c.code g.pc = .ok (.checkcast index, 3)) :
    ∃ T', Stand p l e R s m args below meth c T' locs cells slots ∧ T'.heap = T.heap ∧ ∀ target, Steps p.tables e below (T'.setTop { g with pc := g.pc + 3, stack := .ref a :: rest }) target → Steps p.tables e below (T.setTop g) target := by
  obtain ⟨cB, h1, D, h2, h3, h4⟩ := hE
  have h1' : s.vm.findClass C = some cB := by rw [← X.warmed.alike.findClass]; exact h1
  obtain ⟨vm', X', st⟩ := X.checkcastYes hexec hown hlink h2 h4 h1' (by rw [h3]; exact Jvm.Free.SB.assignable_self _ _) hg hstack hdg
  exact ⟨_, X', rfl, fun t h => st t (by rw [← hstack] at h; exact h)⟩
namespace SEq
def yN : MethodName := ⟨"java/lang/String", "equals", "(Ljava/lang/Object;)Z"⟩
abbrev yB : ByteArray := jdk_42_method_66_code
theorem d0 : decode yB 0 = .ok (.aload_n 0, 1) := by decide +kernel
theorem d1 : decode yB 1 = .ok (.aload_n 1, 1) := by decide +kernel
theorem d2 : decode yB 2 = .ok (.if_acmp (.ne) 5, 3) := by decide +kernel
theorem d5 : decode yB 5 = .ok (.iconst 1, 1) := by decide +kernel
theorem d6 : decode yB 6 = .ok (.ireturn, 1) := by decide +kernel
theorem d7 : decode yB 7 = .ok (.aload_n 1, 1) := by decide +kernel
theorem d8 : decode yB 8 = .ok (.instanceof 10, 3) := by decide +kernel
theorem d11 : decode yB 11 = .ok (.ifCond (.eq) 43, 3) := by decide +kernel
theorem d14 : decode yB 14 = .ok (.aload_n 1, 1) := by decide +kernel
theorem d15 : decode yB 15 = .ok (.checkcast 10, 3) := by decide +kernel
theorem d18 : decode yB 18 = .ok (.astore_n 2, 1) := by decide +kernel
theorem d19 : decode yB 19 = .ok (.getstatic 38, 3) := by decide +kernel
theorem d22 : decode yB 22 = .ok (.ifCond (.eq) 14, 3) := by decide +kernel
theorem d25 : decode yB 25 = .ok (.aload_n 0, 1) := by decide +kernel
theorem d26 : decode yB 26 = .ok (.getfield 15, 3) := by decide +kernel
theorem d29 : decode yB 29 = .ok (.aload_n 2, 1) := by decide +kernel
theorem d30 : decode yB 30 = .ok (.getfield 15, 3) := by decide +kernel
theorem d33 : decode yB 33 = .ok (.if_icmp (.ne) 21, 3) := by decide +kernel
theorem d36 : decode yB 36 = .ok (.aload_n 0, 1) := by decide +kernel
theorem d37 : decode yB 37 = .ok (.getfield 9, 3) := by decide +kernel
theorem d40 : decode yB 40 = .ok (.aload_n 2, 1) := by decide +kernel
theorem d41 : decode yB 41 = .ok (.getfield 9, 3) := by decide +kernel
theorem d44 : decode yB 44 = .ok (.invokestatic 541, 3) := by decide +kernel
theorem d47 : decode yB 47 = .ok (.ifCond (.eq) 7, 3) := by decide +kernel
theorem d50 : decode yB 50 = .ok (.iconst 1, 1) := by decide +kernel
theorem d51 : decode yB 51 = .ok (.goto 4, 3) := by decide +kernel
theorem d54 : decode yB 54 = .ok (.iconst 0, 1) := by decide +kernel
theorem d55 : decode yB 55 = .ok (.ireturn, 1) := by decide +kernel
def site : List Cond := [.classLink "java/lang/String" 10 "java/lang/String", .fieldLink "java/lang/String" 38 "java/lang/String" "COMPACT_STRINGS" "Z", .fieldLink "java/lang/String" 15 "java/lang/String" "coder" "B", .fieldLink "java/lang/String" 9 "java/lang/String" "value" "[B", LEq.tab] ++ staticW "java/lang/String" 541 LEq.yN
def tab : Cond := tabOf yN yB 3 (some .boolean) site
def P (x t : Addr) (V : Cell) (cd : Int32) (n : Nat) (f : Nat → Int32) (y t' : Addr) (V' : Cell) (cd' : Int32) (k : Nat) (g : Nat → Int32) (z : Int32) (args : Array Value) (s : State) : Prop := args = #[.ref x, .ref y] ∧ Txt x t V cd n f s ∧ Txt y t' V' cd' k g s ∧ StaticIs s "java/lang/String" "COMPACT_STRINGS" "Z" (.int z) ∧ ¬ z = 0
/-- equals(Object) of two Strings: whether the texts are the same -/
theorem law (l : Launch) (x t : Addr) (V : Cell) (cd : Int32) (n : Nat) (f : Nat → Int32) (y t' : Addr) (V' : Cell) (cd' : Int32) (k : Nat) (g : Nat → Int32) (z : Int32) : Law l yN 2 1 1 14 yB 3 (some .boolean) site (P x t V cd n f y t' V' cd' k g z) (Says01 (SameT n f k g)) [] 0 0 := by
  refine Law.of_walk (plainFor_of_name (by decide +kernel)) (by decide +kernel) (by decide +kernel) (by decide) (fun _ _ h => by rw [h.1]; rfl) (fun _ U U' hal hh h => ⟨h.1, h.2.1.mv hal hh, h.2.2.1.mv hal hh, h.2.2.2.1.there hal hh, h.2.2.2.2⟩) (fun r U U' V V' h1 hal h2 h => Says01.mv r U U' V V' h1 hal h2 h) ?_
  intro p e s m args below meth c s₁ X0 hexec hbytes hml hret hlk hnm hown hh0 W hP
  obtain ⟨rfl, hx, hy, s1, hz⟩ := hP
  have c1 : Steps p.tables e below (s₁.setTop (entryFrame m #[.ref x, .ref y] 3)) (s₁.setTop (mkF m 2 #[.val (.ref x), .val (.ref y), .unset] [.ref y, .ref x])) := Steps.trans (entry rfl) (by
    show Steps p.tables e below (s₁.setTop (mkF m 0 #[.val (.ref x), .val (.ref y), .unset] [])) _
    refine XS.aloadN X0.here hexec rfl (hb hbytes d0) rfl rfl ?_
    refine XS.aloadN X0.here hexec rfl (hb hbytes d1) rfl rfl ?_
    exact Steps.refl _)
  by_cases hxy : x = y
  · have c2 : Steps p.tables e below (s₁.setTop (entryFrame m #[.ref x, .ref y] 3)) (s₁.setTop (mkF m 6 #[.val (.ref x), .val (.ref y), .unset] [.int 1])) := c1.trans (by
      refine acmpNo X0.here hexec rfl (hb hbytes d2) rfl rfl rfl (by simp [acmp, hxy]) ?_
      refine iconstV X0.here hexec rfl 1 (hb hbytes d5) (by decide) ?_
      exact Steps.refl _)
    subst hxy
    have ec : cd = cd' := by
      obtain ⟨D, fd, a1, a2, a3⟩ := hx.2.2.1
      obtain ⟨D', fd', b1, b2, b3⟩ := hy.2.2.1
      cases a1.symm.trans b1
      obtain ⟨q1, q2, q3, q4⟩ := a2.1
      obtain ⟨r1, r2, r3, r4⟩ := b2.1
      cases q4.symm.trans r4
      cases a3.symm.trans b3; rfl
    have et : t = t' := by
      obtain ⟨D, fd, a1, a2, a3⟩ := hx.2.1
      obtain ⟨D', fd', b1, b2, b3⟩ := hy.2.1
      cases a1.symm.trans b1
      obtain ⟨q1, q2, q3, q4⟩ := a2.1
      obtain ⟨r1, r2, r3, r4⟩ := b2.1
      cases q4.symm.trans r4
      cases a3.symm.trans b3; rfl
    subst ec et
    have ev : V = V' := by cases hx.2.2.2.1.1.symm.trans hy.2.2.2.1.1; rfl
    subst ev
    have hs : SameT n f k g := (Cod.eqv hx.2.2.2.2.1 hy.2.2.2.2.1 hx.2.2.2.2.2 hy.2.2.2.2.2).mp ⟨rfl, fun _ _ => rfl⟩
    exact ⟨s₁, some (.int 1), _, _, _, X0, rfl, rfl, rfl, (fun h => by cases h), ⟨1, rfl, hh0, Or.inl ⟨rfl, hs⟩⟩, fun fs hl => c2.trans (X0.ireturnOut hexec hret rfl (Or.inr (Or.inl rfl)) (hb hbytes d6) hl)⟩
  · have c2 : Steps p.tables e below (s₁.setTop (entryFrame m #[.ref x, .ref y] 3)) (s₁.setTop (mkF m 8 #[.val (.ref x), .val (.ref y), .unset] [.ref y])) := c1.trans (by
      refine acmpYes X0.here hexec rfl (pc0 := 2) rfl (hb hbytes d2) rfl rfl rfl (by simp [acmp, hxy]) (by decide) rfl ?_
      refine XS.aloadN X0.here hexec rfl (hb hbytes d7) rfl rfl ?_
      exact Steps.refl _)
    obtain ⟨T3, X3, q3, st3⟩ := cinst X0 hexec hown (wk W (.classLink "java/lang/String" 10 "java/lang/String")) (hy.mv X0.warmed.alike hh0).1 (g := (mkF m 8 #[.val (.ref x), .val (.ref y), .unset] [.ref y])) rfl (rest := []) rfl (hb hbytes d8)
    have hh3 := q3.trans hh0
    have c4 : Steps p.tables e below (s₁.setTop (entryFrame m #[.ref x, .ref y] 3)) (T3.setTop (mkF m 15 #[.val (.ref x), .val (.ref y), .unset] [.ref y])) := (c2.trans (st3 _ (Steps.refl _))).trans (by
      refine XS.ifNo X3.here hexec rfl (hb hbytes d11) rfl (i0_eq_f (by decide)) ?_
      refine XS.aloadN X3.here hexec rfl (hb hbytes d14) rfl rfl ?_
      exact Steps.refl _)
    obtain ⟨T5, X5, q5, st5⟩ := cself X3 hexec hown (wk W (.classLink "java/lang/String" 10 "java/lang/String")) (hy.mv X3.warmed.alike hh3).1 (g := (mkF m 15 #[.val (.ref x), .val (.ref y), .unset] [.ref y])) rfl (rest := []) rfl (hb hbytes d15)
    have hh5 := q5.trans hh3
    have c6 : Steps p.tables e below (s₁.setTop (entryFrame m #[.ref x, .ref y] 3)) (T5.setTop (mkF m 19 #[.val (.ref x), .val (.ref y), .val (.ref y)] [])) := (c4.trans (st5 _ (Steps.refl _))).trans (by
      refine XS.astoreN X5.here hexec rfl (hb hbytes d18) rfl rfl rfl ?_
      exact Steps.refl _)
    obtain ⟨T7, X7, q7, st7⟩ := X5.sget hexec hown (wk W (.fieldLink "java/lang/String" 38 "java/lang/String" "COMPACT_STRINGS" "Z")) s1 (fun _ _ h => by rw [hh5]; exact h) (g := (mkF m 19 #[.val (.ref x), .val (.ref y), .val (.ref y)] [])) rfl (hb hbytes d19)
    have hh7 := q7.trans hh5
    have c8 : Steps p.tables e below (s₁.setTop (entryFrame m #[.ref x, .ref y] 3)) (T7.setTop (mkF m 26 #[.val (.ref x), .val (.ref y), .val (.ref y)] [.ref x])) := (c6.trans (st7 _ (Steps.refl _))).trans (by
      refine XS.ifNo X7.here hexec rfl (hb hbytes d22) rfl (i0_eq_f hz) ?_
      refine XS.aloadN X7.here hexec rfl (hb hbytes d25) rfl rfl ?_
      exact Steps.refl _)
    obtain ⟨T9, X9, q9, st9⟩ := X7.hget hexec hown (wk W (.fieldLink "java/lang/String" 15 "java/lang/String" "coder" "B")) (hx.mv X7.warmed.alike hh7).2.2.1 (g := (mkF m 26 #[.val (.ref x), .val (.ref y), .val (.ref y)] [.ref x])) rfl (rest := []) rfl (hb hbytes d26)
    have hh9 := q9.trans hh7
    have c10 : Steps p.tables e below (s₁.setTop (entryFrame m #[.ref x, .ref y] 3)) (T9.setTop (mkF m 30 #[.val (.ref x), .val (.ref y), .val (.ref y)] [.ref y, .int cd])) := (c8.trans (st9 _ (Steps.refl _))).trans (by
      refine XS.aloadN X9.here hexec rfl (hb hbytes d29) rfl rfl ?_
      exact Steps.refl _)
    obtain ⟨T11, X11, q11, st11⟩ := X9.hget hexec hown (wk W (.fieldLink "java/lang/String" 15 "java/lang/String" "coder" "B")) (hy.mv X9.warmed.alike hh9).2.2.1 (g := (mkF m 30 #[.val (.ref x), .val (.ref y), .val (.ref y)] [.ref y, .int cd])) rfl (rest := [.int cd]) rfl (hb hbytes d30)
    have hh11 := q11.trans hh9
    have c12 : Steps p.tables e below (s₁.setTop (entryFrame m #[.ref x, .ref y] 3)) (T11.setTop (mkF m 33 #[.val (.ref x), .val (.ref y), .val (.ref y)] [.int cd', .int cd])) := c10.trans (st11 _ (Steps.refl _))
    by_cases hcd : cd = cd'
    · subst hcd
      have c13 : Steps p.tables e below (s₁.setTop (entryFrame m #[.ref x, .ref y] 3)) (T11.setTop (mkF m 37 #[.val (.ref x), .val (.ref y), .val (.ref y)] [.ref x])) := c12.trans (by
        refine XS.icmpNo X11.here hexec rfl (hb hbytes d33) rfl (ii_ne_f rfl) ?_
        refine XS.aloadN X11.here hexec rfl (hb hbytes d36) rfl rfl ?_
        exact Steps.refl _)
      obtain ⟨T14, X14, q14, st14⟩ := X11.hget hexec hown (wk W (.fieldLink "java/lang/String" 9 "java/lang/String" "value" "[B")) (hx.mv X11.warmed.alike hh11).2.1 (g := (mkF m 37 #[.val (.ref x), .val (.ref y), .val (.ref y)] [.ref x])) rfl (rest := []) rfl (hb hbytes d37)
      have hh14 := q14.trans hh11
      have c15 : Steps p.tables e below (s₁.setTop (entryFrame m #[.ref x, .ref y] 3)) (T14.setTop (mkF m 41 #[.val (.ref x), .val (.ref y), .val (.ref y)] [.ref y, .ref t])) := (c13.trans (st14 _ (Steps.refl _))).trans (by
        refine XS.aloadN X14.here hexec rfl (hb hbytes d40) rfl rfl ?_
        exact Steps.refl _)
      obtain ⟨T16, X16, q16, st16⟩ := X14.hget hexec hown (wk W (.fieldLink "java/lang/String" 9 "java/lang/String" "value" "[B")) (hy.mv X14.warmed.alike hh14).2.1 (g := (mkF m 41 #[.val (.ref x), .val (.ref y), .val (.ref y)] [.ref y, .ref t])) rfl (rest := [.ref t]) rfl (hb hbytes d41)
      have hh16 := q16.trans hh14
      have c17 : Steps p.tables e below (s₁.setTop (entryFrame m #[.ref x, .ref y] 3)) (T16.setTop (mkF m 44 #[.val (.ref x), .val (.ref y), .val (.ref y)] [.ref t', .ref t])) := c15.trans (st16 _ (Steps.refl _))
      obtain ⟨v18, T18, X18, E18, g18⟩ := X16.callS hexec (LEq.law l t V t' V') hown (wks W (staticW "java/lang/String" 541 LEq.yN)) (wk W LEq.tab) (W := 0) (Nat.le_of_ble_eq_true rfl) (Nat.le_of_ble_eq_true rfl) (Nat.le_refl _) (Nat.le_refl _) (g := (mkF m 44 #[.val (.ref x), .val (.ref y), .val (.ref y)] [.ref t', .ref t])) rfl (by rw [hml]; rfl) c17 (argsL := [.ref t, .ref t']) (rest := []) rfl rfl (by show 2 * 0 + 0 ≤ _; decide) (hb hbytes d44) (⟨rfl, hx.2.2.2.1.mv X16.warmed.alike hh16, hx.2.2.2.2.1.ty, hy.2.2.2.1.mv X16.warmed.alike hh16, hy.2.2.2.2.1.ty⟩)
      obtain ⟨v, rfl, q18, hv⟩ := E18
      have iff := Cod.eqv hx.2.2.2.2.1 hy.2.2.2.2.1 hx.2.2.2.2.2 hy.2.2.2.2.2
      rcases hv with ⟨rfl, he⟩ | ⟨rfl, he⟩
      · have c19 : Steps p.tables e below (s₁.setTop (entryFrame m #[.ref x, .ref y] 3)) (T18.setTop (mkF m 55 #[.val (.ref x), .val (.ref y), .val (.ref y)] [.int 1])) := Steps.trans g18 (by
          refine XS.ifNo X18.here hexec rfl (hb hbytes d47) rfl (i0_eq_f (by decide)) ?_
          refine iconstV X18.here hexec rfl 1 (hb hbytes d50) (by decide) ?_
          refine XS.goto X18.here hexec rfl (pc0 := 51) rfl (hb hbytes d51) (by decide) rfl ?_
          exact Steps.refl _)
        exact ⟨T18, some (.int 1), _, _, _, X18, rfl, rfl, rfl, (fun h => by cases h), ⟨1, rfl, q18.trans hh16, Or.inl ⟨rfl, iff.mp he⟩⟩, fun fs hl => c19.trans (X18.ireturnOut hexec hret rfl (Or.inr (Or.inl rfl)) (hb hbytes d55) hl)⟩
      · have c19 : Steps p.tables e below (s₁.setTop (entryFrame m #[.ref x, .ref y] 3)) (T18.setTop (mkF m 55 #[.val (.ref x), .val (.ref y), .val (.ref y)] [.int 0])) := Steps.trans g18 (by
          refine XS.ifYes X18.here hexec rfl (pc0 := 47) rfl (hb hbytes d47) rfl (i0_eq_t rfl) (by decide) rfl ?_
          refine iconstV X18.here hexec rfl 0 (hb hbytes d54) (by decide) ?_
          exact Steps.refl _)
        exact ⟨T18, some (.int 0), _, _, _, X18, rfl, rfl, rfl, (fun h => by cases h), ⟨0, rfl, q18.trans hh16, Or.inr ⟨rfl, fun q => he (iff.mpr q)⟩⟩, fun fs hl => c19.trans (X18.ireturnOut hexec hret rfl (Or.inr (Or.inl rfl)) (hb hbytes d55) hl)⟩
    · have c13 : Steps p.tables e below (s₁.setTop (entryFrame m #[.ref x, .ref y] 3)) (T11.setTop (mkF m 55 #[.val (.ref x), .val (.ref y), .val (.ref y)] [.int 0])) := c12.trans (by
        refine XS.icmpYes X11.here hexec rfl (pc0 := 33) rfl (hb hbytes d33) rfl (ii_ne_t hcd) (by decide) rfl ?_
        refine iconstV X11.here hexec rfl 0 (hb hbytes d54) (by decide) ?_
        exact Steps.refl _)
      exact ⟨T11, some (.int 0), _, _, _, X11, rfl, rfl, rfl, (fun h => by cases h), ⟨0, rfl, hh11, Or.inr ⟨rfl, Cod.dif hx.2.2.2.2.1 hy.2.2.2.2.1 hcd⟩⟩, fun fs hl => c13.trans (X11.ireturnOut hexec hret rfl (Or.inr (Or.inl rfl)) (hb hbytes d55) hl)⟩
theorem pays {l : Launch} {R : Room} {p : Program} {e : Env} {below : List Frame} {s : State} {sargs : Array Value} {len W : Nat} (x t : Addr) (V : Cell) (cd : Int32) (n : Nat) (f : Nat → Int32) (y t' : Addr) (V' : Cell) (cd' : Int32) (k : Nat) (g : Nat → Int32) (z : Int32) (htab : tab.before sargs s = true) (hfr : 2 ≤ R.frames) (hlo : W + 28 ≤ R.locals) :
    Back l R p e below s sargs yN len W (fun A₁ a₁ => A₁.cells + 0 ≤ R.cells ∧ A₁.slots + 0 ≤ R.slots ∧ P x t V cd n f y t' V' cd' k g z a₁ A₁.U) (fun A₁ _ v₁ B₁ => Says01 (SameT n f k g) v₁ A₁.U B₁.U ∧ B₁.locs = A₁.locs ++ [] ∧ B₁.cells = A₁.cells + 0 ∧ B₁.slots = A₁.slots + 0) :=
  (law l x t V cd n f y t' V' cd' k g z).pays htab hfr (by omega)
end SEq
end StrChars
namespace StrChars.Road
open Jvm Sem ClassFile Op Lib Jvm.Stand Jvm.Free Jvm.Free.XT
open Jvm.Lib.Cold (StaticIs)
/-- the words of String.equals(Object) -/
abbrev wordsEq : List Jvm.Cond := [.code SEq.yN SEq.yB 3 (some .boolean), .initialized ST, .classLink ST 10 ST, .fieldLink ST 38 ST "COMPACT_STRINGS" "Z", .fieldLink ST 15 ST "coder" "B", .fieldLink ST 9 ST "value" "[B", .methodLink ST 541 LEq.yN, .static LEq.yN, .code LEq.yN LEq.yB 3 (some .boolean), .initialized "java/lang/StringLatin1"]
theorem tabEq_of {a : Array Value} {s : State} (h : ∀ w ∈ wordsEq, w.before a s = true) : SEq.tab.before a s = true := by
  have hl : LEq.tab.before a s = true := unparts (wk h (.code LEq.yN LEq.yB 3 (some .boolean))) (wks h (.initialized LEq.yN.cls :: LEq.site))
  have q := consq hl h
  exact unparts (wk q (.code SEq.yN SEq.yB 3 (some .boolean))) (wks q (.initialized SEq.yN.cls :: SEq.site))
theorem movedEq {Z s : State} {a0 args : Array Value} (hZ : Z.Warmed39 s.vm) (hw : ∀ d ∈ wordsEq, d.before a0 Z = true) : ∀ d ∈ wordsEq, d.before args s = true := fun d hd => by
  have t : ∀ d ∈ wordsEq, (d.onTables && d.keepsFace) = true := by decide +kernel
  exact RoadKit.mv hZ (hw d hd) (t d hd)
/-- the road's facts of a String, as the laws ask it -/
theorem txt_of {Z U : State} {a0 : Array Value} {kI : Nat} (wi : (Jvm.Cond.instantiable ST kI).before a0 Z = true) (al : Z.vm.Alike U.vm) {x t : Addr} {kb : ClassId} {cs : List Int32} {cd N2 : Int32} {vs : List Value} (E : RoadKit.Exa Z U.heap x ST) (V : RoadKit.Fld Z U.heap x ST "value" "[B" (.ref t)) (C : RoadKit.Fld Z U.heap x ST "coder" "B" (.int cd)) (K : RoadKit.Arv Z U.heap t kb .byte N2 vs (.int 0)) (hc : CodA cs cd N2 vs) (hb : ∀ c ∈ cs, ¬ c < 0 ∧ ¬ (65535 : Int32) < c) (l2 : cs.length ≤ 4000) :
    ∃ A, Txt x t A cd cs.length (fun j => cs.getD j 0) U := by
  obtain ⟨A, K1, K2, K3, K4, K5, K6⟩ := K
  have hcod := hc.cod (by omega) K3 K5
  obtain ⟨D, fV, fC, hB, F1, F2, g1, g2, -, -⟩ := strObj wi al E V C
  exact ⟨A, ⟨_, hB.2.2.1, D, hB.1, rfl, by cases q : D.vm <;> first | rfl | exact absurd q (hB.2.1.2 _)⟩, Has.of hB F1 g1, Has.of hB F2 g2, ⟨K1.1, State.isArrayOf_alike al K1.2.1, K1.2.2, by rcases hcod with ⟨-, q, -⟩ | ⟨-, q, -⟩ <;> omega⟩, hcod, fun j hj => by
    have e : cs.getD j 0 = cs[j] := by simp [List.getD_eq_getElem?_getD, hj]
    show ¬ cs.getD j 0 < 0 ∧ ¬ 65535 < cs.getD j 0
    rw [e]; exact hb _ (List.getElem_mem _)⟩
theorem same_list (cs ds : List Int32) : SameT cs.length (fun j => cs.getD j 0) ds.length (fun j => ds.getD j 0) ↔ cs = ds := by
  constructor
  · rintro ⟨e, q⟩
    refine List.ext_getElem e fun j h1 h2 => ?_
    have := q j h1
    simpa [List.getD_eq_getElem?_getD, h1, h2] using this
  · rintro rfl
    exact ⟨rfl, fun _ _ => rfl⟩
/-- **equals(Object) OF TWO SUCH STRINGS**: 1 just where the chars are the same -/
theorem eqW {p : Program} {l : Launch} {e : Env} {R : Room} {s : State} {args : Array Value} {below : List Frame} {len W : Nat} {Z : State} {a0 : Array Value} {h : Heap} (hZ : Z.Warmed39 s.vm) (hw : ∀ d ∈ wordsEq, d.before a0 Z = true) {kI : Nat} (wi : (Jvm.Cond.instantiable ST kI).before a0 Z = true)
    {x t : Addr} {kb : ClassId} {cs : List Int32} {cd N2 : Int32} {vs : List Value} (E : RoadKit.Exa Z h x ST) (V : RoadKit.Fld Z h x ST "value" "[B" (.ref t)) (C : RoadKit.Fld Z h x ST "coder" "B" (.int cd)) (K : RoadKit.Arv Z h t kb .byte N2 vs (.int 0)) (hc : CodA cs cd N2 vs) (hb : ∀ c ∈ cs, ¬ c < 0 ∧ ¬ (65535 : Int32) < c) (l2 : cs.length ≤ 4000)
    {y t' : Addr} {kb' : ClassId} {ds : List Int32} {cd' N2' : Int32} {vs' : List Value} (E' : RoadKit.Exa Z h y ST) (V' : RoadKit.Fld Z h y ST "value" "[B" (.ref t')) (C' : RoadKit.Fld Z h y ST "coder" "B" (.int cd')) (K' : RoadKit.Arv Z h t' kb' .byte N2' vs' (.int 0)) (hc' : CodA ds cd' N2' vs') (hb' : ∀ c ∈ ds, ¬ c < 0 ∧ ¬ (65535 : Int32) < c) (l2' : ds.length ≤ 4000)
    {z : Int32} (S : RoadKit.Sta Z h ST "COMPACT_STRINGS" "Z" (.int z)) (hz : ¬ z = 0) (hfr : 2 ≤ R.frames) (hlo : W + 28 ≤ R.locals) :
    Back l R p e below s args (⟨"java/lang/String", "equals", "(Ljava/lang/Object;)Z"⟩ : MethodName) len W (fun P a => a = #[.ref x, .ref y] ∧ P.U.heap = h ∧ P.cells + 0 ≤ R.cells ∧ P.slots + 0 ≤ R.slots)
      (fun P _ v B => ∃ L, (((v = some (.int 1) ∧ cs = ds) ∨ (v = some (.int 0) ∧ ¬ cs = ds)) ∧ L = [] ∧ B.U.heap = h) ∧ B.locs = P.locs ++ L ∧ B.cells = P.cells + 0 ∧ B.slots = P.slots + 0) := by
  intro m meth c P g ig mk a X hg hsize hdg hW hn hp'
  obtain ⟨rfl, rfl, r1, r2⟩ := hp'
  have al : Z.vm.Alike P.U.vm := hZ.alike.trans X.warmed.alike
  obtain ⟨A, hx⟩ := txt_of wi al E V C K hc hb l2
  obtain ⟨A', hy⟩ := txt_of wi al E' V' C' K' hc' hb' l2'
  obtain ⟨v, B, X', ⟨⟨w, hv, hh, hq⟩, hl, hk, hs⟩, st⟩ := SEq.pays x t A cd cs.length (fun j => cs.getD j 0) y t' A' cd' ds.length (fun j => ds.getD j 0) z (tabEq_of (movedEq hZ hw)) hfr hlo m meth c P g ig mk _ X hg hsize hdg hW hn ⟨r1, r2, rfl, hx, hy, sta_is al S, hz⟩
  refine ⟨v, B, X', ⟨[], ⟨?_, rfl, hh⟩, hl, hk, hs⟩, st⟩
  rcases hq with ⟨rfl, q⟩ | ⟨rfl, q⟩
  · exact Or.inl ⟨hv, (same_list cs ds).mp q⟩
  · exact Or.inr ⟨hv, fun e => q ((same_list cs ds).mpr e)⟩
end StrChars.Road
namespace StrChars.Road
open Jvm Sem ClassFile Op Lib Jvm.Stand Jvm.Free Jvm.Free.XT
open Jvm.Lib.Cold (StaticIs)
/-- what backV says of its String, as the contracts of this text ask it: cs's low bytes, coder 0 -/
theorem codOf {cs : List Int32} {n : Nat} (hn : cs.length = n) (hb : ∀ c ∈ cs, ¬ 255 < c) : CodA cs 0 (Int32.ofNat n) ((cs.map lo8).map Value.int) := Or.inl ⟨rfl, by rw [hn], by simp [List.map_map, Function.comp_def], hb⟩
end StrChars.Road
end Jvm.Pilot.@@N@@
namespace Jvm.Pilot.@@N@@
open Jvm Jvm.ClassFile Sem Op Lib Jvm.Free Jvm.Stand Jvm.LawKit Jvm.RoadKit Bundle Jvm.Pilot.@@N@@.Jvm.D
abbrev SS (p : Program) (e : Env) (below : List Frame) (T : State) (g : JFrame) (t : State) : Prop := Steps p.tables e below (T.setTop g) t
abbrev vi (x : Int32) : Slot := .val (.int x)
abbrev vl (x : Int64) : Slot := .val (.long x)
abbrev vr (x : Addr) : Slot := .val (.ref x)
abbrev vd (x : UInt64) : Slot := .val (.double x)
abbrev uu : Slot := .unset
abbrev us : Slot := .second
theorem wd {a0 : Array Value} {Z : State} (hw : ∀ d ∈ tables_1, d.before a0 Z = true) (i : Nat) {d : Jvm.Cond} (h : tables_1[i]? = some d) : d.before a0 Z = true := hw _ (List.mem_of_getElem? h)
theorem own_hk {T : State} {h : Heap} {k : Nat} (e : T.heap = h) (q : k ≤ h.size) : k ≤ T.heap.size := e ▸ q
theorem own_reb {p : Program} {l : Launch} {e : Env} {R : Room} {s : State} {m : MethodId} {args : Array Value} {below : List Frame} {meth : Method} {c : Code} {T : State} {L L' : List Loc} {k k' n n' : Nat} (X : Stand p l e R s m args below meth c T L k n) (hl : L = L') (hk : k = k') (hn : n = n') : Stand p l e R s m args below meth c T L' k' n' := by
  subst hl hk hn; exact X
theorem own_szW {h h' : Heap} {a : Addr} {sl : Nat} {v : Value} {k : Nat} (W : Wr h h' a sl v) (q : k ≤ h.size) : k ≤ h'.size := by rw [W.size]; exact q
theorem own_at {T : State} {h : Heap} {a : Addr} {c : Cell} (e : T.heap = h) (q : h[a]? = some c) : T.heap[a]? = some c := e ▸ q
abbrev M0 : MethodName := ⟨"java/lang/Math", "max", "(II)I"⟩
abbrev M1 : MethodName := ⟨"java/lang/Math", "min", "(II)I"⟩
abbrev M2 : MethodName := ⟨"java/lang/String", "coder", "()B"⟩
abbrev M3 : MethodName := ⟨"java/lang/String", "length", "()I"⟩
abbrev M4 : MethodName := ⟨"java/lang/AbstractStringBuilder", "isLatin1", "()Z"⟩
abbrev M5 : MethodName := ⟨"java/lang/AbstractStringBuilder", "inflateIfNeededFor", "(Ljava/lang/String;)V"⟩
abbrev M6 : MethodName := ⟨"java/lang/AbstractStringBuilder", "<init>", "(I)V"⟩
abbrev M7 : MethodName := ⟨"java/lang/StringBuilder", "<init>", "()V"⟩
abbrev M8 : MethodName := ⟨"java/lang/AbstractStringBuilder", "getValue", "()[B"⟩
abbrev M9 : MethodName := ⟨"java/lang/AbstractStringBuilder", "length", "()I"⟩
abbrev M10 : MethodName := ⟨"java/lang/StringBuilder", "length", "()I"⟩
abbrev M11 : MethodName := ⟨"java/util/Arrays", "checkLength", "(II)V"⟩
abbrev M12 : MethodName := ⟨"java/lang/AbstractStringBuilder", "ensureCapacityInternal", "(I)V"⟩
abbrev M13 : MethodName := ⟨"java/lang/String", "getBytes", "([BIB)V"⟩
abbrev M14 : MethodName := ⟨"java/lang/AbstractStringBuilder", "putStringAt", "(ILjava/lang/String;)V"⟩
abbrev M15 : MethodName := ⟨"java/lang/AbstractStringBuilder", "append", "(Ljava/lang/String;)Ljava/lang/AbstractStringBuilder;"⟩
abbrev M16 : MethodName := ⟨"java/lang/StringBuilder", "append", "(Ljava/lang/String;)Ljava/lang/StringBuilder;"⟩
abbrev M17 : MethodName := ⟨"java/util/Arrays", "copyOfRangeByte", "([BII)[B"⟩
abbrev M18 : MethodName := ⟨"java/util/Arrays", "copyOfRange", "([BII)[B"⟩
abbrev M19 : MethodName := ⟨"java/lang/String", "<init>", "(Ljava/lang/AbstractStringBuilder;Ljava/lang/Void;)V"⟩
abbrev M20 : MethodName := ⟨"java/lang/String", "<init>", "(Ljava/lang/StringBuilder;)V"⟩
abbrev M21 : MethodName := ⟨"java/lang/StringBuilder", "toString", "()Ljava/lang/String;"⟩
abbrev M22 : MethodName := ⟨"java/lang/String", "<init>", "([CIILjava/lang/Void;)V"⟩
abbrev M23 : MethodName := ⟨"java/lang/String", "<init>", "([C)V"⟩
abbrev M24 : MethodName := ⟨"com/example/plain_hub/plainhub/HubExceptionForbiddenPinLaw", "reasonOf", "(ICCC)Ljava/lang/String;"⟩
abbrev M25 : MethodName := ⟨"com/example/plain_hub/plainhub/HubExceptionForbiddenPinLaw", "expected", "(ICCC)Ljava/lang/String;"⟩
abbrev M26 : MethodName := ⟨"java/lang/Throwable", "<init>", "(Ljava/lang/String;)V"⟩
abbrev M27 : MethodName := ⟨"java/lang/Exception", "<init>", "(Ljava/lang/String;)V"⟩
abbrev M28 : MethodName := ⟨"java/lang/RuntimeException", "<init>", "(Ljava/lang/String;)V"⟩
abbrev M29 : MethodName := ⟨"com/example/plain_hub/plainhub/HubException", "<init>", "(IILjava/lang/String;)V"⟩
abbrev M30 : MethodName := ⟨"java/lang/Throwable", "getMessage", "()Ljava/lang/String;"⟩
abbrev M31 : MethodName := ⟨"com/example/plain_hub/plainhub/HubException", "status", "()I"⟩
abbrev M32 : MethodName := ⟨"com/example/plain_hub/plainhub/HubException", "code", "()I"⟩
abbrev M33 : MethodName := ⟨"jdk/internal/util/ArraysSupport", "newLength", "(III)I"⟩
abbrev M34 : MethodName := ⟨"java/lang/AbstractStringBuilder", "newCapacity", "(I)I"⟩
abbrev M35 : MethodName := ⟨"java/util/Arrays", "copyOf", "([BI)[B"⟩
abbrev M36 : MethodName := ⟨"com/example/plain_hub/plainhub/HubException", "forbidden", "(Ljava/lang/String;)Lcom/example/plain_hub/plainhub/HubException;"⟩
abbrev M37 : MethodName := ⟨"com/example/plain_hub/plainhub/HubException", "getMessage", "()Ljava/lang/String;"⟩
abbrev M38 : MethodName := ⟨"java/lang/String", "equals", "(Ljava/lang/Object;)Z"⟩
abbrev z0 : Value := .int (0 : Int32)
abbrev vI (x : Int32) : Value := .int x
abbrev own_EL : List (String × Nat) := consts_1
theorem own_EW {Z : State} {a0 : Array Value} (hw : ∀ d ∈ tables_1, d.before a0 Z = true) : EW Z a0 own_EL := (EW.cons (wd hw 64 rfl) (by decide) (EW.cons (wd hw 18 rfl) (by decide) EW.nil))
theorem own_chr {Z : State} {EL : List (String × Nat)} {s T : State} {h0 h : Heap} (hh : s.heap = h0) (e : T.heap = h) (R : CHr Z EL s.vm h0 T.vm h) : CHr Z EL s.vm s.heap T.vm T.heap := by
  subst hh e; exact R
theorem own_safeNull {Z : State} {EL : List (String × Nat)} {vm : Vm} {h : Heap} {x : Addr} (hal : Z.vm.Alike vm) (E : Exa Z h x "java/lang/String") (F : Fld Z h x "java/lang/String" "value" "[B" .null) : Safe Z EL vm h x := fun B => by
  obtain ⟨cell, cf, k, i, f, f1, f2, f3, f4, f5, f6, f7⟩ := F
  obtain ⟨cell', k', e1, e2, e3, -, -⟩ := E
  obtain ⟨p, -, u, a, -, q, -, G, rfl | rfl⟩ := B
  · cases (show h[q.sa]? = some q.sC from G.ha).symm.trans f1
    obtain ⟨cS, ⟨S, -, -⟩, -⟩ := G
    obtain ⟨c', k1, i', g1, -⟩ := S.2.2.2.1
    obtain ⟨k2, g2⟩ := ff_back (U := Wst Z vm h) hal g1
    cases f2.symm.trans g2
    have w := S.2.2.2.2.2.2.2.1
    rw [f7] at w
    cases w
  · cases (show h[q.sd]? = some q.SA from G.hd).symm.trans e1
    obtain ⟨cS, -, -, g, -⟩ := G
    have g' : vm.findClass "[B" = some q.SA.cls := g
    rw [hal.findClass] at g'
    obtain ⟨k1, q1, q2⟩ := Vm.findClass_spec g'
    obtain ⟨k2, q3, q4⟩ := Vm.findClass_spec e2
    cases q1.symm.trans q3
    exact absurd (q2.symm.trans q4) (by decide)
theorem own_up {cs : List Int32} (h : ∀ c ∈ cs, ¬ c < 0 ∧ ¬ (255 : Int32) < c) : ∀ c ∈ cs, ¬ c < 0 ∧ ¬ (65535 : Int32) < c := fun c hc => ⟨(h c hc).1, fun q => (h c hc).2 (Int32.lt_trans (by decide) q)⟩
theorem own_eqv {v : Option Value} {cs ds : List Int32} (h : (v = some (.int 1) ∧ cs = ds) ∨ (v = some (.int 0) ∧ ¬ cs = ds)) : v = some (.int (if cs = ds then (1 : Int32) else (0 : Int32))) := by
  rcases h with ⟨rfl, h⟩ | ⟨rfl, h⟩
  · rw [if_pos h]
  · rw [if_neg h]
theorem own_conj5 {args : Array Value} {s : State} {a b c d e : Jvm.Cond} (h1 : a.before args s = true) (h2 : b.before args s = true) (h3 : c.before args s = true) (h4 : d.before args s = true) (h5 : e.before args s = true) : (Jvm.Free.Exc.conj [a, b, c, d, e]).before args s = true := conj_of (fun x hx => by
  simp only [List.mem_cons, List.not_mem_nil, or_false] at hx
  rcases hx with rfl | rfl | rfl | rfl | rfl <;> assumption)
theorem own_decl {Z : State} {a0 : Array Value} {y : MethodName} {bytes : ByteArray} {maxL : Nat} {ret : Option FieldType} (w3 : (Jvm.Cond.instanceMethod y).before a0 Z = true) (wc : (Jvm.Cond.code y bytes maxL ret).before a0 Z = true) : (Jvm.Cond.declares y).before a0 Z = true := by
  obtain ⟨mk, methM, hnamed, hmethM, hstM, habM⟩ := Cond.instanceMethod_spec w3
  obtain ⟨m2, cM, q1, -, -, -, -, -, -, hsig⟩ := Cond.code_spec hnamed wc
  cases hmethM.symm.trans q1
  simp only [Cond.before, Cond.holds, Cond.value, hnamed, hmethM, Option.bind_some, Option.map_some]
  simp [hstM, hsig]
theorem own_face {args : Array Value} {s : State} {C : String} {y z : MethodName} (w : (Jvm.Cond.selects C z z).before args s = true) (e : y.cls = z.cls) : NotFace s y := fun r0 h0 => by
  obtain ⟨c2, r2, m2, q1, q2, q3, q4, kP, hkP, hkPi⟩ := Cond.selects_spec w
  have a1 := findClass_of_methodNamed h0
  have a2 := findClass_of_methodNamed q3
  rw [e] at a1
  have a3 := Option.some.inj (a1.symm.trans a2)
  exact ⟨kP, by rw [a3]; exact hkP, hkPi⟩
theorem own_same {Z : State} {a0 : Array Value} {y : MethodName} (w3 : (Jvm.Cond.instanceMethod y).before a0 Z = true) (nf : NotFace Z y) (hy : y.cls ≠ "java/lang/invoke/MethodHandle" ∧ y.cls ≠ "java/lang/invoke/VarHandle") : (Jvm.Cond.sameMethod y.cls y.cls y.name y.desc).before a0 Z = true := by
  obtain ⟨mk, methM, hnamed, hmethM, hstM, habM⟩ := Cond.instanceMethod_spec w3
  have hf := State.methodFound?_of_named hnamed hy
  have hc := findClass_of_methodNamed hnamed
  obtain ⟨kr, hkr, hni⟩ := nf _ hnamed
  have hn2 : Z.methodNamed? ⟨y.cls, y.name, y.desc⟩ = some mk := hnamed
  simp [Cond.before, Cond.holds, Cond.value, hc, hf, hn2, hkr, hni]
/- the words on Throwable that these sheets bear: all that the library's 'throwableAtoms' asks but the row on Throwable's own 'suppressedExceptions' (here: rc's) -/
def own_xw (rc : String) : List Jvm.Cond := [.initialized tN, .superclass tN "java/lang/Object", .instanceMethod tFill, .codeSync tFill LibCode.Throwable.Fill.code 1 (some (.object tN)), .instanceMethod tFill0, .native tFill0, .instanceMethod oInit, .code oInit ⟨#[0xb1]⟩ 1 none, .methodLink tN 1 oInit, .methodLink tN 27 tFill, .methodLink tN 202 tFill0,
  .fieldLink tN 7 tN "cause" "Ljava/lang/Throwable;", .lays rc tN "cause" "Ljava/lang/Throwable;", .fieldLink tN 17 tN "stackTrace" steD, .lays rc tN "stackTrace" steD, .fieldLink tN 24 tN "suppressedExceptions" listD, .lays rc tN "suppressedExceptions" listD,
  .fieldLink tN 13 tN "UNASSIGNED_STACK" steD, .laysStatic tN "UNASSIGNED_STACK" steD, .fieldLink tN 20 tN "SUPPRESSED_SENTINEL" listD, .laysStatic tN "SUPPRESSED_SENTINEL" listD, .lays rc tN "detailMessage" "Ljava/lang/String;",
  .declares tFill, .selects rc tFill0 tFill0, .selects rc tFill tFill, .fieldLink tN 198 tN "backtrace" "Ljava/lang/Object;", .lays rc tN "backtrace" "Ljava/lang/Object;", .arrayOver (.object "java/lang/Object"), .soleField tN "backtrace", .soleField tN "depth", .lays rc tN "depth" "I"]
theorem own_xok (rc : String) : (own_xw rc).all xOk = true := rfl
theorem own_throw {args : Array Value} {s : State} {pl : Platform} {rc : String} (howns : pl.frameOwnsMonitors = true) (hfin : pl.finalization = false) (hpl : pl.magicAccessors = ({} : Platform).magicAccessors) (w : ∀ d ∈ own_xw rc, d.before args s = true) :
    ∃ T : ThrowableC, T.Links pl s ∧ s.vm.findClass tN = some T.cT ∧ s.methodNamed? tFill = some T.fill ∧ s.methodNamed? tFill0 = some T.fill0 ∧ s.fieldFound? tN "stackTrace" steD = some (T.cT, T.kT, T.i17, T.fStack) ∧ s.fieldFound? tN "UNASSIGNED_STACK" steD = some (T.cT, T.kT, T.i13, T.fUnassigned) ∧ T.fStack.type = .array (.object "java/lang/StackTraceElement") := by
  have g : ∀ (i : Nat) (d : Jvm.Cond), (own_xw rc)[i]? = some d → d.holds args s none s [] = true := fun i d h => w d (List.mem_of_getElem? h)
  obtain ⟨⟨c, j0⟩, M0, n0, m0, nat0, code0, locks0, sig0⟩ := Cond.native_spec (g 5 _ rfl)
  have hc : s.vm.findClass tN = some c := findClass_of_methodNamed n0
  obtain ⟨k, hk, hname⟩ := Vm.findClass_spec hc
  obtain ⟨_, k1, _, _, hk1, _, _, _, _, hni⟩ := Cond.superclass_spec hc (g 1 _ rfl)
  cases Option.some.inj (hk.symm.trans hk1)
  obtain ⟨jF, MF, nF, mF, atF, stF, abF, -, -⟩ := Cond.ownMethod (x := tFill) hc hk (g 2 _ rfl)
  obtain ⟨MF', cF, mF', cdF, byF, lcF, rtF, lkF, -, sgF⟩ := Cond.codeSync_spec nF (g 3 _ rfl)
  cases Option.some.inj (mF.symm.trans mF')
  obtain ⟨j0', M0', n0', m0', at0, st0, ab0, nm0, ds0⟩ := Cond.ownMethod (x := tFill0) hc hk (g 4 _ rfl)
  obtain rfl : j0 = j0' := by have := Option.some.inj (n0.symm.trans n0'); simpa using this
  cases Option.some.inj (m0.symm.trans m0')
  obtain ⟨mO, MO, nO, mmO, stO, abO⟩ := Cond.instanceMethod_spec (g 6 _ rfl)
  obtain ⟨MO', cO, mmO', cdO, byO, lcO, -, lkO, -, sgO⟩ := Cond.code_spec nO (g 7 _ rfl)
  cases Option.some.inj (mmO.symm.trans mmO')
  obtain ⟨kO, hkO, hnameO⟩ := Vm.findClass_spec (findClass_of_methodNamed nO)
  obtain ⟨nmO, dsO⟩ := name_of_methodNamed nO mmO
  obtain ⟨ci1, x1, cf, l1, r1, hcf, p1⟩ := Cond.linkedMethod hc hk nO (g 8 _ rfl) pl hpl
  obtain ⟨ci27, x27, cf', l27, r27, hcf', p27⟩ := Cond.linkedMethod hc hk nF (g 9 _ rfl) pl hpl
  cases Option.some.inj (hcf.symm.trans hcf')
  obtain ⟨ci202, x202, cf', l202, r202, hcf', p202⟩ := Cond.linkedMethod hc hk n0 (g 10 _ rfl) pl hpl
  cases Option.some.inj (hcf.symm.trans hcf')
  obtain ⟨ci7, i7, f7, k7, g7, a7, s7, z7, nm7, ty7, ff7⟩ := Cond.ownField (t := .object tN) hc hk (by decide +kernel) (g 11 _ rfl) (g 12 _ rfl) pl hpl
  obtain ⟨ci17, i17, f17, k17, g17, a17, s17, z17, nm17, ty17, ff17⟩ := Cond.ownField (t := .array (.object "java/lang/StackTraceElement")) hc hk (by decide +kernel) (g 13 _ rfl) (g 14 _ rfl) pl hpl
  obtain ⟨ci24, i24, f24, k24, g24, a24, s24, z24, nm24, ty24, ff24⟩ := Cond.ownField (t := .object "java/util/List") hc hk (by decide +kernel) (g 15 _ rfl) (g 16 _ rfl) pl hpl
  obtain ⟨ci13, i13, f13, aS, cS, k13, g13, a13, s13, -, -, sta, hcS, hiS, -, -, ff13⟩ := Cond.ownStatic (t := .array (.object "java/lang/StackTraceElement")) hc hk (by decide +kernel) (g 17 _ rfl) (g 18 _ rfl) pl hpl
  obtain ⟨ci20, i20, f20, _, _, k20, g20, a20, s20, -, -, -, -, -, -, -, ff20⟩ := Cond.ownStatic (t := .object "java/util/List") hc hk (by decide +kernel) (g 19 _ rfl) (g 20 _ rfl) pl hpl
  obtain ⟨_, _, cM, kM, iM, fM, _, _, ffM, sM, zM, _⟩ := Cond.lays_spec (g 21 _ rfl)
  have apart : f17.slot ≠ f24.slot := Cond.lays_apart (g 14 _ rfl) (g 16 _ rfl) ff17 ff24 (by rw [nm17, nm24]; decide)
  have pF : MF.sig.parameters = [] := by
    have : (parseMethodDescriptor tFill.desc).map (·.parameters) = some [] := by decide +kernel
    rw [sgF] at this; simpa using this
  have p0 : M0.sig.parameters = [.int] := by
    have : (parseMethodDescriptor tFill0.desc).map (·.parameters) = some [.int] := by decide +kernel
    rw [sig0] at this; simpa using this
  have pO : MO.sig.parameters = [] := by
    have : (parseMethodDescriptor oInit.desc).map (·.parameters) = some [] := by decide +kernel
    rw [sgO] at this; simpa using this
  exact ⟨{ cT := c, kT := k, cO := c, aS := aS, fillIdx := jF, fill0Idx := j0, initSIdx := jF, obj := mO, kObj := kO, methFill := MF, methFill0 := M0, methInitS := MF, methObj := MO, codeFill := cF, codeInitS := cF, codeObj := cO, fBack := f7, fDepth := f7, fStack := f17, fCause := f7, fSupp := f24, fMsg := fM, fUnassigned := f13, fSentinel := f20, cfT := cf, ci1 := ci1, n1 := x1, ci27 := ci27, n27 := x27, ci202 := ci202, n202 := x202, ci7 := ci7, i7 := i7, ci13 := ci13, i13 := i13, ci17 := ci17, i17 := i17, ci20 := ci20, i20 := i20, ci24 := ci24, i24 := i24 }, { owns := howns, noFinalization := hfin, cls := hk, name := hname, boot := Vm.findClass_boot hc hk, notInterface := hni, initialized := Cond.initialized_spec hc hk (g 0 _ rfl), statics := sta, fillAt := atF, fillCode := cdF, fillBytes := byF, fillLocals := lcF, fillLocks := lkF, fillStatic := stF, fillAbstract := abF, fillReturns := rtF, fillParams := pF, fill0At := at0, fill0Name := nm0, fill0Desc := ds0, fill0Params := p0, fill0Static := st0, fill0Native := nat0, fill0Code := code0, fill0Locks := locks0, fill0Abstract := ab0, stackInstance := s17, stackNotFinal := z17, unassignedStatic := s13, objClass := hkO, objClassName := hnameO, objMethod := mmO, objName := nmO, objStatic := stO, objAbstract := abO, objFound := by rw [dsO]; exact lookupSpecial_of_named nO mmO stO, objParams := by rw [pO]; rfl, objCode := cdO, objBytes := byO, objLocks := lkO, causeInstance := s7, causeNotFinal := z7, sentinelStatic := s20, suppInstance := s24, suppNotFinal := z24, msgInstance := sM, msgNotFinal := zM, stackApartSupp := apart, file := hcf, mlink1 := l1, mright1 := r1, pool1 := p1, mlink27 := l27, mright27 := r27, pool27 := p27, mlink202 := l202, mright202 := r202, pool202 := p202, link7 := k7, right7 := g7, at7 := a7, link13 := k13, right13 := g13, at13 := a13, link17 := k17, right17 := g17, at17 := a17, link20 := k20, right20 := g20, at20 := a20, link24 := k24, right24 := g24, at24 := a24 }, hc, nF, n0, ff17, ff13, ty17⟩
theorem own_nO {n : String} {v : Value} (h : v.isRef = true) : narrow (.object n) v = v := by cases v <;> first | rfl | cases h
theorem own_nA {t : FieldType} {v : Value} (h : v.isRef = true) : narrow (.array t) v = v := by cases v <;> first | rfl | cases h
theorem own_fO {n : String} {v : Value} (h : v.isRef = true) : fits (.object n) v = true := by cases v <;> first | rfl | cases h
theorem own_fA {t : FieldType} {v : Value} (h : v.isRef = true) : fits (.array t) v = true := by cases v <;> first | rfl | cases h
theorem own_frsix {Z : State} {a : Addr} {n0 : Nat} {L : List Loc} (h : ∀ x ∈ L, x ∈ sixLocs Z a) (q : n0 ≤ a) : Fr n0 L := fun y hy => by
  obtain ⟨nd, -, rfl⟩ := List.mem_map.mp (h y hy); exact q
theorem own_kp {p : Program} {l : Launch} {e : Env} {R : Room} {s : State} {m : MethodId} {args : Array Value} {below : List Frame} {meth : Method} {c : Code} {T : State} {locs : List Loc} {cells slots : Nat} {Z : State} {a : Addr} (X : Stand p l e R s m args below meth c T locs cells slots) (h : ∀ x ∈ locs, x ∈ sixLocs Z a) : Kp Z s.heap T.heap a := by
  have K : ∀ y cy, s.heap[y]? = some cy → ∃ c', T.heap[y]? = some c' ∧ c' = { cy with slots := c'.slots } ∧ c'.slots.size = cy.slots.size ∧ ∀ i, (⟨y, i⟩ : Loc) ∉ locs → c'.slots[i]? = cy.slots[i]? := fun y cy hy => X.same.2.2.2.2.2 y cy hy
  refine ⟨X.same.2.1, fun y cy hy => ?_⟩
  obtain ⟨c', q1, q2, q3, q4⟩ := K y cy hy
  refine ⟨c', q1, q2, q3, fun ne => ?_, fun i hi => q4 i fun hm => ?_⟩
  · have : c'.slots = cy.slots := Array.ext_getElem? fun i => q4 i fun hm => by
      obtain ⟨nd, -, e⟩ := List.mem_map.mp (h _ hm)
      exact ne (congrArg Loc.base e).symm
    rw [q2, this]
  · obtain ⟨nd, h1, e⟩ := List.mem_map.mp (h _ hm)
    exact hi nd h1 (congrArg Loc.slot e)
theorem own_fill {p : Program} {l : Launch} {e : Env} {R : Room} {s : State} {m : MethodId} {args : Array Value} {below : List Frame} {meth : Method} {c : Code} {T : State} {locs : List Loc} {cells slots : Nat} {Z : State} {a0 : Array Value} {h : Heap} {rc : String} {kk : Nat} {a : Addr} {u : Value} (X : Stand p l e R s m args below meth c T locs cells slots) (hx : p.tables.exec = Jvm.exec) (hl : l.stackTraces = true) (hZ : Z.Warmed39 s.vm)
    (hown : s.vm.findClass tN = some m.cls) (w : ∀ d ∈ own_xw rc, d.before a0 Z = true) (wi : (Jvm.Cond.instantiable rc kk).before a0 Z = true) (hT0 : ThS Z s.heap) (hTK : s.vm.MethodsKnown) (hBelow : s.vm.FramesKnown below) (eT : T.heap = h) (E : Exa Z h a rc) (N : Unt h a) (hu : u.isRef = true) (FS : Fld Z h a tN "stackTrace" steD u) (SU : Sta Z h tN "UNASSIGNED_STACK" steD u)
    (FB : Fld Z h a tN "backtrace" "Ljava/lang/Object;" .null) (FM : Fld Z h a tN "detailMessage" "Ljava/lang/String;" .null) (hlocs : ∀ x ∈ locs, x ∈ sixLocs Z a) {g : JFrame} (hg : g.method = m) (hsize : g.locals.size = c.maxLocals) {rest : List Value} (hs : g.stack = .ref a :: rest) (hd : decode c.code g.pc = .ok (.invokevirtual 27, 3))
    (hf : 2 < R.frames) (hlo : 2 * g.monitorRoom + (rest.map fun v => v.category).sum + 42 ≤ R.locals) (hc : cells + 1 ≤ R.cells) (hsl : slots + 2752 ≤ R.slots) :
    ∃ (T' : State) (h' : Heap) (locs' : List Loc), Stand p l e R s m args below meth c T' locs' (cells + 1) (slots + 2752) ∧ T'.heap = h' ∧ (∀ x ∈ locs', x ∈ sixLocs Z a) ∧ Kp Z s.heap h' a ∧ Fld Z h' a tN "detailMessage" "Ljava/lang/String;" .null ∧
      ∀ target, Steps p.tables e below (T'.setTop { g with pc := g.pc + 3, stack := .ref a :: rest }) target → Steps p.tables e below (T.setTop g) target := by
  have htr : e.platform.stackTraces = true := by rw [X.admits.platform]; exact hl
  have howns : e.platform.frameOwnsMonitors = true := by rw [X.admits.platform]
  have hfin : e.platform.finalization = false := by rw [X.admits.platform]
  have hpl : e.platform.magicAccessors = ({} : Platform).magicAccessors := by rw [X.admits.platform]
  have ws : ∀ d ∈ own_xw rc, d.before args s = true := fun d hd => mvX hT0 hZ (List.all_eq_true.mp (own_xok rc) d hd) (w d hd)
  obtain ⟨Tc, L, Yc, YF, YF0, YS, YU, tyS⟩ := own_throw howns hfin hpl ws
  have gs : ∀ (i : Nat) (d : Jvm.Cond), (own_xw rc)[i]? = some d → d.before args s = true := fun i d h => ws d (List.mem_of_getElem? h)
  have hal : Z.vm.Alike s.vm := hZ.alike
  obtain ⟨cell, kc, h1, h2, h3, h4, h5⟩ := E
  obtain ⟨c2, n1, n2, n3⟩ := N
  cases h1.symm.trans n1
  obtain ⟨c4, k2, i1, i2, i3, -⟩ := Cond.instantiable_spec wi
  cases h2.symm.trans i1
  cases h3.symm.trans i2
  have hfound : s.vm.findClass rc = some cell.cls := by rw [hal.findClass]; exact h2
  obtain ⟨kX, hk, ekX⟩ := hal.2.2 _ _ h3
  have hord : kX.kind = .ordinary := by rw [ekX]; exact i3
  have hsz : cell.slots.size = kX.instanceTypes.size := by rw [ekX]; exact h5 i3
  have hsel0 : selectMethod e.platform s.vm cell.cls Tc.fill0 = .method Tc.fill0 := by
    obtain ⟨c2, r2, m2, q1, q2, q3, q4, -⟩ := Cond.selects_spec (gs 23 _ rfl)
    cases Option.some.inj (q1.symm.trans hfound)
    cases Option.some.inj (q2.symm.trans (State.methodFound?_of_named YF0 (by decide)))
    cases Option.some.inj (q3.symm.trans YF0)
    rw [Launch.admits_selectMethod X.admits]; exact q4
  obtain ⟨cf, i, k, f, st, cellS, s1, s2, s3, s4, s5, s6, s7⟩ := SU
  obtain ⟨k4, y1, y2⟩ := State.fieldFound?_setVm (s := Z) hal s1
  cases (show s.fieldFound? tN "UNASSIGNED_STACK" steD = _ from y1).symm.trans YU
  have est : st = Tc.aS := by
    have := L.statics
    rw [y2] at this
    exact Option.some.inj (s4.symm.trans this)
  subst est
  have hneS : Tc.aS ≠ a := fun q => by
    rw [q, h1] at s5
    rw [← Option.some.inj s5, h4] at s6
    cases s6
  obtain ⟨cs1, cfS, kS, iS, fS, b1, b2, b3, b4, b5, b6, b7⟩ := FS
  cases h1.symm.trans b1
  obtain ⟨k5, y3, y4⟩ := State.fieldFound?_setVm (s := Z) hal b2
  cases (show s.fieldFound? tN "stackTrace" steD = _ from y3).symm.trans YS
  obtain ⟨ci198, i198, fB, hk198, hg198, ha198, hsB, -, hnB, htB, hffB⟩ := Cond.ownField (t := .object "java/lang/Object") Yc L.cls (by decide +kernel) (gs 25 _ rfl) (gs 26 _ rfl) e.platform hpl
  obtain ⟨cs2, cfB, kB, iB, fB', d1, d2, d3, d4, d5, d6, d7⟩ := FB
  cases h1.symm.trans d1
  obtain ⟨k6, y5, y6⟩ := State.fieldFound?_setVm (s := Z) hal d2
  cases (show s.fieldFound? tN "backtrace" "Ljava/lang/Object;" = _ from y5).symm.trans hffB
  obtain ⟨cD1, kD1, cD, kD, iD, fD, -, -, hffD, hstD, -, -, -, -⟩ := Cond.lays_spec (gs 30 _ rfl)
  cases Option.some.inj ((Cond.lays_declared (gs 30 _ rfl) hffD).symm.trans Yc)
  obtain ⟨hkD, hatD⟩ := State.fieldFound?_spec hffD
  cases Option.some.inj (hkD.symm.trans L.cls)
  obtain ⟨hnD, htD⟩ := State.fieldFound?_type hffD (t := .int) (by decide +kernel)
  have hfb := Cond.soleField_find Yc L.cls (gs 28 _ rfl) ha198 hnB hsB
  have hfd := Cond.soleField_find Yc L.cls (gs 29 _ rfl) hatD hnD hstD
  obtain ⟨comp, cO, kO, -, -, hkO, hkindO, hO⟩ := Cond.arrayOver_spec (gs 27 _ rfl)
  obtain ⟨tyT, -⟩ := Cond.laysAt hfound hk YS (gs 14 _ rfl)
  obtain ⟨tyB, -⟩ := Cond.laysAt hfound hk hffB (gs 26 _ rfl)
  obtain ⟨tyD, -⟩ := Cond.laysAt hfound hk hffD (gs 30 _ rfl)
  have tk : ∀ {f : Field} {v : Value}, kX.instanceTypes[f.slot]? = some f.type → fits f.type v = true → Jvm.Takes s cell f v := fun {f v} q1 q2 => by
    obtain ⟨r1, r2⟩ := Takes.of_laid (v := v) hk hord q1 q2
    exact ⟨by rw [hsz]; simpa using r1, by rw [n2]; exact r2⟩
  obtain ⟨cs3, cfM, kM, iM, fM, e1, e2, e3, e4, e5, e6, e7⟩ := FM
  cases h1.symm.trans e1
  obtain ⟨k7, y7, y8⟩ := State.fieldFound?_setVm (s := Z) hal e2
  have y7' : s.fieldFound? tN "detailMessage" "Ljava/lang/String;" = some (cfM, k7, iM, fM) := y7
  have nmM := (State.fieldFound?_type y7' (t := .object "java/lang/String") (by decide +kernel)).1
  have nmS := (State.fieldFound?_type YS (t := .array (.object "java/lang/StackTraceElement")) (by decide +kernel)).1
  have mS : fM.slot ≠ Tc.fStack.slot := Cond.lays_apart (gs 21 _ rfl) (gs 14 _ rfl) y7' YS (by rw [nmM, nmS]; decide)
  have mB : fM.slot ≠ fB.slot := Cond.lays_apart (gs 21 _ rfl) (gs 26 _ rfl) y7' hffB (by rw [nmM, hnB]; decide)
  have mD : fM.slot ≠ fD.slot := Cond.lays_apart (gs 21 _ rfl) (gs 30 _ rfl) y7' hffD (by rw [nmM, hnD]; decide)
  have hSE := gs 24 _ rfl
  obtain ⟨v6, vm6, ⟨T6, L6, c6, n6⟩, hW6, X6, ⟨hv6, C6, n, hn, hD6, q1, q2, q3, q4, hL6, hc6, hn6⟩, come⟩ := X.virtualBack hx (own := tN) (C := rc) (index := 27) (y := tFill) (z := tFill) hown (gs 9 _ rfl) (gs 22 _ rfl) (notFace_of_selects hSE) hSE (gs 2 _ rfl) (by decide)
    (Jvm.Free.Exc.fillPaysAny (l := l) (W := 2 * g.monitorRoom + (rest.map fun v => v.category).sum) hx htr Tc L YF (u0 := ⟨u, hu⟩) (self := a) (cell := cell) (cellS := cellS) (fun _ => by rw [n2]; simp) (by rw [n2]; simp) (by rw [n3]) (by rw [n3]) b7 hsel0 hneS (fun q => by rw [q] at s6; cases s6) s7 (tk tyT (by rw [tyS]; exact own_fA hu))
      ⟨{ ci198 := ci198, i198 := i198, fBack := fB }, ⟨hk198, hg198, ha198, hsB⟩, d7⟩ hTK hBelow Yc hO hkO hkindO hfb hfd (fun x => tk tyB (by rw [htB]; rfl)) (fun x => tk tyD (by rw [htD]; rfl)) hf hlo)
    (b := a) (cB := cell.cls) hfound ⟨cell, by rw [eT]; exact h1, rfl, h4⟩ (g := g) hg hsize (Steps.refl _) (argsL := []) (rest := rest)
    (fun sig h => by rw [show parseMethodDescriptor tFill.desc = some ⟨[], some (.object tN)⟩ from by decide +kernel] at h; rw [← Option.some.inj h]; rfl) hs (Nat.le_refl _) hd
    (fun vmx hWx => ⟨rfl, hc, hsl, by show T.heap[a]? = _; rw [eT]; exact h1, by show T.heap[Tc.aS]? = _; rw [eT]; exact s5⟩)
  dsimp only [Pt.U, Pt.locs, Pt.cells, Pt.slots] at X6 hD6 hL6 hc6 hn6 come
  subst hv6 hL6 hc6 hn6
  have hlocs' : ∀ x ∈ locs ++ [(⟨a, fB.slot⟩ : Loc), ⟨a, fD.slot⟩, ⟨a, Tc.fStack.slot⟩], x ∈ sixLocs Z a := fun x hx => by
    rcases List.mem_append.mp hx with hx | hx
    · exact hlocs x hx
    · have zB : Jvm.RoadKit.slotOf Z tN "backtrace" "Ljava/lang/Object;" = fB.slot := by simp [Jvm.RoadKit.slotOf, d2]
      have zS : Jvm.RoadKit.slotOf Z tN "stackTrace" steD = Tc.fStack.slot := by simp [Jvm.RoadKit.slotOf, b2]
      obtain ⟨c9, k9, i9, z9⟩ := Jvm.Free.BdW.found_ride (U := s) (U' := Z) hal.symm ⟨_, _, _, hffD⟩
      have zD : Jvm.RoadKit.slotOf Z tN "depth" "I" = fD.slot := by simp [Jvm.RoadKit.slotOf, z9]
      simp only [List.mem_cons, List.not_mem_nil, or_false] at hx
      rcases hx with rfl | rfl | rfl
      · rw [← zB]; exact List.mem_map.mpr ⟨("backtrace", "Ljava/lang/Object;"), by simp [Jvm.Free.Exc.sixNames], rfl⟩
      · rw [← zD]; exact List.mem_map.mpr ⟨("depth", "I"), by simp [Jvm.Free.Exc.sixNames], rfl⟩
      · rw [← zS]; exact List.mem_map.mpr ⟨("stackTrace", steD), by simp [Jvm.Free.Exc.sixNames], rfl⟩
  exact ⟨T6, T6.heap, _, X6.more (Nat.le_refl _) (Nat.add_le_add_left hn _), rfl, hlocs', own_kp X6 hlocs', ⟨C6, cfM, kM, iM, fM, hD6, e2, e3, by rw [q2]; exact e4, by rw [q2]; exact e5, by rw [q1]; exact e6, by rw [q4 _ mB mD mS]; exact e7⟩, fun target k => come.trans k⟩
theorem own_six {Z : State} {a0 : Array Value} {rc O n d : String} {ty : FieldType} (w : ∀ x ∈ own_xw rc, x.before a0 Z = true) (Lf : Laid Z a0 rc O n d) (ht : parseFieldDescriptor d = some ty) (hn : ∀ nd ∈ Jvm.Free.Exc.sixNames, nd.1 ≠ n) : ∀ nd ∈ Jvm.Free.Exc.sixNames, Jvm.RoadKit.slotOf Z tN nd.1 nd.2 ≠ Jvm.RoadKit.slotOf Z O n d := fun nd hm => by
  have q := hn nd hm
  have g : ∀ (i : Nat) (d : Jvm.Cond), (own_xw rc)[i]? = some d → d.before a0 Z = true := fun i d h => w d (List.mem_of_getElem? h)
  simp only [Jvm.Free.Exc.sixNames, List.mem_cons, List.not_mem_nil, or_false] at hm
  rcases hm with rfl | rfl | rfl | rfl | rfl | rfl
  · exact slot_ne (Or.inl (g 12 _ rfl)) Lf q (t := .object tN) (by decide) ht
  · exact slot_ne (Or.inl (g 14 _ rfl)) Lf q (t := .array (.object "java/lang/StackTraceElement")) (by decide) ht
  · exact slot_ne (Or.inl (g 16 _ rfl)) Lf q (t := .object "java/util/List") (by decide) ht
  · exact slot_ne (Or.inl (g 26 _ rfl)) Lf q (t := .object "java/lang/Object") (by decide) ht
  · exact slot_ne (Or.inl (g 30 _ rfl)) Lf q (t := .int) (by decide) ht
  · exact slot_ne (Or.inl (g 21 _ rfl)) Lf q (t := .object "java/lang/String") (by decide) ht
theorem own_l3 {Z : State} {a : Addr} : ∀ x ∈ ([] ++ [(⟨a, Jvm.RoadKit.slotOf Z tN "cause" "Ljava/lang/Throwable;"⟩ : Loc)] ++ [⟨a, Jvm.RoadKit.slotOf Z tN "stackTrace" steD⟩] ++ [⟨a, Jvm.RoadKit.slotOf Z tN "suppressedExceptions" listD⟩]), x ∈ sixLocs Z a := fun x hx => by
  simp only [List.nil_append, List.cons_append, List.mem_cons, List.not_mem_nil, or_false] at hx
  rcases hx with rfl | rfl | rfl
  · exact List.mem_map.mpr ⟨("cause", "Ljava/lang/Throwable;"), by simp [Jvm.Free.Exc.sixNames], rfl⟩
  · exact List.mem_map.mpr ⟨("stackTrace", steD), by simp [Jvm.Free.Exc.sixNames], rfl⟩
  · exact List.mem_map.mpr ⟨("suppressedExceptions", listD), by simp [Jvm.Free.Exc.sixNames], rfl⟩
theorem own_nb0 : nar .byte (0 : Int32) = 0 := by decide
theorem own_nz1 : nar .boolean (1 : Int32) = 1 := by decide
theorem own_shr0 (z : Int32) : (z >>> ((0 : Int32) &&& 31)) = z := by
  have e : ((0 : Int32) &&& 31) = 0 := by decide
  rw [e]; exact Int32.shiftRight_zero
theorem own_len3 {vd us : List Value} {a b n : Nat} (h : vd.length = n) (hu : us.length = b) (hab : a + b ≤ n) : (List.take a vd ++ us ++ List.drop (a + b) vd).length = n := by
  simp only [List.length_append, List.length_take, List.length_drop]; omega
def own_grow (cap new : Nat) (vv : List Value) : List Value := ((List.range cap).map fun i => List.getD vv i (.int (0 : Int32))) ++ List.replicate (new - cap) (.int (0 : Int32))
def own_cut (n : Nat) (vv : List Value) : List Value := (List.range n).map fun i => List.getD vv (0 + i) (.int (0 : Int32))
def own_put (idx ln : Nat) (vd vt : List Value) : List Value := List.take idx vd ++ ((List.range ln).map fun i => List.getD vt (0 + i) (.int (0 : Int32))) ++ List.drop (idx + ln) vd
theorem own_padcut {n : Nat} {vv zs : List Value} (hz : ∀ i, zs.getD i (.int (0 : Int32)) = (.int (0 : Int32))) : ∀ i, (own_cut n vv).getD i (.int (0 : Int32)) = (List.take 0 zs ++ ((List.range n).map fun i => List.getD vv (0 + i) (.int (0 : Int32))) ++ List.drop (0 + n) zs).getD i (.int (0 : Int32)) := by
  intro i
  have hz' := hz
  simp only [List.getD_eq_getElem?_getD] at hz'
  rw [List.take_zero, List.nil_append]
  show (own_cut n vv).getD i (.int (0 : Int32)) = (own_cut n vv ++ List.drop (0 + n) zs).getD i (.int (0 : Int32))
  have hl : (own_cut n vv).length = n := by simp [own_cut]
  rw [List.getD_eq_getElem?_getD, List.getD_eq_getElem?_getD]
  by_cases h : i < n
  · rw [List.getElem?_append_left (by omega)]
  · rw [List.getElem?_append_right (by omega), List.getElem?_drop, hz', List.getElem?_eq_none (by omega)]; rfl
theorem own_cutlen (n : Nat) (vv : List Value) : (own_cut n vv).length = n := by simp [own_cut]
theorem own_putlen {vd vt : List Value} {a b n : Nat} (h : vd.length = n) (hab : a + b ≤ n) : (own_put a b vd vt).length = n := by
  simp only [own_put, List.length_append, List.length_take, List.length_drop, List.length_map, List.length_range]; omega
theorem own_zr (n : Nat) : ∀ i, (List.replicate n (Value.int (0 : Int32))).getD i (.int (0 : Int32)) = (.int (0 : Int32)) := by
  intro i; rw [List.getD_eq_getElem?_getD, List.getElem?_replicate]; split <;> rfl
theorem own_sub0 (x : Int32) : (x - (0 : Int32)) = x := Int32.sub_zero x
theorem own_shl0 (z : Int32) : (z <<< ((0 : Int32) &&& 31)) = z := by
  have e : ((0 : Int32) &&& 31) = 0 := by decide
  rw [e]; exact Int32.shiftLeft_zero
theorem own_neq {a b : Int32} (h : a < b) : ¬ a = b := fun e => by rw [e] at h; exact Int32.lt_irrefl h
theorem own_rn {x : Int32} (h : ¬ x < 0 ∧ ¬ (255 : Int32) < x) : 0 ≤ x.toInt ∧ x.toInt ≤ 255 := by
  have e0 : ((0 : Int32)).toInt = 0 := by decide
  have e1 : ((255 : Int32)).toInt = 255 := by decide
  rw [Int32.lt_iff_toInt_lt, Int32.lt_iff_toInt_lt] at h
  omega
theorem own_nr {x : Int32} (h0 : 0 ≤ x.toInt) (h1 : x.toInt ≤ 255) : ¬ x < 0 ∧ ¬ (255 : Int32) < x := by
  have e0 : ((0 : Int32)).toInt = 0 := by decide
  have e1 : ((255 : Int32)).toInt = 255 := by decide
  rw [Int32.lt_iff_toInt_lt, Int32.lt_iff_toInt_lt]
  omega
theorem own_ne {x : Int32} (h : ¬ x < 0 ∧ ¬ (255 : Int32) < x) : nar .char x = x := by
  have q := own_rn h
  have r := c_i2c x
  apply Int32.toInt_inj.mp
  show (x.toUInt32.toUInt16.toUInt32.toInt32).toInt = x.toInt
  omega
theorem own_all0  : ∀ q ∈ ([73, 110, 115, 117, 102, 102, 105, 99, 105, 101, 110, 116, 32, 112, 101, 114, 109, 105, 115, 115, 105, 111, 110, 115, 58, 32] : List Int32), ¬ q < 0 ∧ ¬ (255 : Int32) < q := by
  intro q hq
  simp only [List.mem_cons, List.not_mem_nil, or_false] at hq
  rcases hq with rfl | rfl | rfl | rfl | rfl | rfl | rfl | rfl | rfl | rfl | rfl | rfl | rfl | rfl | rfl | rfl | rfl | rfl | rfl | rfl | rfl | rfl | rfl | rfl | rfl | rfl
  · exact ⟨by decide, by decide⟩
  · exact ⟨by decide, by decide⟩
  · exact ⟨by decide, by decide⟩
  · exact ⟨by decide, by decide⟩
  · exact ⟨by decide, by decide⟩
  · exact ⟨by decide, by decide⟩
  · exact ⟨by decide, by decide⟩
  · exact ⟨by decide, by decide⟩
  · exact ⟨by decide, by decide⟩
  · exact ⟨by decide, by decide⟩
  · exact ⟨by decide, by decide⟩
  · exact ⟨by decide, by decide⟩
  · exact ⟨by decide, by decide⟩
  · exact ⟨by decide, by decide⟩
  · exact ⟨by decide, by decide⟩
  · exact ⟨by decide, by decide⟩
  · exact ⟨by decide, by decide⟩
  · exact ⟨by decide, by decide⟩
  · exact ⟨by decide, by decide⟩
  · exact ⟨by decide, by decide⟩
  · exact ⟨by decide, by decide⟩
  · exact ⟨by decide, by decide⟩
  · exact ⟨by decide, by decide⟩
  · exact ⟨by decide, by decide⟩
  · exact ⟨by decide, by decide⟩
  · exact ⟨by decide, by decide⟩
theorem own_all1 {a0 : Int32} (h0 : ¬ a0 < 0 ∧ ¬ (255 : Int32) < a0) : ∀ q ∈ ([73, 110, 115, 117, 102, 102, 105, 99, 105, 101, 110, 116, 32, 112, 101, 114, 109, 105, 115, 115, 105, 111, 110, 115, 58, 32, a0] : List Int32), ¬ q < 0 ∧ ¬ (255 : Int32) < q := by
  intro q hq
  simp only [List.mem_cons, List.not_mem_nil, or_false] at hq
  rcases hq with rfl | rfl | rfl | rfl | rfl | rfl | rfl | rfl | rfl | rfl | rfl | rfl | rfl | rfl | rfl | rfl | rfl | rfl | rfl | rfl | rfl | rfl | rfl | rfl | rfl | rfl | rfl
  · exact ⟨by decide, by decide⟩
  · exact ⟨by decide, by decide⟩
  · exact ⟨by decide, by decide⟩
  · exact ⟨by decide, by decide⟩
  · exact ⟨by decide, by decide⟩
  · exact ⟨by decide, by decide⟩
  · exact ⟨by decide, by decide⟩
  · exact ⟨by decide, by decide⟩
  · exact ⟨by decide, by decide⟩
  · exact ⟨by decide, by decide⟩
  · exact ⟨by decide, by decide⟩
  · exact ⟨by decide, by decide⟩
  · exact ⟨by decide, by decide⟩
  · exact ⟨by decide, by decide⟩
  · exact ⟨by decide, by decide⟩
  · exact ⟨by decide, by decide⟩
  · exact ⟨by decide, by decide⟩
  · exact ⟨by decide, by decide⟩
  · exact ⟨by decide, by decide⟩
  · exact ⟨by decide, by decide⟩
  · exact ⟨by decide, by decide⟩
  · exact ⟨by decide, by decide⟩
  · exact ⟨by decide, by decide⟩
  · exact ⟨by decide, by decide⟩
  · exact ⟨by decide, by decide⟩
  · exact ⟨by decide, by decide⟩
  · exact h0
theorem own_all2 {a0 a1 : Int32} (h0 : ¬ a0 < 0 ∧ ¬ (255 : Int32) < a0) (h1 : ¬ a1 < 0 ∧ ¬ (255 : Int32) < a1) : ∀ q ∈ ([73, 110, 115, 117, 102, 102, 105, 99, 105, 101, 110, 116, 32, 112, 101, 114, 109, 105, 115, 115, 105, 111, 110, 115, 58, 32, a0, a1] : List Int32), ¬ q < 0 ∧ ¬ (255 : Int32) < q := by
  intro q hq
  simp only [List.mem_cons, List.not_mem_nil, or_false] at hq
  rcases hq with rfl | rfl | rfl | rfl | rfl | rfl | rfl | rfl | rfl | rfl | rfl | rfl | rfl | rfl | rfl | rfl | rfl | rfl | rfl | rfl | rfl | rfl | rfl | rfl | rfl | rfl | rfl | rfl
  · exact ⟨by decide, by decide⟩
  · exact ⟨by decide, by decide⟩
  · exact ⟨by decide, by decide⟩
  · exact ⟨by decide, by decide⟩
  · exact ⟨by decide, by decide⟩
  · exact ⟨by decide, by decide⟩
  · exact ⟨by decide, by decide⟩
  · exact ⟨by decide, by decide⟩
  · exact ⟨by decide, by decide⟩
  · exact ⟨by decide, by decide⟩
  · exact ⟨by decide, by decide⟩
  · exact ⟨by decide, by decide⟩
  · exact ⟨by decide, by decide⟩
  · exact ⟨by decide, by decide⟩
  · exact ⟨by decide, by decide⟩
  · exact ⟨by decide, by decide⟩
  · exact ⟨by decide, by decide⟩
  · exact ⟨by decide, by decide⟩
  · exact ⟨by decide, by decide⟩
  · exact ⟨by decide, by decide⟩
  · exact ⟨by decide, by decide⟩
  · exact ⟨by decide, by decide⟩
  · exact ⟨by decide, by decide⟩
  · exact ⟨by decide, by decide⟩
  · exact ⟨by decide, by decide⟩
  · exact ⟨by decide, by decide⟩
  · exact h0
  · exact h1
theorem own_all3 {a0 a1 a2 : Int32} (h0 : ¬ a0 < 0 ∧ ¬ (255 : Int32) < a0) (h1 : ¬ a1 < 0 ∧ ¬ (255 : Int32) < a1) (h2 : ¬ a2 < 0 ∧ ¬ (255 : Int32) < a2) : ∀ q ∈ ([73, 110, 115, 117, 102, 102, 105, 99, 105, 101, 110, 116, 32, 112, 101, 114, 109, 105, 115, 115, 105, 111, 110, 115, 58, 32, a0, a1, a2] : List Int32), ¬ q < 0 ∧ ¬ (255 : Int32) < q := by
  intro q hq
  simp only [List.mem_cons, List.not_mem_nil, or_false] at hq
  rcases hq with rfl | rfl | rfl | rfl | rfl | rfl | rfl | rfl | rfl | rfl | rfl | rfl | rfl | rfl | rfl | rfl | rfl | rfl | rfl | rfl | rfl | rfl | rfl | rfl | rfl | rfl | rfl | rfl | rfl
  · exact ⟨by decide, by decide⟩
  · exact ⟨by decide, by decide⟩
  · exact ⟨by decide, by decide⟩
  · exact ⟨by decide, by decide⟩
  · exact ⟨by decide, by decide⟩
  · exact ⟨by decide, by decide⟩
  · exact ⟨by decide, by decide⟩
  · exact ⟨by decide, by decide⟩
  · exact ⟨by decide, by decide⟩
  · exact ⟨by decide, by decide⟩
  · exact ⟨by decide, by decide⟩
  · exact ⟨by decide, by decide⟩
  · exact ⟨by decide, by decide⟩
  · exact ⟨by decide, by decide⟩
  · exact ⟨by decide, by decide⟩
  · exact ⟨by decide, by decide⟩
  · exact ⟨by decide, by decide⟩
  · exact ⟨by decide, by decide⟩
  · exact ⟨by decide, by decide⟩
  · exact ⟨by decide, by decide⟩
  · exact ⟨by decide, by decide⟩
  · exact ⟨by decide, by decide⟩
  · exact ⟨by decide, by decide⟩
  · exact ⟨by decide, by decide⟩
  · exact ⟨by decide, by decide⟩
  · exact ⟨by decide, by decide⟩
  · exact h0
  · exact h1
  · exact h2
theorem ef_0 (m : MethodId) (x0 : Int32) (x1 : Int32) : entryFrame m #[(.int x0), (.int x1)] 2 = mkF m 0 #[vi x0, vi x1] [] := by first | (simp [entryFrame, mkF, argsToLocals, Value.category]; done) | rfl
theorem d19_0 : decode jdk_29_method_65_code 0 = .ok (.iload_n 0, 1) := by decide +kernel
theorem d19_1 : decode jdk_29_method_65_code 1 = .ok (.iload_n 1, 1) := by decide +kernel
theorem d19_2 : decode jdk_29_method_65_code 2 = .ok (.if_icmp .lt 7, 3) := by decide +kernel
theorem d19_9 : decode jdk_29_method_65_code 9 = .ok (.iload_n 1, 1) := by decide +kernel
theorem d19_10 : decode jdk_29_method_65_code 10 = .ok (.ireturn, 1) := by decide +kernel
theorem d19_5 : decode jdk_29_method_65_code 5 = .ok (.iload_n 0, 1) := by decide +kernel
theorem d19_6 : decode jdk_29_method_65_code 6 = .ok (.goto 4, 3) := by decide +kernel
def Q_rmMax (Z : State) (p0 : Int32) (p1 : Int32) (h0 : Heap) (n0 : Nat) (v : Option Value) (h : Heap) (L : List Loc) : Prop := (v = some (.int (if p0 < p1 then p1 else p0)) ∧ Fr n0 L ∧ h = h0)
set_option maxRecDepth 65536 in
set_option maxHeartbeats 40000000 in
theorem rmMax (l : Launch) (Z : State) (a0 : Array Value) (hw : ∀ d ∈ tables_1, d.before a0 Z = true) (ws : List Jvm.Cond) (p0 : Int32) (p1 : Int32) (h0 : Heap) (n0 : Nat) (Z0 : n0 ≤ h0.size) :
    MetFree l M0 (head1 (Jvm.Cond.code M0 jdk_29_method_65_code 2 (some .int) :: ws) ({ frames := 0, cells := 0, slots := 0, locals := 0 } : Room)) (fun a U => a = #[(.int p0), (.int p1)] ∧ Z.Warmed39 U.vm ∧ U.heap = h0) (fun _ _ _ _ _ => True) (fun _ U o U' => ∃ v L, o = .returned v ∧ Q_rmMax Z p0 p1 h0 n0 v U'.heap L ∧ FrameEnd U o U' L ({ frames := 0, cells := 0, slots := 0, locals := 0 } : Room).cells ({ frames := 0, cells := 0, slots := 0, locals := 0 } : Room).slots) := by
  refine MetFree.of_bodySF (Jvm.Free.JP.mathPlain rfl (by decide +kernel)) hisR ?_
  intro p e s m args below meth c s₁ Bd hml0 hP hK
  obtain ⟨rfl, hZ, hh⟩ := hP
  have hx := Bd.exec
  have hby := Bd.bytes
  have hml : c.maxLocals = 2 := hml0
  have hown : s.vm.findClass "java/lang/Math" = some m.cls := findClass_of_methodNamed Bd.named
  have hnm := (name_of_methodNamed Bd.named Bd.method).1
  have X0 : Stand p l e ({ frames := 0, cells := 0, slots := 0, locals := 0 } : Room) s m #[(.int p0), (.int p1)] below meth c s₁ [] 0 0 := Stand.of_body Bd
  have e0 : s₁.heap = h0 := by rw [← hh, Bd.state]; rfl
  have N0 := Fr.nil n0
  have pre0 : ∀ t, Steps p.tables e below (s₁.setTop (mkF m 0 #[vi p0, vi p1] [])) t → Steps p.tables e below (s₁.setTop (entryFrame m #[(.int p0), (.int p1)] 2)) t := fun t k => castTop (ef_0 m p0 p1) k
  by_cases hc2 : p0 < p1
  · obtain ⟨fs, hr, hrun, hended, hW, hsame⟩ := X0.leave (v := some (.int p1)) (fun h => by rw [Bd.returns] at h; cases h)
    refine ⟨_, _, pre0 _ ?_, hrun, hended, _, _, rfl, ?_, ⟨_, rfl⟩, hW, hsame.mono (by decide) (by decide)⟩
    · show SS p e below s₁ (mkF m 0 #[vi p0, vi p1] []) _
      refine XS.iloadN X0.here hx rfl (hb hby d19_0) rfl ?_
      refine XS.iloadN X0.here hx rfl (hb hby d19_1) rfl ?_
      show SS p e below s₁ (mkF m 2 #[vi p0, vi p1] [(.int p1), (.int p0)]) _
      refine XS.icmpYes X0.here hx rfl (pc0 := 2) (pc' := 9) rfl (hb hby d19_2) rfl (tlt (hc2 : p0 < p1)).1 (by decide) (by decide) ?_
      refine XS.iloadN X0.here hx rfl (hb hby d19_9) rfl ?_
      exact retI X0 hx Bd.returns (hb hby d19_10) hr
    · show Q_rmMax Z p0 p1 h0 n0 _ s₁.heap _
      rw [e0]
      exact ⟨(by rw [if_pos hc2]), N0, rfl⟩
  · obtain ⟨fs, hr, hrun, hended, hW, hsame⟩ := X0.leave (v := some (.int p0)) (fun h => by rw [Bd.returns] at h; cases h)
    refine ⟨_, _, pre0 _ ?_, hrun, hended, _, _, rfl, ?_, ⟨_, rfl⟩, hW, hsame.mono (by decide) (by decide)⟩
    · show SS p e below s₁ (mkF m 0 #[vi p0, vi p1] []) _
      refine XS.iloadN X0.here hx rfl (hb hby d19_0) rfl ?_
      refine XS.iloadN X0.here hx rfl (hb hby d19_1) rfl ?_
      show SS p e below s₁ (mkF m 2 #[vi p0, vi p1] [(.int p1), (.int p0)]) _
      refine XS.icmpNo X0.here hx rfl (hb hby d19_2) rfl (flt (hc2 : ¬ (p0 < p1))).1 ?_
      refine XS.iloadN X0.here hx rfl (hb hby d19_5) rfl ?_
      refine XS.goto X0.here hx rfl (pc0 := 6) (pc' := 10) rfl (hb hby d19_6) (by decide) (by decide) ?_
      exact retI X0 hx Bd.returns (hb hby d19_10) hr
    · show Q_rmMax Z p0 p1 h0 n0 _ s₁.heap _
      rw [e0]
      exact ⟨(by rw [if_neg hc2]), N0, rfl⟩
theorem ef_1 (m : MethodId) (x0 : Int32) (x1 : Int32) : entryFrame m #[(.int x0), (.int x1)] 2 = mkF m 0 #[vi x0, vi x1] [] := by first | (simp [entryFrame, mkF, argsToLocals, Value.category]; done) | rfl
theorem d21_0 : decode jdk_29_method_69_code 0 = .ok (.iload_n 0, 1) := by decide +kernel
theorem d21_1 : decode jdk_29_method_69_code 1 = .ok (.iload_n 1, 1) := by decide +kernel
theorem d21_2 : decode jdk_29_method_69_code 2 = .ok (.if_icmp .gt 7, 3) := by decide +kernel
theorem d21_9 : decode jdk_29_method_69_code 9 = .ok (.iload_n 1, 1) := by decide +kernel
theorem d21_10 : decode jdk_29_method_69_code 10 = .ok (.ireturn, 1) := by decide +kernel
theorem d21_5 : decode jdk_29_method_69_code 5 = .ok (.iload_n 0, 1) := by decide +kernel
theorem d21_6 : decode jdk_29_method_69_code 6 = .ok (.goto 4, 3) := by decide +kernel
def Q_rmMin (Z : State) (p0 : Int32) (p1 : Int32) (h0 : Heap) (n0 : Nat) (v : Option Value) (h : Heap) (L : List Loc) : Prop := (v = some (.int (if p1 < p0 then p1 else p0)) ∧ Fr n0 L ∧ h = h0)
set_option maxRecDepth 65536 in
set_option maxHeartbeats 40000000 in
theorem rmMin (l : Launch) (Z : State) (a0 : Array Value) (hw : ∀ d ∈ tables_1, d.before a0 Z = true) (ws : List Jvm.Cond) (p0 : Int32) (p1 : Int32) (h0 : Heap) (n0 : Nat) (Z0 : n0 ≤ h0.size) :
    MetFree l M1 (head1 (Jvm.Cond.code M1 jdk_29_method_69_code 2 (some .int) :: ws) ({ frames := 0, cells := 0, slots := 0, locals := 0 } : Room)) (fun a U => a = #[(.int p0), (.int p1)] ∧ Z.Warmed39 U.vm ∧ U.heap = h0) (fun _ _ _ _ _ => True) (fun _ U o U' => ∃ v L, o = .returned v ∧ Q_rmMin Z p0 p1 h0 n0 v U'.heap L ∧ FrameEnd U o U' L ({ frames := 0, cells := 0, slots := 0, locals := 0 } : Room).cells ({ frames := 0, cells := 0, slots := 0, locals := 0 } : Room).slots) := by
  refine MetFree.of_bodySF (Jvm.Free.JP.mathPlain rfl (by decide +kernel)) hisR ?_
  intro p e s m args below meth c s₁ Bd hml0 hP hK
  obtain ⟨rfl, hZ, hh⟩ := hP
  have hx := Bd.exec
  have hby := Bd.bytes
  have hml : c.maxLocals = 2 := hml0
  have hown : s.vm.findClass "java/lang/Math" = some m.cls := findClass_of_methodNamed Bd.named
  have hnm := (name_of_methodNamed Bd.named Bd.method).1
  have X0 : Stand p l e ({ frames := 0, cells := 0, slots := 0, locals := 0 } : Room) s m #[(.int p0), (.int p1)] below meth c s₁ [] 0 0 := Stand.of_body Bd
  have e0 : s₁.heap = h0 := by rw [← hh, Bd.state]; rfl
  have N0 := Fr.nil n0
  have pre0 : ∀ t, Steps p.tables e below (s₁.setTop (mkF m 0 #[vi p0, vi p1] [])) t → Steps p.tables e below (s₁.setTop (entryFrame m #[(.int p0), (.int p1)] 2)) t := fun t k => castTop (ef_1 m p0 p1) k
  by_cases hc2 : p1 < p0
  · obtain ⟨fs, hr, hrun, hended, hW, hsame⟩ := X0.leave (v := some (.int p1)) (fun h => by rw [Bd.returns] at h; cases h)
    refine ⟨_, _, pre0 _ ?_, hrun, hended, _, _, rfl, ?_, ⟨_, rfl⟩, hW, hsame.mono (by decide) (by decide)⟩
    · show SS p e below s₁ (mkF m 0 #[vi p0, vi p1] []) _
      refine XS.iloadN X0.here hx rfl (hb hby d21_0) rfl ?_
      refine XS.iloadN X0.here hx rfl (hb hby d21_1) rfl ?_
      show SS p e below s₁ (mkF m 2 #[vi p0, vi p1] [(.int p1), (.int p0)]) _
      refine XS.icmpYes X0.here hx rfl (pc0 := 2) (pc' := 9) rfl (hb hby d21_2) rfl (tlt (hc2 : p1 < p0)).2.2.1 (by decide) (by decide) ?_
      refine XS.iloadN X0.here hx rfl (hb hby d21_9) rfl ?_
      exact retI X0 hx Bd.returns (hb hby d21_10) hr
    · show Q_rmMin Z p0 p1 h0 n0 _ s₁.heap _
      rw [e0]
      exact ⟨(by rw [if_pos hc2]), N0, rfl⟩
  · obtain ⟨fs, hr, hrun, hended, hW, hsame⟩ := X0.leave (v := some (.int p0)) (fun h => by rw [Bd.returns] at h; cases h)
    refine ⟨_, _, pre0 _ ?_, hrun, hended, _, _, rfl, ?_, ⟨_, rfl⟩, hW, hsame.mono (by decide) (by decide)⟩
    · show SS p e below s₁ (mkF m 0 #[vi p0, vi p1] []) _
      refine XS.iloadN X0.here hx rfl (hb hby d21_0) rfl ?_
      refine XS.iloadN X0.here hx rfl (hb hby d21_1) rfl ?_
      show SS p e below s₁ (mkF m 2 #[vi p0, vi p1] [(.int p1), (.int p0)]) _
      refine XS.icmpNo X0.here hx rfl (hb hby d21_2) rfl (flt (hc2 : ¬ (p1 < p0))).2.2.1 ?_
      refine XS.iloadN X0.here hx rfl (hb hby d21_5) rfl ?_
      refine XS.goto X0.here hx rfl (pc0 := 6) (pc' := 10) rfl (hb hby d21_6) (by decide) (by decide) ?_
      exact retI X0 hx Bd.returns (hb hby d21_10) hr
    · show Q_rmMin Z p0 p1 h0 n0 _ s₁.heap _
      rw [e0]
      exact ⟨(by rw [if_neg hc2]), N0, rfl⟩
theorem ef_2 (m : MethodId) (x0 : Addr) : entryFrame m #[(.ref x0)] 1 = mkF m 0 #[vr x0] [] := by first | (simp [entryFrame, mkF, argsToLocals, Value.category]; done) | rfl
theorem pn_0 : plainName "java/lang/String" = true := by first | (simp [plainName, overriddenIn]; done) | decide +kernel
theorem d15_0 : decode jdk_42_method_152_code 0 = .ok (.getstatic 38, 3) := by decide +kernel
theorem d15_3 : decode jdk_42_method_152_code 3 = .ok (.ifCond .eq 10, 3) := by decide +kernel
theorem d15_6 : decode jdk_42_method_152_code 6 = .ok (.aload_n 0, 1) := by decide +kernel
theorem d15_7 : decode jdk_42_method_152_code 7 = .ok (.getfield 15, 3) := by decide +kernel
theorem d15_10 : decode jdk_42_method_152_code 10 = .ok (.goto 4, 3) := by decide +kernel
theorem d15_14 : decode jdk_42_method_152_code 14 = .ok (.ireturn, 1) := by decide +kernel
def Q_rmCoder (Z : State) (r0 : Addr) (zc : Int32) (h0 : Heap) (n0 : Nat) (v : Option Value) (h : Heap) (L : List Loc) : Prop := (v = some z0 ∧ Fr n0 L ∧ h = h0)
set_option maxRecDepth 65536 in
set_option maxHeartbeats 40000000 in
theorem rmCoder (l : Launch) (Z : State) (a0 : Array Value) (hw : ∀ d ∈ tables_1, d.before a0 Z = true) (ws : List Jvm.Cond) (r0 : Addr) (zc : Int32) (h0 : Heap) (n0 : Nat) (Z0 : n0 ≤ h0.size) (uO : Old Z n0 h0) (uS : Sta Z Z.heap "java/lang/String" "COMPACT_STRINGS" "Z" (.int zc)) (uP : ¬ zc = 0) (uc : Fld Z h0 r0 "java/lang/String" "coder" "B" z0) :
    MetFree l M2 (head1 (Jvm.Cond.code M2 jdk_42_method_152_code 1 (some .byte) :: ws) ({ frames := 0, cells := 0, slots := 0, locals := 0 } : Room)) (fun a U => a = #[(.ref r0)] ∧ Z.Warmed39 U.vm ∧ U.heap = h0) (fun _ _ _ _ _ => True) (fun _ U o U' => ∃ v L, o = .returned v ∧ Q_rmCoder Z r0 zc h0 n0 v U'.heap L ∧ FrameEnd U o U' L ({ frames := 0, cells := 0, slots := 0, locals := 0 } : Room).cells ({ frames := 0, cells := 0, slots := 0, locals := 0 } : Room).slots) := by
  refine MetFree.of_bodySF (plainFor_of_name pn_0) hisR ?_
  intro p e s m args below meth c s₁ Bd hml0 hP hK
  obtain ⟨rfl, hZ, hh⟩ := hP
  have hx := Bd.exec
  have hby := Bd.bytes
  have hml : c.maxLocals = 1 := hml0
  have hown : s.vm.findClass "java/lang/String" = some m.cls := findClass_of_methodNamed Bd.named
  have hnm := (name_of_methodNamed Bd.named Bd.method).1
  have X0 : Stand p l e ({ frames := 0, cells := 0, slots := 0, locals := 0 } : Room) s m #[(.ref r0)] below meth c s₁ [] 0 0 := Stand.of_body Bd
  have e0 : s₁.heap = h0 := by rw [← hh, Bd.state]; rfl
  have N0 := Fr.nil n0
  have pre0 : ∀ t, Steps p.tables e below (s₁.setTop (mkF m 0 #[vr r0] [])) t → Steps p.tables e below (s₁.setTop (entryFrame m #[(.ref r0)] 1)) t := fun t k => castTop (ef_2 m r0) k
  obtain ⟨T1, X1, e1, st1⟩ := getS2 X0 hx hZ hown (host := "") (Or.inl (wd hw 29 rfl)) Via.refl e0 (uS.ext uO.2) (g := (mkF m 0 #[vr r0] [])) rfl (hb hby d15_0)
  obtain ⟨T2, X2, e2, st2⟩ := getF X1 hx hZ hown (host := "") (Or.inl (wd hw 25 rfl)) Via.refl e1 uc (g := (mkF m 7 #[vr r0] [(.ref r0)])) rfl rfl (hb hby d15_7)
  obtain ⟨fs, hr, hrun, hended, hW, hsame⟩ := X2.leave (v := some (.int (nar .byte (0 : Int32)))) (fun h => by rw [Bd.returns] at h; cases h)
  refine ⟨_, _, pre0 _ ?_, hrun, hended, _, _, rfl, ?_, ⟨_, rfl⟩, hW, hsame.mono (by decide) (by decide)⟩
  · show SS p e below s₁ (mkF m 0 #[vr r0] []) _
    refine st1 _ ?_
    show SS p e below T1 (mkF m 3 #[vr r0] [(.int zc)]) _
    refine XS.ifNo X1.here hx rfl (hb hby d15_3) rfl ((if0 _ _).trans (feq (uP : ¬ (zc = (0 : Int32)))).1) ?_
    refine XS.aloadN X1.here hx rfl (hb hby d15_6) rfl rfl ?_
    refine st2 _ ?_
    refine XS.goto X2.here hx rfl (pc0 := 10) (pc' := 14) rfl (hb hby d15_10) (by decide) (by decide) ?_
    exact retN X2 hx (t := .byte) Bd.returns (by simp) (hb hby d15_14) hr
  · show Q_rmCoder Z r0 zc h0 n0 _ T2.heap _
    rw [e2]
    exact ⟨(congrArg (fun z => some (Value.int z)) own_nb0), N0, rfl⟩
theorem ef_3 (m : MethodId) (x0 : Addr) : entryFrame m #[(.ref x0)] 1 = mkF m 0 #[vr x0] [] := by first | (simp [entryFrame, mkF, argsToLocals, Value.category]; done) | rfl
theorem d14_0 : decode jdk_42_method_54_code 0 = .ok (.aload_n 0, 1) := by decide +kernel
theorem d14_1 : decode jdk_42_method_54_code 1 = .ok (.getfield 9, 3) := by decide +kernel
theorem d14_4 : decode jdk_42_method_54_code 4 = .ok (.arraylength, 1) := by decide +kernel
theorem d14_5 : decode jdk_42_method_54_code 5 = .ok (.aload_n 0, 1) := by decide +kernel
theorem d14_6 : decode jdk_42_method_54_code 6 = .ok (.invokevirtual 335, 3) := by decide +kernel
theorem pd_0 : parseMethodDescriptor "()B" = some ⟨[], some .byte⟩ := by decide +kernel
theorem d14_9 : decode jdk_42_method_54_code 9 = .ok (.ishr, 1) := by decide +kernel
theorem d14_10 : decode jdk_42_method_54_code 10 = .ok (.ireturn, 1) := by decide +kernel
def Q_rmLen (Z : State) (r0 : Addr) (zc : Int32) (rt : Addr) (kt : ClassId) (zt : Int32) (vt : List Value) (h0 : Heap) (n0 : Nat) (v : Option Value) (h : Heap) (L : List Loc) : Prop := (v = some (.int zt) ∧ Fr n0 L ∧ h = h0)
set_option maxRecDepth 65536 in
set_option maxHeartbeats 40000000 in
theorem rmLen (l : Launch) (Z : State) (a0 : Array Value) (hw : ∀ d ∈ tables_1, d.before a0 Z = true) (ws : List Jvm.Cond) (r0 : Addr) (zc : Int32) (rt : Addr) (kt : ClassId) (zt : Int32) (vt : List Value) (h0 : Heap) (n0 : Nat) (Z0 : n0 ≤ h0.size) (uO : Old Z n0 h0) (uS : Sta Z Z.heap "java/lang/String" "COMPACT_STRINGS" "Z" (.int zc)) (uP : ¬ zc = 0) (uE : Exa Z h0 r0 "java/lang/String") (uv : Fld Z h0 r0 "java/lang/String" "value" "[B" (.ref rt)) (uc : Fld Z h0 r0 "java/lang/String" "coder" "B" z0) (uV : Arv Z h0 rt kt .byte zt vt z0) :
    MetFree l M3 (head1 (Jvm.Cond.code M3 jdk_42_method_54_code 1 (some .int) :: ws) ({ frames := 1, cells := 0, slots := 0, locals := 13 } : Room)) (fun a U => a = #[(.ref r0)] ∧ Z.Warmed39 U.vm ∧ U.heap = h0) (fun _ _ _ _ _ => True) (fun _ U o U' => ∃ v L, o = .returned v ∧ Q_rmLen Z r0 zc rt kt zt vt h0 n0 v U'.heap L ∧ FrameEnd U o U' L ({ frames := 1, cells := 0, slots := 0, locals := 13 } : Room).cells ({ frames := 1, cells := 0, slots := 0, locals := 13 } : Room).slots) := by
  refine MetFree.of_bodySF (plainFor_of_name pn_0) hisR ?_
  intro p e s m args below meth c s₁ Bd hml0 hP hK
  obtain ⟨rfl, hZ, hh⟩ := hP
  have hx := Bd.exec
  have hby := Bd.bytes
  have hml : c.maxLocals = 1 := hml0
  have hown : s.vm.findClass "java/lang/String" = some m.cls := findClass_of_methodNamed Bd.named
  have hnm := (name_of_methodNamed Bd.named Bd.method).1
  have X0 : Stand p l e ({ frames := 1, cells := 0, slots := 0, locals := 13 } : Room) s m #[(.ref r0)] below meth c s₁ [] 0 0 := Stand.of_body Bd
  have e0 : s₁.heap = h0 := by rw [← hh, Bd.state]; rfl
  have N0 := Fr.nil n0
  have pre0 : ∀ t, Steps p.tables e below (s₁.setTop (mkF m 0 #[vr r0] [])) t → Steps p.tables e below (s₁.setTop (entryFrame m #[(.ref r0)] 1)) t := fun t k => castTop (ef_3 m r0) k
  obtain ⟨T1, X1, e1, st1⟩ := getF X0 hx hZ hown (host := "") (Or.inl (wd hw 24 rfl)) Via.refl e0 uv (g := (mkF m 1 #[vr r0] [(.ref r0)])) rfl rfl (hb hby d14_1)
  obtain ⟨cl2, Ar2, q2, S2, Nn2, H2, G2⟩ := (id uV)
  obtain ⟨cq3, kq3, q3a, q3b, q3c⟩ := isOf hZ e1 uE
  obtain ⟨_, _, ⟨T3, Lw3, kw3, nw3⟩, -, X3, ⟨Lc3, hQ3, lq3, yq3, zq3⟩, st3⟩ := X1.virtualBack hx (y := M2) (z := M2) hown (mvT hZ (wd hw 80 rfl)) (mvT hZ (wd hw 81 rfl)) (notFace_of_selects (args := #[]) (mvT hZ (wd hw 83 rfl))) (mvT hZ (wd hw 83 rfl)) (mvT hZ (wd hw 82 rfl)) (by decide) (backOf (W := 1) (rmCoder l Z a0 hw [] r0 zc h0 n0 Z0 uO uS uP uc) hZ (wd hw 84 rfl) (wd hw 6 rfl) (by decide) (by decide)) q3a q3c (g := (mkF m 6 #[vr r0] [(.ref r0), (.int zt)])) rfl (by rw [hml]; rfl) (Steps.refl _) (argsL := []) (rest := [(.int zt)]) (lenOf pd_0 rfl) rfl (by show 2 * 0 + _ ≤ _; exact Nat.le_of_eq rfl) (hb hby d14_6) (fun _ _ => ⟨rfl, e1, (by decide : 0 + 0 ≤ _), (by decide : 0 + 0 ≤ _)⟩)
  dsimp only [Pt.U, Pt.locs, Pt.cells, Pt.slots] at X3 lq3 yq3 zq3 st3 hQ3
  have X3 := own_reb X3 lq3 yq3 zq3
  obtain ⟨rfl, Nq3, eh3⟩ := hQ3
  have N3 := Fr.app N0 Nq3
  obtain ⟨fs, hr, hrun, hended, hW, hsame⟩ := X3.leave (v := some (.int zt)) (fun h => by rw [Bd.returns] at h; cases h)
  refine ⟨_, _, pre0 _ ?_, hrun, hended, _, _, rfl, ?_, ⟨_, rfl⟩, hW, hsame.mono (by decide) (by decide)⟩
  · show SS p e below s₁ (mkF m 0 #[vr r0] []) _
    refine XS.aloadN X0.here hx rfl (hb hby d14_0) rfl rfl ?_
    refine st1 _ ?_
    show SS p e below T1 (mkF m 4 #[vr r0] [(.ref rt)]) _
    refine X1.arraylength hx (own_at e1 Ar2.1) (State.isArrayOf_alike hZ.alike Ar2.2.1) (g := (mkF m 4 #[vr r0] [(.ref rt)])) rfl rfl (hb hby d14_4) _ ?_
    rw [len_of S2 Nn2]
    refine XS.aloadN X1.here hx rfl (hb hby d14_5) rfl rfl ?_
    show SS p e below T1 (mkF m 6 #[vr r0] [(.ref r0), (.int zt)]) _
    refine st3.trans ?_
    show SS p e below T3 (mkF m 9 #[vr r0] [z0, (.int zt)]) _
    refine XS.ishr X3.here hx rfl (hb hby d14_9) rfl ?_
    show SS p e below T3 (mkF m 10 #[vr r0] [(.int (zt >>> ((0 : Int32) &&& 31)))]) _
    rw [own_shr0 zt]
    exact retI X3 hx Bd.returns (hb hby d14_10) hr
  · show Q_rmLen Z r0 zc rt kt zt vt h0 n0 _ T3.heap _
    rw [eh3]
    exact ⟨rfl, N3, rfl⟩
theorem ef_4 (m : MethodId) (x0 : Addr) : entryFrame m #[(.ref x0)] 1 = mkF m 0 #[vr x0] [] := by first | (simp [entryFrame, mkF, argsToLocals, Value.category]; done) | rfl
theorem pn_1 : plainName "java/lang/AbstractStringBuilder" = true := by first | (simp [plainName, overriddenIn]; done) | decide +kernel
theorem d31_0 : decode jdk_68_method_68_code 0 = .ok (.getstatic 18, 3) := by decide +kernel
theorem d31_3 : decode jdk_68_method_68_code 3 = .ok (.ifCond .eq 14, 3) := by decide +kernel
theorem d31_6 : decode jdk_68_method_68_code 6 = .ok (.aload_n 0, 1) := by decide +kernel
theorem d31_7 : decode jdk_68_method_68_code 7 = .ok (.getfield 22, 3) := by decide +kernel
theorem d31_10 : decode jdk_68_method_68_code 10 = .ok (.ifCond .ne 7, 3) := by decide +kernel
theorem d31_13 : decode jdk_68_method_68_code 13 = .ok (.iconst 1, 1) := by decide +kernel
theorem d31_14 : decode jdk_68_method_68_code 14 = .ok (.goto 4, 3) := by decide +kernel
theorem d31_18 : decode jdk_68_method_68_code 18 = .ok (.ireturn, 1) := by decide +kernel
def Q_rmIL (Z : State) (r0 : Addr) (zc : Int32) (h0 : Heap) (n0 : Nat) (v : Option Value) (h : Heap) (L : List Loc) : Prop := (v = some (vI 1) ∧ Fr n0 L ∧ h = h0)
set_option maxRecDepth 65536 in
set_option maxHeartbeats 40000000 in
theorem rmIL (l : Launch) (Z : State) (a0 : Array Value) (hw : ∀ d ∈ tables_1, d.before a0 Z = true) (ws : List Jvm.Cond) (r0 : Addr) (zc : Int32) (h0 : Heap) (n0 : Nat) (Z0 : n0 ≤ h0.size) (uO : Old Z n0 h0) (uS : Sta Z Z.heap "java/lang/String" "COMPACT_STRINGS" "Z" (.int zc)) (uP : ¬ zc = 0) (uc : Fld Z h0 r0 "java/lang/AbstractStringBuilder" "coder" "B" z0) :
    MetFree l M4 (head1 (Jvm.Cond.code M4 jdk_68_method_68_code 1 (some .boolean) :: ws) ({ frames := 0, cells := 0, slots := 0, locals := 0 } : Room)) (fun a U => a = #[(.ref r0)] ∧ Z.Warmed39 U.vm ∧ U.heap = h0) (fun _ _ _ _ _ => True) (fun _ U o U' => ∃ v L, o = .returned v ∧ Q_rmIL Z r0 zc h0 n0 v U'.heap L ∧ FrameEnd U o U' L ({ frames := 0, cells := 0, slots := 0, locals := 0 } : Room).cells ({ frames := 0, cells := 0, slots := 0, locals := 0 } : Room).slots) := by
  refine MetFree.of_bodySF (plainFor_of_name pn_1) hisR ?_
  intro p e s m args below meth c s₁ Bd hml0 hP hK
  obtain ⟨rfl, hZ, hh⟩ := hP
  have hx := Bd.exec
  have hby := Bd.bytes
  have hml : c.maxLocals = 1 := hml0
  have hown : s.vm.findClass "java/lang/AbstractStringBuilder" = some m.cls := findClass_of_methodNamed Bd.named
  have hnm := (name_of_methodNamed Bd.named Bd.method).1
  have X0 : Stand p l e ({ frames := 0, cells := 0, slots := 0, locals := 0 } : Room) s m #[(.ref r0)] below meth c s₁ [] 0 0 := Stand.of_body Bd
  have e0 : s₁.heap = h0 := by rw [← hh, Bd.state]; rfl
  have N0 := Fr.nil n0
  have pre0 : ∀ t, Steps p.tables e below (s₁.setTop (mkF m 0 #[vr r0] [])) t → Steps p.tables e below (s₁.setTop (entryFrame m #[(.ref r0)] 1)) t := fun t k => castTop (ef_4 m r0) k
  obtain ⟨T1, X1, e1, st1⟩ := getS2 X0 hx hZ hown (host := "") (Or.inl (wd hw 59 rfl)) Via.refl e0 (uS.ext uO.2) (g := (mkF m 0 #[vr r0] [])) rfl (hb hby d31_0)
  obtain ⟨T2, X2, e2, st2⟩ := getF X1 hx hZ hown (host := "") (Or.inl (wd hw 62 rfl)) Via.refl e1 uc (g := (mkF m 7 #[vr r0] [(.ref r0)])) rfl rfl (hb hby d31_7)
  obtain ⟨fs, hr, hrun, hended, hW, hsame⟩ := X2.leave (v := some (.int (nar .boolean (1 : Int32)))) (fun h => by rw [Bd.returns] at h; cases h)
  refine ⟨_, _, pre0 _ ?_, hrun, hended, _, _, rfl, ?_, ⟨_, rfl⟩, hW, hsame.mono (by decide) (by decide)⟩
  · show SS p e below s₁ (mkF m 0 #[vr r0] []) _
    refine st1 _ ?_
    show SS p e below T1 (mkF m 3 #[vr r0] [(.int zc)]) _
    refine XS.ifNo X1.here hx rfl (hb hby d31_3) rfl ((if0 _ _).trans (feq (uP : ¬ (zc = (0 : Int32)))).1) ?_
    refine XS.aloadN X1.here hx rfl (hb hby d31_6) rfl rfl ?_
    refine st2 _ ?_
    show SS p e below T2 (mkF m 10 #[vr r0] [z0]) _
    refine XS.ifNo X2.here hx rfl (hb hby d31_10) rfl ((if0 _ _).trans (teq (by decide : (0 : Int32) = (0 : Int32))).2) ?_
    refine XS.iconst X2.here hx rfl (hb hby d31_13) ?_
    refine XS.goto X2.here hx rfl (pc0 := 14) (pc' := 18) rfl (hb hby d31_14) (by decide) (by decide) ?_
    exact retN X2 hx (t := .boolean) Bd.returns (by simp) (hb hby d31_18) hr
  · show Q_rmIL Z r0 zc h0 n0 _ T2.heap _
    rw [e2]
    exact ⟨(congrArg (fun z => some (Value.int z)) own_nz1), N0, rfl⟩
theorem ef_5 (m : MethodId) (x0 : Addr) (x1 : Addr) : entryFrame m #[(.ref x0), (.ref x1)] 2 = mkF m 0 #[vr x0, vr x1] [] := by first | (simp [entryFrame, mkF, argsToLocals, Value.category]; done) | rfl
theorem d23_0 : decode jdk_68_method_71_code 0 = .ok (.getstatic 18, 3) := by decide +kernel
theorem d23_3 : decode jdk_68_method_71_code 3 = .ok (.ifCond .eq 18, 3) := by decide +kernel
theorem d23_6 : decode jdk_68_method_71_code 6 = .ok (.aload_n 0, 1) := by decide +kernel
theorem d23_7 : decode jdk_68_method_71_code 7 = .ok (.getfield 22, 3) := by decide +kernel
theorem d23_10 : decode jdk_68_method_71_code 10 = .ok (.aload_n 1, 1) := by decide +kernel
theorem d23_11 : decode jdk_68_method_71_code 11 = .ok (.invokevirtual 40, 3) := by decide +kernel
theorem d23_14 : decode jdk_68_method_71_code 14 = .ok (.if_icmp .eq 7, 3) := by decide +kernel
theorem d23_21 : decode jdk_68_method_71_code 21 = .ok (.return_, 1) := by decide +kernel
def Q_rmInf (Z : State) (r0 : Addr) (r1 : Addr) (zc : Int32) (h0 : Heap) (n0 : Nat) (v : Option Value) (h : Heap) (L : List Loc) : Prop := (v = none ∧ Fr n0 L ∧ h = h0)
set_option maxRecDepth 65536 in
set_option maxHeartbeats 40000000 in
theorem rmInf (l : Launch) (Z : State) (a0 : Array Value) (hw : ∀ d ∈ tables_1, d.before a0 Z = true) (ws : List Jvm.Cond) (r0 : Addr) (r1 : Addr) (zc : Int32) (h0 : Heap) (n0 : Nat) (Z0 : n0 ≤ h0.size) (uO : Old Z n0 h0) (uS : Sta Z Z.heap "java/lang/String" "COMPACT_STRINGS" "Z" (.int zc)) (uP : ¬ zc = 0) (uc : Fld Z h0 r0 "java/lang/AbstractStringBuilder" "coder" "B" z0) (uE : Exa Z h0 r1 "java/lang/String") (uc1 : Fld Z h0 r1 "java/lang/String" "coder" "B" z0) :
    MetFree l M5 (head1 (Jvm.Cond.code M5 jdk_68_method_71_code 2 none :: ws) ({ frames := 1, cells := 0, slots := 0, locals := 13 } : Room)) (fun a U => a = #[(.ref r0), (.ref r1)] ∧ Z.Warmed39 U.vm ∧ U.heap = h0) (fun _ _ _ _ _ => True) (fun _ U o U' => ∃ v L, o = .returned v ∧ Q_rmInf Z r0 r1 zc h0 n0 v U'.heap L ∧ FrameEnd U o U' L ({ frames := 1, cells := 0, slots := 0, locals := 13 } : Room).cells ({ frames := 1, cells := 0, slots := 0, locals := 13 } : Room).slots) := by
  refine MetFree.of_bodySF (plainFor_of_name pn_1) hisR ?_
  intro p e s m args below meth c s₁ Bd hml0 hP hK
  obtain ⟨rfl, hZ, hh⟩ := hP
  have hx := Bd.exec
  have hby := Bd.bytes
  have hml : c.maxLocals = 2 := hml0
  have hown : s.vm.findClass "java/lang/AbstractStringBuilder" = some m.cls := findClass_of_methodNamed Bd.named
  have hnm := (name_of_methodNamed Bd.named Bd.method).1
  have X0 : Stand p l e ({ frames := 1, cells := 0, slots := 0, locals := 13 } : Room) s m #[(.ref r0), (.ref r1)] below meth c s₁ [] 0 0 := Stand.of_body Bd
  have e0 : s₁.heap = h0 := by rw [← hh, Bd.state]; rfl
  have N0 := Fr.nil n0
  have pre0 : ∀ t, Steps p.tables e below (s₁.setTop (mkF m 0 #[vr r0, vr r1] [])) t → Steps p.tables e below (s₁.setTop (entryFrame m #[(.ref r0), (.ref r1)] 2)) t := fun t k => castTop (ef_5 m r0 r1) k
  obtain ⟨T1, X1, e1, st1⟩ := getS2 X0 hx hZ hown (host := "") (Or.inl (wd hw 59 rfl)) Via.refl e0 (uS.ext uO.2) (g := (mkF m 0 #[vr r0, vr r1] [])) rfl (hb hby d23_0)
  obtain ⟨T2, X2, e2, st2⟩ := getF X1 hx hZ hown (host := "") (Or.inl (wd hw 62 rfl)) Via.refl e1 uc (g := (mkF m 7 #[vr r0, vr r1] [(.ref r0)])) rfl rfl (hb hby d23_7)
  obtain ⟨cq3, kq3, q3a, q3b, q3c⟩ := isOf hZ e2 uE
  obtain ⟨_, _, ⟨T3, Lw3, kw3, nw3⟩, -, X3, ⟨Lc3, hQ3, lq3, yq3, zq3⟩, st3⟩ := X2.virtualBack hx (y := M2) (z := M2) hown (mvT hZ (wd hw 128 rfl)) (mvT hZ (wd hw 81 rfl)) (notFace_of_selects (args := #[]) (mvT hZ (wd hw 83 rfl))) (mvT hZ (wd hw 83 rfl)) (mvT hZ (wd hw 82 rfl)) (by decide) (backOf (W := 1) (rmCoder l Z a0 hw [] r1 zc h0 n0 Z0 uO uS uP uc1) hZ (wd hw 84 rfl) (wd hw 6 rfl) (by decide) (by decide)) q3a q3c (g := (mkF m 11 #[vr r0, vr r1] [(.ref r1), z0])) rfl (by rw [hml]; rfl) (Steps.refl _) (argsL := []) (rest := [z0]) (lenOf pd_0 rfl) rfl (by show 2 * 0 + _ ≤ _; exact Nat.le_of_eq rfl) (hb hby d23_11) (fun _ _ => ⟨rfl, e2, (by decide : 0 + 0 ≤ _), (by decide : 0 + 0 ≤ _)⟩)
  dsimp only [Pt.U, Pt.locs, Pt.cells, Pt.slots] at X3 lq3 yq3 zq3 st3 hQ3
  have X3 := own_reb X3 lq3 yq3 zq3
  obtain ⟨rfl, Nq3, eh3⟩ := hQ3
  have N3 := Fr.app N0 Nq3
  obtain ⟨fs, hr, hrun, hended, hW, hsame⟩ := X3.leave (v := none) (fun _ => rfl)
  refine ⟨_, _, pre0 _ ?_, hrun, hended, _, _, rfl, ?_, ⟨_, rfl⟩, hW, hsame.mono (by decide) (by decide)⟩
  · show SS p e below s₁ (mkF m 0 #[vr r0, vr r1] []) _
    refine st1 _ ?_
    show SS p e below T1 (mkF m 3 #[vr r0, vr r1] [(.int zc)]) _
    refine XS.ifNo X1.here hx rfl (hb hby d23_3) rfl ((if0 _ _).trans (feq (uP : ¬ (zc = (0 : Int32)))).1) ?_
    refine XS.aloadN X1.here hx rfl (hb hby d23_6) rfl rfl ?_
    refine st2 _ ?_
    refine XS.aloadN X2.here hx rfl (hb hby d23_10) rfl rfl ?_
    show SS p e below T2 (mkF m 11 #[vr r0, vr r1] [(.ref r1), z0]) _
    refine st3.trans ?_
    show SS p e below T3 (mkF m 14 #[vr r0, vr r1] [z0, z0]) _
    refine XS.icmpYes X3.here hx rfl (pc0 := 14) (pc' := 21) rfl (hb hby d23_14) rfl (teq (by decide : (0 : Int32) = (0 : Int32))).1 (by decide) (by decide) ?_
    exact X3.returnOut hx Bd.returns (hb hby d23_21) hr
  · show Q_rmInf Z r0 r1 zc h0 n0 _ T3.heap _
    rw [eh3]
    exact ⟨rfl, N3, rfl⟩
theorem ef_6 (m : MethodId) (x0 : Addr) : entryFrame m #[(.ref x0), (vI 16)] 2 = mkF m 0 #[vr x0, vi (16 : Int32)] [] := by first | (simp [entryFrame, mkF, argsToLocals, Value.category]; done) | rfl
theorem d11_0 : decode jdk_68_method_2_code 0 = .ok (.aload_n 0, 1) := by decide +kernel
theorem d11_1 : decode jdk_68_method_2_code 1 = .ok (.invokespecial 3, 3) := by decide +kernel
theorem d11_4 : decode jdk_68_method_2_code 4 = .ok (.getstatic 18, 3) := by decide +kernel
theorem d11_7 : decode jdk_68_method_2_code 7 = .ok (.ifCond .eq 18, 3) := by decide +kernel
theorem d11_10 : decode jdk_68_method_2_code 10 = .ok (.aload_n 0, 1) := by decide +kernel
theorem d11_11 : decode jdk_68_method_2_code 11 = .ok (.iload_n 1, 1) := by decide +kernel
theorem d11_12 : decode jdk_68_method_2_code 12 = .ok (.newarray .byte, 2) := by decide +kernel
theorem d11_14 : decode jdk_68_method_2_code 14 = .ok (.putfield 15, 3) := by decide +kernel
theorem d11_17 : decode jdk_68_method_2_code 17 = .ok (.aload_n 0, 1) := by decide +kernel
theorem d11_18 : decode jdk_68_method_2_code 18 = .ok (.iconst 0, 1) := by decide +kernel
theorem d11_19 : decode jdk_68_method_2_code 19 = .ok (.putfield 22, 3) := by decide +kernel
theorem d11_22 : decode jdk_68_method_2_code 22 = .ok (.goto 16, 3) := by decide +kernel
theorem d11_38 : decode jdk_68_method_2_code 38 = .ok (.return_, 1) := by decide +kernel
def Q_rmASB (Z : State) (r0 : Addr) (zc : Int32) (h0 : Heap) (n0 : Nat) (v : Option Value) (h : Heap) (L : List Loc) : Prop := ∃ (nb : Addr), ∃ (nk : ClassId), (v = none ∧ Fr n0 L ∧ Keep h0 h [r0] ∧ Fld Z h r0 "java/lang/AbstractStringBuilder" "value" "[B" (.ref nb) ∧ Fld Z h r0 "java/lang/AbstractStringBuilder" "coder" "B" z0 ∧ Fld Z h r0 "java/lang/AbstractStringBuilder" "count" "I" z0 ∧ h0.size ≤ nb ∧ Exa Z h nb "[B" ∧ Arv Z h nb nk .byte (16 : Int32) [z0, z0, z0, z0, z0, z0, z0, z0, z0, z0, z0, z0, z0, z0, z0, z0] z0)
set_option maxRecDepth 65536 in
set_option maxHeartbeats 40000000 in
theorem rmASB (l : Launch) (Z : State) (a0 : Array Value) (hw : ∀ d ∈ tables_1, d.before a0 Z = true) (ws : List Jvm.Cond) (r0 : Addr) (zc : Int32) (h0 : Heap) (n0 : Nat) (Z0 : n0 ≤ h0.size) (uO : Old Z n0 h0) (uS : Sta Z Z.heap "java/lang/String" "COMPACT_STRINGS" "Z" (.int zc)) (uP : ¬ zc = 0) (uE : Exa Z h0 r0 "java/lang/StringBuilder") (uv : Fld Z h0 r0 "java/lang/AbstractStringBuilder" "value" "[B" .null) (uc : Fld Z h0 r0 "java/lang/AbstractStringBuilder" "coder" "B" z0) (uk : Fld Z h0 r0 "java/lang/AbstractStringBuilder" "count" "I" z0) (ug : n0 ≤ r0) :
    MetFree l M6 (head1 (Jvm.Cond.code M6 jdk_68_method_2_code 2 none :: ws) ({ frames := 1, cells := 1, slots := 16, locals := 12 } : Room)) (fun a U => a = #[(.ref r0), (vI 16)] ∧ Z.Warmed39 U.vm ∧ U.heap = h0) (fun _ _ _ _ _ => True) (fun _ U o U' => ∃ v L, o = .returned v ∧ Q_rmASB Z r0 zc h0 n0 v U'.heap L ∧ FrameEnd U o U' L ({ frames := 1, cells := 1, slots := 16, locals := 12 } : Room).cells ({ frames := 1, cells := 1, slots := 16, locals := 12 } : Room).slots) := by
  refine MetFree.of_bodySF (plainFor_of_name pn_1) hisR ?_
  intro p e s m args below meth c s₁ Bd hml0 hP hK
  obtain ⟨rfl, hZ, hh⟩ := hP
  have hx := Bd.exec
  have hby := Bd.bytes
  have hml : c.maxLocals = 2 := hml0
  have hown : s.vm.findClass "java/lang/AbstractStringBuilder" = some m.cls := findClass_of_methodNamed Bd.named
  have hnm := (name_of_methodNamed Bd.named Bd.method).1
  have X0 : Stand p l e ({ frames := 1, cells := 1, slots := 16, locals := 12 } : Room) s m #[(.ref r0), (vI 16)] below meth c s₁ [] 0 0 := Stand.of_body Bd
  have e0 : s₁.heap = h0 := by rw [← hh, Bd.state]; rfl
  have N0 := Fr.nil n0
  have pre0 : ∀ t, Steps p.tables e below (s₁.setTop (mkF m 0 #[vr r0, vi (16 : Int32)] [])) t → Steps p.tables e below (s₁.setTop (entryFrame m #[(.ref r0), (vI 16)] 2)) t := fun t k => castTop (ef_6 m r0) k
  obtain ⟨T1, X1, e1, st1⟩ := initO X0 hx hZ hown (wd hw 58 rfl) (wd hw 16 rfl) (wd hw 17 rfl) e0 (g := (mkF m 1 #[vr r0, vi (16 : Int32)] [(.ref r0)])) rfl (by rw [hml]; rfl) rfl (hb hby d11_1) (by decide) (W := 0) (by show 2 * 0 + _ ≤ _; exact Nat.le_of_eq rfl) (by decide)
  obtain ⟨T2, X2, e2, st2⟩ := getS2 X1 hx hZ hown (host := "") (Or.inl (wd hw 59 rfl)) Via.refl e1 (uS.ext uO.2) (g := (mkF m 4 #[vr r0, vi (16 : Int32)] [])) rfl (hb hby d11_4)
  obtain ⟨T3, h3, k3, X3, e3, E3, A3, AX3, st3⟩ := newPE X2 hx hZ (wd hw 19 rfl) e2 (g := (mkF m 12 #[vr r0, vi (16 : Int32)] [(vI 16), (.ref r0)])) rfl (hb hby d11_12) rfl (by decide) (cap := 16) (by decide) (by decide) (by decide) (by decide) (ad := "[B") (by decide)
  obtain ⟨b3, g3⟩ : ∃ z, z = h0.size := ⟨_, rfl⟩
  rw [← g3] at A3 AX3 st3
  have ne_r0_b3 : r0 ≠ b3 := Nat.ne_of_lt (Nat.lt_of_lt_of_le uE.lt (Nat.le_of_eq g3.symm))
  have V3 : Arv Z h3 b3 k3 .byte (16 : Int32) [z0, z0, z0, z0, z0, z0, z0, z0, z0, z0, z0, z0, z0, z0, z0, z0] z0 := (Arv.new A3 (by decide)).pad (pad_rep [] z0 16)
  have g_b3 : n0 ≤ b3 := Nat.le_trans Z0 (Nat.le_of_eq g3.symm)
  have sz_b3 : h0.size ≤ b3 := Nat.le_trans (Keep.refl h0 [r0]).1 (Nat.le_of_eq g3.symm)
  have K3 : Keep h0 h3 [r0] := (Keep.refl h0 [r0]).ext E3
  have Z3 : n0 ≤ h3.size := Nat.le_trans Z0 E3.1
  have c5 := (uE.ext E3)
  have c6 := (uv.ext E3)
  obtain ⟨T4, h4, X4, e4, W4, st4⟩ := putF X3 hx hZ hown (host := "") (Or.inl (wd hw 60 rfl)) Via.refl e3 c6 c5 (Or.inl (wd hw 61 rfl)) (wd hw 47 rfl) (ty := (.array .byte)) (by decide) rfl rfl (g := (mkF m 14 #[vr r0, vi (16 : Int32)] [(.ref b3), (.ref r0)])) rfl rfl (hb hby d11_14)
  have Fw4 := c6.same W4
  have N4 := Fr.snoc X4 N0 ug
  have K4 : Keep h0 h4 [r0] := K3.wr W4 (Or.inl (List.mem_of_getElem? (i := 0) rfl))
  have Z4 : n0 ≤ h4.size := by rw [W4.size]; exact Z3
  have c8 := (c5.wr W4)
  have c9 := ((uc.ext E3).other W4 (Or.inr (slot_ne (Or.inl (wd hw 63 rfl)) (Or.inl (wd hw 61 rfl)) (by decide) (t := .byte) (t' := (.array .byte)) (by decide) (by decide))))
  obtain ⟨T7, h7, X7, e7, W7, st7⟩ := putFN X4 hx hZ hown (wd hw 62 rfl) Via.refl e4 c9 c8 (Or.inl (wd hw 63 rfl)) (wd hw 47 rfl) (ty := .byte) (v' := z0) (by decide) rfl rfl (g := (mkF m 19 #[vr r0, vi (16 : Int32)] [z0, (.ref r0)])) rfl rfl (hb hby d11_19)
  have Fw7 := c9.same W7
  have N7 := Fr.snoc X7 N4 ug
  have K7 : Keep h0 h7 [r0] := K4.wr W7 (Or.inl (List.mem_of_getElem? (i := 0) rfl))
  have Z7 : n0 ≤ h7.size := by rw [W7.size]; exact Z4
  have c10 := (Fw4.other W7 (Or.inr (slot_ne (Or.inl (wd hw 61 rfl)) (Or.inl (wd hw 63 rfl)) (by decide) (t := (.array .byte)) (t' := .byte) (by decide) (by decide))))
  have c11 := (((uk.ext E3).other W4 (Or.inr (slot_ne (Or.inl (wd hw 86 rfl)) (Or.inl (wd hw 61 rfl)) (by decide) (t := .int) (t' := (.array .byte)) (by decide) (by decide)))).other W7 (Or.inr (slot_ne (Or.inl (wd hw 86 rfl)) (Or.inl (wd hw 63 rfl)) (by decide) (t := .int) (t' := .byte) (by decide) (by decide))))
  have c12 := ((AX3.wr W4).wr W7)
  have c13 := ((V3.other W4 (Ne.symm ne_r0_b3)).other W7 (Ne.symm ne_r0_b3))
  obtain ⟨fs, hr, hrun, hended, hW, hsame⟩ := X7.leave (v := none) (fun _ => rfl)
  refine ⟨_, _, pre0 _ ?_, hrun, hended, _, _, rfl, ?_, ⟨_, rfl⟩, hW, hsame.mono (by decide) (by decide)⟩
  · show SS p e below s₁ (mkF m 0 #[vr r0, vi (16 : Int32)] []) _
    refine XS.aloadN X0.here hx rfl (hb hby d11_0) rfl rfl ?_
    show SS p e below s₁ (mkF m 1 #[vr r0, vi (16 : Int32)] [(.ref r0)]) _
    refine st1 _ ?_
    show SS p e below T1 (mkF m 4 #[vr r0, vi (16 : Int32)] []) _
    refine st2 _ ?_
    show SS p e below T2 (mkF m 7 #[vr r0, vi (16 : Int32)] [(.int zc)]) _
    refine XS.ifNo X2.here hx rfl (hb hby d11_7) rfl ((if0 _ _).trans (feq (uP : ¬ (zc = (0 : Int32)))).1) ?_
    refine XS.aloadN X2.here hx rfl (hb hby d11_10) rfl rfl ?_
    refine XS.iloadN X2.here hx rfl (hb hby d11_11) rfl ?_
    refine st3 _ ?_
    refine st4 _ ?_
    refine XS.aloadN X4.here hx rfl (hb hby d11_17) rfl rfl ?_
    refine XS.iconst X4.here hx rfl (hb hby d11_18) ?_
    refine st7 _ ?_
    refine XS.goto X7.here hx rfl (pc0 := 22) (pc' := 38) rfl (hb hby d11_22) (by decide) (by decide) ?_
    exact X7.returnOut hx Bd.returns (hb hby d11_38) hr
  · show Q_rmASB Z r0 zc h0 n0 _ T7.heap _
    rw [e7]
    exact ⟨b3, k3, rfl, N7, K7, c10, Fw7, c11, sz_b3, c12, c13⟩
theorem ef_7 (m : MethodId) (x0 : Addr) : entryFrame m #[(.ref x0)] 1 = mkF m 0 #[vr x0] [] := by first | (simp [entryFrame, mkF, argsToLocals, Value.category]; done) | rfl
theorem pn_2 : plainName "java/lang/StringBuilder" = true := by first | (simp [plainName, overriddenIn]; done) | decide +kernel
theorem d10_0 : decode jdk_67_method_1_code 0 = .ok (.aload_n 0, 1) := by decide +kernel
theorem d10_1 : decode jdk_67_method_1_code 1 = .ok (.bipush 16, 2) := by decide +kernel
theorem d10_3 : decode jdk_67_method_1_code 3 = .ok (.invokespecial 1, 3) := by decide +kernel
theorem pd_1 : parseMethodDescriptor "(I)V" = some ⟨[.int], none⟩ := by decide +kernel
theorem d10_6 : decode jdk_67_method_1_code 6 = .ok (.return_, 1) := by decide +kernel
def Q_rmSB (Z : State) (r0 : Addr) (zc : Int32) (h0 : Heap) (n0 : Nat) (v : Option Value) (h : Heap) (L : List Loc) : Prop := ∃ (nb : Addr), ∃ (nk : ClassId), (v = none ∧ Fr n0 L ∧ Keep h0 h [r0] ∧ Fld Z h r0 "java/lang/AbstractStringBuilder" "value" "[B" (.ref nb) ∧ Fld Z h r0 "java/lang/AbstractStringBuilder" "coder" "B" z0 ∧ Fld Z h r0 "java/lang/AbstractStringBuilder" "count" "I" z0 ∧ h0.size ≤ nb ∧ Exa Z h nb "[B" ∧ Arv Z h nb nk .byte (16 : Int32) [z0, z0, z0, z0, z0, z0, z0, z0, z0, z0, z0, z0, z0, z0, z0, z0] z0)
set_option maxRecDepth 65536 in
set_option maxHeartbeats 40000000 in
theorem rmSB (l : Launch) (Z : State) (a0 : Array Value) (hw : ∀ d ∈ tables_1, d.before a0 Z = true) (ws : List Jvm.Cond) (r0 : Addr) (zc : Int32) (h0 : Heap) (n0 : Nat) (Z0 : n0 ≤ h0.size) (uO : Old Z n0 h0) (uS : Sta Z Z.heap "java/lang/String" "COMPACT_STRINGS" "Z" (.int zc)) (uP : ¬ zc = 0) (uE : Exa Z h0 r0 "java/lang/StringBuilder") (uv : Fld Z h0 r0 "java/lang/AbstractStringBuilder" "value" "[B" .null) (uc : Fld Z h0 r0 "java/lang/AbstractStringBuilder" "coder" "B" z0) (uk : Fld Z h0 r0 "java/lang/AbstractStringBuilder" "count" "I" z0) (ug : n0 ≤ r0) :
    MetFree l M7 (head1 (Jvm.Cond.code M7 jdk_67_method_1_code 1 none :: ws) ({ frames := 2, cells := 1, slots := 16, locals := 25 } : Room)) (fun a U => a = #[(.ref r0)] ∧ Z.Warmed39 U.vm ∧ U.heap = h0) (fun _ _ _ _ _ => True) (fun _ U o U' => ∃ v L, o = .returned v ∧ Q_rmSB Z r0 zc h0 n0 v U'.heap L ∧ FrameEnd U o U' L ({ frames := 2, cells := 1, slots := 16, locals := 25 } : Room).cells ({ frames := 2, cells := 1, slots := 16, locals := 25 } : Room).slots) := by
  refine MetFree.of_bodySF (plainFor_of_name pn_2) hisR ?_
  intro p e s m args below meth c s₁ Bd hml0 hP hK
  obtain ⟨rfl, hZ, hh⟩ := hP
  have hx := Bd.exec
  have hby := Bd.bytes
  have hml : c.maxLocals = 1 := hml0
  have hown : s.vm.findClass "java/lang/StringBuilder" = some m.cls := findClass_of_methodNamed Bd.named
  have hnm := (name_of_methodNamed Bd.named Bd.method).1
  have X0 : Stand p l e ({ frames := 2, cells := 1, slots := 16, locals := 25 } : Room) s m #[(.ref r0)] below meth c s₁ [] 0 0 := Stand.of_body Bd
  have e0 : s₁.heap = h0 := by rw [← hh, Bd.state]; rfl
  have N0 := Fr.nil n0
  have pre0 : ∀ t, Steps p.tables e below (s₁.setTop (mkF m 0 #[vr r0] [])) t → Steps p.tables e below (s₁.setTop (entryFrame m #[(.ref r0)] 1)) t := fun t k => castTop (ef_7 m r0) k
  obtain ⟨_, _, ⟨T1, Lw1, kw1, nw1⟩, -, X1, ⟨Lc1, hQ1, lq1, yq1, zq1⟩, st1⟩ := X0.specialBack hx (y := M6) rfl hown (mvT hZ (wd hw 52 rfl)) (mvT hZ (wd hw 53 rfl)) (mvT hZ (wd hw 57 rfl)) (by decide) (backOf (W := 0) (rmASB l Z a0 hw [] r0 zc h0 n0 Z0 uO uS uP uE uv uc uk ug) hZ (wd hw 57 rfl) (wd hw 56 rfl) (by decide) (by decide)) (g := (mkF m 3 #[vr r0] [(vI 16), (.ref r0)])) rfl (by rw [hml]; rfl) (Steps.refl _) (a := r0) (argsL := [(vI 16)]) (rest := []) (lenOf pd_1 rfl) rfl (by show 2 * 0 + _ ≤ _; exact Nat.le_of_eq rfl) (hb hby d10_3) (fun _ _ => ⟨rfl, e0, (by decide : 0 + 1 ≤ _), (by decide : 0 + 16 ≤ _)⟩)
  dsimp only [Pt.U, Pt.locs, Pt.cells, Pt.slots] at X1 lq1 yq1 zq1 st1 hQ1
  have X1 := own_reb X1 lq1 yq1 zq1
  obtain ⟨nb_1, nk_1, rfl, Nq1, Kq1, f1_0, f1_1, f1_2, f1_3, f1_4, f1_5⟩ := hQ1
  have N1 := Fr.app N0 Nq1
  have ne_r0_nb_1 : r0 ≠ nb_1 := Nat.ne_of_lt (Nat.lt_of_lt_of_le uE.lt f1_3)
  have g_nb_1 : n0 ≤ nb_1 := Nat.le_trans Z0 f1_3
  have sz_nb_1 : h0.size ≤ nb_1 := Nat.le_trans (Keep.refl h0 [r0]).1 f1_3
  have K1 : Keep h0 T1.heap [r0] := (Keep.refl h0 [r0]).trans Kq1 (allS (Or.inl (List.mem_of_getElem? (i := 0) rfl)) all0)
  have Z1 : n0 ≤ T1.heap.size := Nat.le_trans Z0 Kq1.1
  obtain ⟨fs, hr, hrun, hended, hW, hsame⟩ := X1.leave (v := none) (fun _ => rfl)
  refine ⟨_, _, pre0 _ ?_, hrun, hended, _, _, rfl, ?_, ⟨_, rfl⟩, hW, hsame.mono (by decide) (by decide)⟩
  · show SS p e below s₁ (mkF m 0 #[vr r0] []) _
    refine XS.aloadN X0.here hx rfl (hb hby d10_0) rfl rfl ?_
    refine XS.bipush X0.here hx rfl (hb hby d10_1) ?_
    show SS p e below s₁ (mkF m 3 #[vr r0] [(vI 16), (.ref r0)]) _
    refine st1.trans ?_
    exact X1.returnOut hx Bd.returns (hb hby d10_6) hr
  · show Q_rmSB Z r0 zc h0 n0 _ T1.heap _
    exact ⟨nb_1, nk_1, rfl, N1, K1, f1_0, f1_1, f1_2, sz_nb_1, f1_4, f1_5⟩
theorem ef_8 (m : MethodId) (x0 : Addr) : entryFrame m #[(.ref x0)] 1 = mkF m 0 #[vr x0] [] := by first | (simp [entryFrame, mkF, argsToLocals, Value.category]; done) | rfl
theorem d28_0 : decode jdk_68_method_64_code 0 = .ok (.aload_n 0, 1) := by decide +kernel
theorem d28_1 : decode jdk_68_method_64_code 1 = .ok (.getfield 15, 3) := by decide +kernel
theorem d28_4 : decode jdk_68_method_64_code 4 = .ok (.areturn, 1) := by decide +kernel
def Q_rmGV (Z : State) (r0 : Addr) (rv : Addr) (h0 : Heap) (n0 : Nat) (v : Option Value) (h : Heap) (L : List Loc) : Prop := (v = some (.ref rv) ∧ Fr n0 L ∧ h = h0)
set_option maxRecDepth 65536 in
set_option maxHeartbeats 40000000 in
theorem rmGV (l : Launch) (Z : State) (a0 : Array Value) (hw : ∀ d ∈ tables_1, d.before a0 Z = true) (ws : List Jvm.Cond) (r0 : Addr) (rv : Addr) (h0 : Heap) (n0 : Nat) (Z0 : n0 ≤ h0.size) (uv : Fld Z h0 r0 "java/lang/AbstractStringBuilder" "value" "[B" (.ref rv)) :
    MetFree l M8 (head1 (Jvm.Cond.code M8 jdk_68_method_64_code 1 (some (.array .byte)) :: ws) ({ frames := 0, cells := 0, slots := 0, locals := 0 } : Room)) (fun a U => a = #[(.ref r0)] ∧ Z.Warmed39 U.vm ∧ U.heap = h0) (fun _ _ _ _ _ => True) (fun _ U o U' => ∃ v L, o = .returned v ∧ Q_rmGV Z r0 rv h0 n0 v U'.heap L ∧ FrameEnd U o U' L ({ frames := 0, cells := 0, slots := 0, locals := 0 } : Room).cells ({ frames := 0, cells := 0, slots := 0, locals := 0 } : Room).slots) := by
  refine MetFree.of_bodySF (plainFor_of_name pn_1) hisR ?_
  intro p e s m args below meth c s₁ Bd hml0 hP hK
  obtain ⟨rfl, hZ, hh⟩ := hP
  have hx := Bd.exec
  have hby := Bd.bytes
  have hml : c.maxLocals = 1 := hml0
  have hown : s.vm.findClass "java/lang/AbstractStringBuilder" = some m.cls := findClass_of_methodNamed Bd.named
  have hnm := (name_of_methodNamed Bd.named Bd.method).1
  have X0 : Stand p l e ({ frames := 0, cells := 0, slots := 0, locals := 0 } : Room) s m #[(.ref r0)] below meth c s₁ [] 0 0 := Stand.of_body Bd
  have e0 : s₁.heap = h0 := by rw [← hh, Bd.state]; rfl
  have N0 := Fr.nil n0
  have pre0 : ∀ t, Steps p.tables e below (s₁.setTop (mkF m 0 #[vr r0] [])) t → Steps p.tables e below (s₁.setTop (entryFrame m #[(.ref r0)] 1)) t := fun t k => castTop (ef_8 m r0) k
  obtain ⟨T1, X1, e1, st1⟩ := getF X0 hx hZ hown (host := "") (Or.inl (wd hw 60 rfl)) Via.refl e0 uv (g := (mkF m 1 #[vr r0] [(.ref r0)])) rfl rfl (hb hby d28_1)
  obtain ⟨fs, hr, hrun, hended, hW, hsame⟩ := X1.leave (v := some (.ref rv)) (fun h => by rw [Bd.returns] at h; cases h)
  refine ⟨_, _, pre0 _ ?_, hrun, hended, _, _, rfl, ?_, ⟨_, rfl⟩, hW, hsame.mono (by decide) (by decide)⟩
  · show SS p e below s₁ (mkF m 0 #[vr r0] []) _
    refine XS.aloadN X0.here hx rfl (hb hby d28_0) rfl rfl ?_
    refine st1 _ ?_
    exact retOut X1 hx Bd.returns rfl (Or.inr (Or.inr (Or.inr (Or.inr ⟨rfl, rfl, rfl⟩)))) (hb hby d28_4) hr
  · show Q_rmGV Z r0 rv h0 n0 _ T1.heap _
    rw [e1]
    exact ⟨rfl, N0, rfl⟩
theorem ef_9 (m : MethodId) (x0 : Addr) : entryFrame m #[(.ref x0)] 1 = mkF m 0 #[vr x0] [] := by first | (simp [entryFrame, mkF, argsToLocals, Value.category]; done) | rfl
theorem d30_0 : decode jdk_68_method_6_code 0 = .ok (.aload_n 0, 1) := by decide +kernel
theorem d30_1 : decode jdk_68_method_6_code 1 = .ok (.getfield 79, 3) := by decide +kernel
theorem d30_4 : decode jdk_68_method_6_code 4 = .ok (.ireturn, 1) := by decide +kernel
def Q_rmAL (Z : State) (r0 : Addr) (cn : Int32) (h0 : Heap) (n0 : Nat) (v : Option Value) (h : Heap) (L : List Loc) : Prop := (v = some (.int cn) ∧ Fr n0 L ∧ h = h0)
set_option maxRecDepth 65536 in
set_option maxHeartbeats 40000000 in
theorem rmAL (l : Launch) (Z : State) (a0 : Array Value) (hw : ∀ d ∈ tables_1, d.before a0 Z = true) (ws : List Jvm.Cond) (r0 : Addr) (cn : Int32) (h0 : Heap) (n0 : Nat) (Z0 : n0 ≤ h0.size) (uk : Fld Z h0 r0 "java/lang/AbstractStringBuilder" "count" "I" (.int cn)) :
    MetFree l M9 (head1 (Jvm.Cond.code M9 jdk_68_method_6_code 1 (some .int) :: ws) ({ frames := 0, cells := 0, slots := 0, locals := 0 } : Room)) (fun a U => a = #[(.ref r0)] ∧ Z.Warmed39 U.vm ∧ U.heap = h0) (fun _ _ _ _ _ => True) (fun _ U o U' => ∃ v L, o = .returned v ∧ Q_rmAL Z r0 cn h0 n0 v U'.heap L ∧ FrameEnd U o U' L ({ frames := 0, cells := 0, slots := 0, locals := 0 } : Room).cells ({ frames := 0, cells := 0, slots := 0, locals := 0 } : Room).slots) := by
  refine MetFree.of_bodySF (plainFor_of_name pn_1) hisR ?_
  intro p e s m args below meth c s₁ Bd hml0 hP hK
  obtain ⟨rfl, hZ, hh⟩ := hP
  have hx := Bd.exec
  have hby := Bd.bytes
  have hml : c.maxLocals = 1 := hml0
  have hown : s.vm.findClass "java/lang/AbstractStringBuilder" = some m.cls := findClass_of_methodNamed Bd.named
  have hnm := (name_of_methodNamed Bd.named Bd.method).1
  have X0 : Stand p l e ({ frames := 0, cells := 0, slots := 0, locals := 0 } : Room) s m #[(.ref r0)] below meth c s₁ [] 0 0 := Stand.of_body Bd
  have e0 : s₁.heap = h0 := by rw [← hh, Bd.state]; rfl
  have N0 := Fr.nil n0
  have pre0 : ∀ t, Steps p.tables e below (s₁.setTop (mkF m 0 #[vr r0] [])) t → Steps p.tables e below (s₁.setTop (entryFrame m #[(.ref r0)] 1)) t := fun t k => castTop (ef_9 m r0) k
  obtain ⟨T1, X1, e1, st1⟩ := getF X0 hx hZ hown (host := "") (Or.inl (wd hw 85 rfl)) Via.refl e0 uk (g := (mkF m 1 #[vr r0] [(.ref r0)])) rfl rfl (hb hby d30_1)
  obtain ⟨fs, hr, hrun, hended, hW, hsame⟩ := X1.leave (v := some (.int cn)) (fun h => by rw [Bd.returns] at h; cases h)
  refine ⟨_, _, pre0 _ ?_, hrun, hended, _, _, rfl, ?_, ⟨_, rfl⟩, hW, hsame.mono (by decide) (by decide)⟩
  · show SS p e below s₁ (mkF m 0 #[vr r0] []) _
    refine XS.aloadN X0.here hx rfl (hb hby d30_0) rfl rfl ?_
    refine st1 _ ?_
    exact retI X1 hx Bd.returns (hb hby d30_4) hr
  · show Q_rmAL Z r0 cn h0 n0 _ T1.heap _
    rw [e1]
    exact ⟨rfl, N0, rfl⟩
theorem ef_10 (m : MethodId) (x0 : Addr) : entryFrame m #[(.ref x0)] 1 = mkF m 0 #[vr x0] [] := by first | (simp [entryFrame, mkF, argsToLocals, Value.category]; done) | rfl
theorem d29_0 : decode jdk_67_method_93_code 0 = .ok (.aload_n 0, 1) := by decide +kernel
theorem d29_1 : decode jdk_67_method_93_code 1 = .ok (.invokespecial 343, 3) := by decide +kernel
theorem pd_2 : parseMethodDescriptor "()I" = some ⟨[], some .int⟩ := by decide +kernel
theorem d29_4 : decode jdk_67_method_93_code 4 = .ok (.ireturn, 1) := by decide +kernel
def Q_rmSL (Z : State) (r0 : Addr) (cn : Int32) (h0 : Heap) (n0 : Nat) (v : Option Value) (h : Heap) (L : List Loc) : Prop := (v = some (.int cn) ∧ Fr n0 L ∧ h = h0)
set_option maxRecDepth 65536 in
set_option maxHeartbeats 40000000 in
theorem rmSL (l : Launch) (Z : State) (a0 : Array Value) (hw : ∀ d ∈ tables_1, d.before a0 Z = true) (ws : List Jvm.Cond) (r0 : Addr) (cn : Int32) (h0 : Heap) (n0 : Nat) (Z0 : n0 ≤ h0.size) (uE : Exa Z h0 r0 "java/lang/StringBuilder") (uk : Fld Z h0 r0 "java/lang/AbstractStringBuilder" "count" "I" (.int cn)) :
    MetFree l M10 (head1 (Jvm.Cond.code M10 jdk_67_method_93_code 1 (some .int) :: ws) ({ frames := 1, cells := 0, slots := 0, locals := 12 } : Room)) (fun a U => a = #[(.ref r0)] ∧ Z.Warmed39 U.vm ∧ U.heap = h0) (fun _ _ _ _ _ => True) (fun _ U o U' => ∃ v L, o = .returned v ∧ Q_rmSL Z r0 cn h0 n0 v U'.heap L ∧ FrameEnd U o U' L ({ frames := 1, cells := 0, slots := 0, locals := 12 } : Room).cells ({ frames := 1, cells := 0, slots := 0, locals := 12 } : Room).slots) := by
  refine MetFree.of_bodySF (plainFor_of_name pn_2) hisR ?_
  intro p e s m args below meth c s₁ Bd hml0 hP hK
  obtain ⟨rfl, hZ, hh⟩ := hP
  have hx := Bd.exec
  have hby := Bd.bytes
  have hml : c.maxLocals = 1 := hml0
  have hown : s.vm.findClass "java/lang/StringBuilder" = some m.cls := findClass_of_methodNamed Bd.named
  have hnm := (name_of_methodNamed Bd.named Bd.method).1
  have X0 : Stand p l e ({ frames := 1, cells := 0, slots := 0, locals := 12 } : Room) s m #[(.ref r0)] below meth c s₁ [] 0 0 := Stand.of_body Bd
  have e0 : s₁.heap = h0 := by rw [← hh, Bd.state]; rfl
  have N0 := Fr.nil n0
  have pre0 : ∀ t, Steps p.tables e below (s₁.setTop (mkF m 0 #[vr r0] [])) t → Steps p.tables e below (s₁.setTop (entryFrame m #[(.ref r0)] 1)) t := fun t k => castTop (ef_10 m r0) k
  obtain ⟨_, _, ⟨T1, Lw1, kw1, nw1⟩, -, X1, ⟨Lc1, hQ1, lq1, yq1, zq1⟩, st1⟩ := superBack X0 hx hZ (y := M9) hown (wd hw 158 rfl) (own_same (wd hw 154 rfl) (own_face (wd hw 90 rfl) rfl) (by decide)) (wd hw 154 rfl) (wd hw 72 rfl) (by decide) (backOf (W := 0) (rmAL l Z a0 hw [] r0 cn h0 n0 Z0 uk) hZ (wd hw 159 rfl) (wd hw 56 rfl) (by decide) (by decide)) e0 (Ins.self uE) (g := (mkF m 1 #[vr r0] [(.ref r0)])) rfl (by rw [hml]; rfl) (wd hw 159 rfl) (argsL := []) (rest := []) (lenOf pd_2 rfl) rfl (by show 2 * 0 + _ ≤ _; exact Nat.le_of_eq rfl) (hb hby d29_1) (fun _ _ => ⟨rfl, e0, (by decide : 0 + 0 ≤ _), (by decide : 0 + 0 ≤ _)⟩)
  dsimp only [Pt.U, Pt.locs, Pt.cells, Pt.slots] at X1 lq1 yq1 zq1 st1 hQ1
  have X1 := own_reb X1 lq1 yq1 zq1
  obtain ⟨rfl, Nq1, eh1⟩ := hQ1
  have N1 := Fr.app N0 Nq1
  obtain ⟨fs, hr, hrun, hended, hW, hsame⟩ := X1.leave (v := some (.int cn)) (fun h => by rw [Bd.returns] at h; cases h)
  refine ⟨_, _, pre0 _ ?_, hrun, hended, _, _, rfl, ?_, ⟨_, rfl⟩, hW, hsame.mono (by decide) (by decide)⟩
  · show SS p e below s₁ (mkF m 0 #[vr r0] []) _
    refine XS.aloadN X0.here hx rfl (hb hby d29_0) rfl rfl ?_
    show SS p e below s₁ (mkF m 1 #[vr r0] [(.ref r0)]) _
    refine st1.trans ?_
    exact retI X1 hx Bd.returns (hb hby d29_4) hr
  · show Q_rmSL Z r0 cn h0 n0 _ T1.heap _
    rw [eh1]
    exact ⟨rfl, N1, rfl⟩
theorem ef_11 (m : MethodId) (x0 : Int32) (x1 : Int32) : entryFrame m #[(.int x0), (.int x1)] 2 = mkF m 0 #[vi x0, vi x1] [] := by first | (simp [entryFrame, mkF, argsToLocals, Value.category]; done) | rfl
theorem pn_3 : plainName "java/util/Arrays" = true := by first | (simp [plainName, overriddenIn]; done) | decide +kernel
theorem d34_0 : decode jdk_65_method_131_code 0 = .ok (.iload_n 1, 1) := by decide +kernel
theorem d34_1 : decode jdk_65_method_131_code 1 = .ok (.iload_n 0, 1) := by decide +kernel
theorem d34_2 : decode jdk_65_method_131_code 2 = .ok (.if_icmp .ge 35, 3) := by decide +kernel
theorem d34_37 : decode jdk_65_method_131_code 37 = .ok (.return_, 1) := by decide +kernel
def Q_rmChk (Z : State) (p0 : Int32) (p1 : Int32) (h0 : Heap) (n0 : Nat) (v : Option Value) (h : Heap) (L : List Loc) : Prop := (v = none ∧ Fr n0 L ∧ h = h0)
set_option maxRecDepth 65536 in
set_option maxHeartbeats 40000000 in
theorem rmChk (l : Launch) (Z : State) (a0 : Array Value) (hw : ∀ d ∈ tables_1, d.before a0 Z = true) (ws : List Jvm.Cond) (p0 : Int32) (p1 : Int32) (h0 : Heap) (n0 : Nat) (Z0 : n0 ≤ h0.size) (u1 : ¬ (p1 < p0)) :
    MetFree l M11 (head1 (Jvm.Cond.code M11 jdk_65_method_131_code 2 none :: ws) ({ frames := 0, cells := 0, slots := 0, locals := 0 } : Room)) (fun a U => a = #[(.int p0), (.int p1)] ∧ Z.Warmed39 U.vm ∧ U.heap = h0) (fun _ _ _ _ _ => True) (fun _ U o U' => ∃ v L, o = .returned v ∧ Q_rmChk Z p0 p1 h0 n0 v U'.heap L ∧ FrameEnd U o U' L ({ frames := 0, cells := 0, slots := 0, locals := 0 } : Room).cells ({ frames := 0, cells := 0, slots := 0, locals := 0 } : Room).slots) := by
  refine MetFree.of_bodySF (plainFor_of_name pn_3) hisR ?_
  intro p e s m args below meth c s₁ Bd hml0 hP hK
  obtain ⟨rfl, hZ, hh⟩ := hP
  have hx := Bd.exec
  have hby := Bd.bytes
  have hml : c.maxLocals = 2 := hml0
  have hown : s.vm.findClass "java/util/Arrays" = some m.cls := findClass_of_methodNamed Bd.named
  have hnm := (name_of_methodNamed Bd.named Bd.method).1
  have X0 : Stand p l e ({ frames := 0, cells := 0, slots := 0, locals := 0 } : Room) s m #[(.int p0), (.int p1)] below meth c s₁ [] 0 0 := Stand.of_body Bd
  have e0 : s₁.heap = h0 := by rw [← hh, Bd.state]; rfl
  have N0 := Fr.nil n0
  have pre0 : ∀ t, Steps p.tables e below (s₁.setTop (mkF m 0 #[vi p0, vi p1] [])) t → Steps p.tables e below (s₁.setTop (entryFrame m #[(.int p0), (.int p1)] 2)) t := fun t k => castTop (ef_11 m p0 p1) k
  obtain ⟨fs, hr, hrun, hended, hW, hsame⟩ := X0.leave (v := none) (fun _ => rfl)
  refine ⟨_, _, pre0 _ ?_, hrun, hended, _, _, rfl, ?_, ⟨_, rfl⟩, hW, hsame.mono (by decide) (by decide)⟩
  · show SS p e below s₁ (mkF m 0 #[vi p0, vi p1] []) _
    refine XS.iloadN X0.here hx rfl (hb hby d34_0) rfl ?_
    refine XS.iloadN X0.here hx rfl (hb hby d34_1) rfl ?_
    show SS p e below s₁ (mkF m 2 #[vi p0, vi p1] [(.int p0), (.int p1)]) _
    refine XS.icmpYes X0.here hx rfl (pc0 := 2) (pc' := 37) rfl (hb hby d34_2) rfl (flt (u1 : ¬ (p1 < p0))).2.1 (by decide) (by decide) ?_
    exact X0.returnOut hx Bd.returns (hb hby d34_37) hr
  · show Q_rmChk Z p0 p1 h0 n0 _ s₁.heap _
    rw [e0]
    exact ⟨rfl, N0, rfl⟩
theorem ef_12 (m : MethodId) (x0 : Addr) (x1 : Int32) : entryFrame m #[(.ref x0), (.int x1)] 3 = mkF m 0 #[vr x0, vi x1, uu] [] := by first | (simp [entryFrame, mkF, argsToLocals, Value.category]; done) | rfl
theorem d16_0 : decode jdk_68_method_9_code 0 = .ok (.aload_n 0, 1) := by decide +kernel
theorem d16_1 : decode jdk_68_method_9_code 1 = .ok (.getfield 15, 3) := by decide +kernel
theorem d16_4 : decode jdk_68_method_9_code 4 = .ok (.arraylength, 1) := by decide +kernel
theorem d16_5 : decode jdk_68_method_9_code 5 = .ok (.aload_n 0, 1) := by decide +kernel
theorem d16_6 : decode jdk_68_method_9_code 6 = .ok (.getfield 22, 3) := by decide +kernel
theorem d16_9 : decode jdk_68_method_9_code 9 = .ok (.ishr, 1) := by decide +kernel
theorem d16_10 : decode jdk_68_method_9_code 10 = .ok (.istore_n 2, 1) := by decide +kernel
theorem d16_11 : decode jdk_68_method_9_code 11 = .ok (.iload_n 1, 1) := by decide +kernel
theorem d16_12 : decode jdk_68_method_9_code 12 = .ok (.iload_n 2, 1) := by decide +kernel
theorem d16_13 : decode jdk_68_method_9_code 13 = .ok (.isub, 1) := by decide +kernel
theorem d16_14 : decode jdk_68_method_9_code 14 = .ok (.ifCond .le 24, 3) := by decide +kernel
theorem d16_38 : decode jdk_68_method_9_code 38 = .ok (.return_, 1) := by decide +kernel
def Q_rg_ensK (Z : State) (r0 : Addr) (p1 : Int32) (rv : Addr) (kv : ClassId) (zv : Int32) (vv : List Value) (h0 : Heap) (n0 : Nat) (v : Option Value) (h : Heap) (L : List Loc) : Prop := (v = none ∧ Fr n0 L ∧ h = h0)
set_option maxRecDepth 65536 in
set_option maxHeartbeats 40000000 in
theorem rg_ensK (l : Launch) (Z : State) (a0 : Array Value) (hw : ∀ d ∈ tables_1, d.before a0 Z = true) (ws : List Jvm.Cond) (r0 : Addr) (p1 : Int32) (rv : Addr) (kv : ClassId) (zv : Int32) (vv : List Value) (h0 : Heap) (n0 : Nat) (Z0 : n0 ≤ h0.size) (uE : Exa Z h0 r0 "java/lang/StringBuilder") (uv : Fld Z h0 r0 "java/lang/AbstractStringBuilder" "value" "[B" (.ref rv)) (uc : Fld Z h0 r0 "java/lang/AbstractStringBuilder" "coder" "B" z0) (uV : Arv Z h0 rv kv .byte zv vv z0) (uK : ¬ ((0 : Int32) < (p1 - zv))) :
    MetFree l M12 (head1 (Jvm.Cond.code M12 jdk_68_method_9_code 3 none :: ws) ({ frames := 0, cells := 0, slots := 0, locals := 0 } : Room)) (fun a U => a = #[(.ref r0), (.int p1)] ∧ Z.Warmed39 U.vm ∧ U.heap = h0) (fun _ _ _ _ _ => True) (fun _ U o U' => ∃ v L, o = .returned v ∧ Q_rg_ensK Z r0 p1 rv kv zv vv h0 n0 v U'.heap L ∧ FrameEnd U o U' L ({ frames := 0, cells := 0, slots := 0, locals := 0 } : Room).cells ({ frames := 0, cells := 0, slots := 0, locals := 0 } : Room).slots) := by
  refine MetFree.of_bodySF (plainFor_of_name pn_1) hisR ?_
  intro p e s m args below meth c s₁ Bd hml0 hP hK
  obtain ⟨rfl, hZ, hh⟩ := hP
  have hx := Bd.exec
  have hby := Bd.bytes
  have hml : c.maxLocals = 3 := hml0
  have hown : s.vm.findClass "java/lang/AbstractStringBuilder" = some m.cls := findClass_of_methodNamed Bd.named
  have hnm := (name_of_methodNamed Bd.named Bd.method).1
  have X0 : Stand p l e ({ frames := 0, cells := 0, slots := 0, locals := 0 } : Room) s m #[(.ref r0), (.int p1)] below meth c s₁ [] 0 0 := Stand.of_body Bd
  have e0 : s₁.heap = h0 := by rw [← hh, Bd.state]; rfl
  have N0 := Fr.nil n0
  have pre0 : ∀ t, Steps p.tables e below (s₁.setTop (mkF m 0 #[vr r0, vi p1, uu] [])) t → Steps p.tables e below (s₁.setTop (entryFrame m #[(.ref r0), (.int p1)] 3)) t := fun t k => castTop (ef_12 m r0 p1) k
  obtain ⟨T1, X1, e1, st1⟩ := getF X0 hx hZ hown (host := "") (Or.inl (wd hw 60 rfl)) Via.refl e0 uv (g := (mkF m 1 #[vr r0, vi p1, uu] [(.ref r0)])) rfl rfl (hb hby d16_1)
  obtain ⟨cl2, Ar2, q2, S2, Nn2, H2, G2⟩ := (id uV)
  obtain ⟨T3, X3, e3, st3⟩ := getF X1 hx hZ hown (host := "") (Or.inl (wd hw 62 rfl)) Via.refl e1 uc (g := (mkF m 6 #[vr r0, vi p1, uu] [(.ref r0), (.int zv)])) rfl rfl (hb hby d16_6)
  obtain ⟨fs, hr, hrun, hended, hW, hsame⟩ := X3.leave (v := none) (fun _ => rfl)
  refine ⟨_, _, pre0 _ ?_, hrun, hended, _, _, rfl, ?_, ⟨_, rfl⟩, hW, hsame.mono (by decide) (by decide)⟩
  · show SS p e below s₁ (mkF m 0 #[vr r0, vi p1, uu] []) _
    refine XS.aloadN X0.here hx rfl (hb hby d16_0) rfl rfl ?_
    refine st1 _ ?_
    show SS p e below T1 (mkF m 4 #[vr r0, vi p1, uu] [(.ref rv)]) _
    refine X1.arraylength hx (own_at e1 Ar2.1) (State.isArrayOf_alike hZ.alike Ar2.2.1) (g := (mkF m 4 #[vr r0, vi p1, uu] [(.ref rv)])) rfl rfl (hb hby d16_4) _ ?_
    rw [len_of S2 Nn2]
    refine XS.aloadN X1.here hx rfl (hb hby d16_5) rfl rfl ?_
    refine st3 _ ?_
    show SS p e below T3 (mkF m 9 #[vr r0, vi p1, uu] [z0, (.int zv)]) _
    refine XS.ishr X3.here hx rfl (hb hby d16_9) rfl ?_
    show SS p e below T3 (mkF m 10 #[vr r0, vi p1, uu] [(.int (zv >>> ((0 : Int32) &&& 31)))]) _
    rw [own_shr0 _]
    refine XS.istoreN X3.here hx rfl (hb hby d16_10) rfl (l' := #[vr r0, vi p1, vi zv]) rfl ?_
    refine XS.iloadN X3.here hx rfl (hb hby d16_11) rfl ?_
    refine XS.iloadN X3.here hx rfl (hb hby d16_12) rfl ?_
    refine XS.isub X3.here hx rfl (hb hby d16_13) rfl ?_
    show SS p e below T3 (mkF m 14 #[vr r0, vi p1, vi zv] [(.int (p1 - zv))]) _
    refine XS.ifYes X3.here hx rfl (pc0 := 14) (pc' := 38) rfl (hb hby d16_14) rfl ((if0 _ _).trans (flt (uK : ¬ ((0 : Int32) < (p1 - zv)))).2.2.2) (by decide) (by decide) ?_
    exact X3.returnOut hx Bd.returns (hb hby d16_38) hr
  · show Q_rg_ensK Z r0 p1 rv kv zv vv h0 n0 _ T3.heap _
    rw [e3]
    exact ⟨rfl, N0, rfl⟩
theorem ef_13 (m : MethodId) (x0 : Addr) (x1 : Addr) (x2 : Int32) : entryFrame m #[(.ref x0), (.ref x1), (.int x2), z0] 4 = mkF m 0 #[vr x0, vr x1, vi x2, vi (0 : Int32)] [] := by first | (simp [entryFrame, mkF, argsToLocals, Value.category]; done) | rfl
theorem d24_0 : decode jdk_42_method_147_code 0 = .ok (.aload_n 0, 1) := by decide +kernel
theorem d24_1 : decode jdk_42_method_147_code 1 = .ok (.invokevirtual 335, 3) := by decide +kernel
theorem d24_4 : decode jdk_42_method_147_code 4 = .ok (.iload_n 3, 1) := by decide +kernel
theorem d24_5 : decode jdk_42_method_147_code 5 = .ok (.if_icmp .ne 23, 3) := by decide +kernel
theorem d24_8 : decode jdk_42_method_147_code 8 = .ok (.aload_n 0, 1) := by decide +kernel
theorem d24_9 : decode jdk_42_method_147_code 9 = .ok (.getfield 9, 3) := by decide +kernel
theorem d24_12 : decode jdk_42_method_147_code 12 = .ok (.iconst 0, 1) := by decide +kernel
theorem d24_13 : decode jdk_42_method_147_code 13 = .ok (.aload_n 1, 1) := by decide +kernel
theorem d24_14 : decode jdk_42_method_147_code 14 = .ok (.iload_n 2, 1) := by decide +kernel
theorem d24_15 : decode jdk_42_method_147_code 15 = .ok (.iload_n 3, 1) := by decide +kernel
theorem d24_16 : decode jdk_42_method_147_code 16 = .ok (.ishl, 1) := by decide +kernel
theorem d24_17 : decode jdk_42_method_147_code 17 = .ok (.aload_n 0, 1) := by decide +kernel
theorem d24_18 : decode jdk_42_method_147_code 18 = .ok (.getfield 9, 3) := by decide +kernel
theorem d24_21 : decode jdk_42_method_147_code 21 = .ok (.arraylength, 1) := by decide +kernel
theorem d24_22 : decode jdk_42_method_147_code 22 = .ok (.invokestatic 212, 3) := by decide +kernel
theorem d24_25 : decode jdk_42_method_147_code 25 = .ok (.goto 18, 3) := by decide +kernel
theorem d24_43 : decode jdk_42_method_147_code 43 = .ok (.return_, 1) := by decide +kernel
def Q_rg_gb (Z : State) (r0 : Addr) (r1 : Addr) (p2 : Int32) (zc : Int32) (rt : Addr) (kt : ClassId) (zt : Int32) (vt : List Value) (kd : ClassId) (zv : Int32) (vd : List Value) (h0 : Heap) (n0 : Nat) (v : Option Value) (h : Heap) (L : List Loc) : Prop := (v = none ∧ Fr n0 L ∧ Keep h0 h [r1] ∧ Arv Z h r1 kd .byte zv (own_put p2.toNatClampNeg zt.toNatClampNeg vd vt) z0)
set_option maxRecDepth 65536 in
set_option maxHeartbeats 40000000 in
theorem rg_gb (l : Launch) (Z : State) (a0 : Array Value) (hw : ∀ d ∈ tables_1, d.before a0 Z = true) (ws : List Jvm.Cond) (r0 : Addr) (r1 : Addr) (p2 : Int32) (zc : Int32) (rt : Addr) (kt : ClassId) (zt : Int32) (vt : List Value) (kd : ClassId) (zv : Int32) (vd : List Value) (h0 : Heap) (n0 : Nat) (Z0 : n0 ≤ h0.size) (uO : Old Z n0 h0) (uS : Sta Z Z.heap "java/lang/String" "COMPACT_STRINGS" "Z" (.int zc)) (uP : ¬ zc = 0) (us : Exa Z h0 r0 "java/lang/String") (usv : Fld Z h0 r0 "java/lang/String" "value" "[B" (.ref rt)) (usc : Fld Z h0 r0 "java/lang/String" "coder" "B" z0) (usV : Arv Z h0 rt kt .byte zt vt z0) (uVd : Arv Z h0 r1 kd .byte zv vd z0) (uL : vd.length = zv.toNatClampNeg) (uc0 : ¬ p2 < 0) (uz0 : ¬ zt < 0) (uS1 : p2.toNatClampNeg + zt.toNatClampNeg ≤ zv.toNatClampNeg) (ug : n0 ≤ r1) :
    MetFree l M13 (head1 (Jvm.Cond.code M13 jdk_42_method_147_code 4 none :: ws) ({ frames := 1, cells := 0, slots := 0, locals := 18 } : Room)) (fun a U => a = #[(.ref r0), (.ref r1), (.int p2), z0] ∧ Z.Warmed39 U.vm ∧ U.heap = h0) (fun _ _ _ _ _ => True) (fun _ U o U' => ∃ v L, o = .returned v ∧ Q_rg_gb Z r0 r1 p2 zc rt kt zt vt kd zv vd h0 n0 v U'.heap L ∧ FrameEnd U o U' L ({ frames := 1, cells := 0, slots := 0, locals := 18 } : Room).cells ({ frames := 1, cells := 0, slots := 0, locals := 18 } : Room).slots) := by
  refine MetFree.of_bodySF (plainFor_of_name pn_0) hisR ?_
  intro p e s m args below meth c s₁ Bd hml0 hP hK
  obtain ⟨rfl, hZ, hh⟩ := hP
  have hx := Bd.exec
  have hby := Bd.bytes
  have hml : c.maxLocals = 4 := hml0
  have hown : s.vm.findClass "java/lang/String" = some m.cls := findClass_of_methodNamed Bd.named
  have hnm := (name_of_methodNamed Bd.named Bd.method).1
  have X0 : Stand p l e ({ frames := 1, cells := 0, slots := 0, locals := 18 } : Room) s m #[(.ref r0), (.ref r1), (.int p2), z0] below meth c s₁ [] 0 0 := Stand.of_body Bd
  have e0 : s₁.heap = h0 := by rw [← hh, Bd.state]; rfl
  have N0 := Fr.nil n0
  have pre0 : ∀ t, Steps p.tables e below (s₁.setTop (mkF m 0 #[vr r0, vr r1, vi p2, vi (0 : Int32)] [])) t → Steps p.tables e below (s₁.setTop (entryFrame m #[(.ref r0), (.ref r1), (.int p2), z0] 4)) t := fun t k => castTop (ef_13 m r0 r1 p2) k
  obtain ⟨cq1, kq1, q1a, q1b, q1c⟩ := isOf hZ e0 us
  obtain ⟨_, _, ⟨T1, Lw1, kw1, nw1⟩, -, X1, ⟨Lc1, hQ1, lq1, yq1, zq1⟩, st1⟩ := X0.virtualBack hx (y := M2) (z := M2) hown (mvT hZ (wd hw 80 rfl)) (mvT hZ (wd hw 81 rfl)) (notFace_of_selects (args := #[]) (mvT hZ (wd hw 83 rfl))) (mvT hZ (wd hw 83 rfl)) (mvT hZ (wd hw 82 rfl)) (by decide) (backOf (W := 0) (rmCoder l Z a0 hw [] r0 zc h0 n0 Z0 uO uS uP usc) hZ (wd hw 84 rfl) (wd hw 6 rfl) (by decide) (by decide)) q1a q1c (g := (mkF m 1 #[vr r0, vr r1, vi p2, vi (0 : Int32)] [(.ref r0)])) rfl (by rw [hml]; rfl) (Steps.refl _) (argsL := []) (rest := []) (lenOf pd_0 rfl) rfl (by show 2 * 0 + _ ≤ _; exact Nat.le_of_eq rfl) (hb hby d24_1) (fun _ _ => ⟨rfl, e0, (by decide : 0 + 0 ≤ _), (by decide : 0 + 0 ≤ _)⟩)
  dsimp only [Pt.U, Pt.locs, Pt.cells, Pt.slots] at X1 lq1 yq1 zq1 st1 hQ1
  have X1 := own_reb X1 lq1 yq1 zq1
  obtain ⟨rfl, Nq1, eh1⟩ := hQ1
  have N1 := Fr.app N0 Nq1
  obtain ⟨T2, X2, e2, st2⟩ := getF X1 hx hZ hown (host := "") (Or.inl (wd hw 24 rfl)) Via.refl eh1 usv (g := (mkF m 9 #[vr r0, vr r1, vi p2, vi (0 : Int32)] [(.ref r0)])) rfl rfl (hb hby d24_9)
  obtain ⟨T3, X3, e3, st3⟩ := getF X2 hx hZ hown (host := "") (Or.inl (wd hw 24 rfl)) Via.refl e2 usv (g := (mkF m 18 #[vr r0, vr r1, vi p2, vi (0 : Int32)] [(.ref r0), (.int p2), (.ref r1), z0, (.ref rt)])) rfl rfl (hb hby d24_18)
  obtain ⟨cl4, Ar4, q4, S4, Nn4, H4, G4⟩ := (id usV)
  obtain ⟨T5, h5, L5, X5, e5, N5, Kq5, V5, st5⟩ := cpA X3 hx hZ hown (wd hw 134 rfl) (wd hw 117 rfl) (wd hw 115 rfl) (wd hw 116 rfl) e3 (us := ((List.range (zt).toNatClampNeg).map fun i => List.getD vt (((0 : Int32)).toNatClampNeg + i) z0)) usV uVd (Or.inl ⟨rfl, rfl⟩) (by decide) uc0 uz0 (Nat.le_of_eq (Nat.zero_add _)) uS1 rfl (by rw [uL]; exact uS1) N1 ug (g := (mkF m 22 #[vr r0, vr r1, vi p2, vi (0 : Int32)] [(.int zt), (.int p2), (.ref r1), z0, (.ref rt)])) rfl (by rw [hml]; rfl) rfl (hb hby d24_22) (by decide) (W := 0) (by show 2 * 0 + _ ≤ _; exact Nat.le_of_eq rfl) (by decide)
  have K5 : Keep h0 h5 [r1] := (Keep.refl h0 [r1]).trans Kq5 (allS (Or.inl (List.mem_of_getElem? (i := 0) rfl)) all0)
  have Z5 : n0 ≤ h5.size := Nat.le_trans Z0 Kq5.1
  obtain ⟨fs, hr, hrun, hended, hW, hsame⟩ := X5.leave (v := none) (fun _ => rfl)
  refine ⟨_, _, pre0 _ ?_, hrun, hended, _, _, rfl, ?_, ⟨_, rfl⟩, hW, hsame.mono (by decide) (by decide)⟩
  · show SS p e below s₁ (mkF m 0 #[vr r0, vr r1, vi p2, vi (0 : Int32)] []) _
    refine XS.aloadN X0.here hx rfl (hb hby d24_0) rfl rfl ?_
    show SS p e below s₁ (mkF m 1 #[vr r0, vr r1, vi p2, vi (0 : Int32)] [(.ref r0)]) _
    refine st1.trans ?_
    refine XS.iloadN X1.here hx rfl (hb hby d24_4) rfl ?_
    show SS p e below T1 (mkF m 5 #[vr r0, vr r1, vi p2, vi (0 : Int32)] [z0, z0]) _
    refine XS.icmpNo X1.here hx rfl (hb hby d24_5) rfl (teq (by decide : (0 : Int32) = (0 : Int32))).2 ?_
    refine XS.aloadN X1.here hx rfl (hb hby d24_8) rfl rfl ?_
    refine st2 _ ?_
    refine XS.iconst X2.here hx rfl (hb hby d24_12) ?_
    refine XS.aloadN X2.here hx rfl (hb hby d24_13) rfl rfl ?_
    refine XS.iloadN X2.here hx rfl (hb hby d24_14) rfl ?_
    refine XS.iloadN X2.here hx rfl (hb hby d24_15) rfl ?_
    show SS p e below T2 (mkF m 16 #[vr r0, vr r1, vi p2, vi (0 : Int32)] [z0, (.int p2), (.ref r1), z0, (.ref rt)]) _
    refine XS.ishl X2.here hx rfl (hb hby d24_16) rfl ?_
    show SS p e below T2 (mkF m 17 #[vr r0, vr r1, vi p2, vi (0 : Int32)] [(.int (p2 <<< ((0 : Int32) &&& 31))), (.ref r1), z0, (.ref rt)]) _
    rw [own_shl0 _]
    refine XS.aloadN X2.here hx rfl (hb hby d24_17) rfl rfl ?_
    refine st3 _ ?_
    show SS p e below T3 (mkF m 21 #[vr r0, vr r1, vi p2, vi (0 : Int32)] [(.ref rt), (.int p2), (.ref r1), z0, (.ref rt)]) _
    refine X3.arraylength hx (own_at e3 Ar4.1) (State.isArrayOf_alike hZ.alike Ar4.2.1) (g := (mkF m 21 #[vr r0, vr r1, vi p2, vi (0 : Int32)] [(.ref rt), (.int p2), (.ref r1), z0, (.ref rt)])) rfl rfl (hb hby d24_21) _ ?_
    rw [len_of S4 Nn4]
    show SS p e below T3 (mkF m 22 #[vr r0, vr r1, vi p2, vi (0 : Int32)] [(.int zt), (.int p2), (.ref r1), z0, (.ref rt)]) _
    refine st5 _ ?_
    refine XS.goto X5.here hx rfl (pc0 := 25) (pc' := 43) rfl (hb hby d24_25) (by decide) (by decide) ?_
    exact X5.returnOut hx Bd.returns (hb hby d24_43) hr
  · show Q_rg_gb Z r0 r1 p2 zc rt kt zt vt kd zv vd h0 n0 _ T5.heap _
    rw [e5]
    exact ⟨rfl, N5, K5, V5⟩
theorem ef_14 (m : MethodId) (x0 : Addr) (x1 : Int32) (x2 : Addr) : entryFrame m #[(.ref x0), (.int x1), (.ref x2)] 3 = mkF m 0 #[vr x0, vi x1, vr x2] [] := by first | (simp [entryFrame, mkF, argsToLocals, Value.category]; done) | rfl
theorem d22_0 : decode jdk_68_method_73_code 0 = .ok (.aload_n 0, 1) := by decide +kernel
theorem d22_1 : decode jdk_68_method_73_code 1 = .ok (.aload_n 2, 1) := by decide +kernel
theorem d22_2 : decode jdk_68_method_73_code 2 = .ok (.invokevirtual 397, 3) := by decide +kernel
theorem pd_3 : parseMethodDescriptor "(Ljava/lang/String;)V" = some ⟨[(.object "java/lang/String")], none⟩ := by decide +kernel
theorem d22_5 : decode jdk_68_method_73_code 5 = .ok (.aload_n 2, 1) := by decide +kernel
theorem d22_6 : decode jdk_68_method_73_code 6 = .ok (.aload_n 0, 1) := by decide +kernel
theorem d22_7 : decode jdk_68_method_73_code 7 = .ok (.getfield 15, 3) := by decide +kernel
theorem d22_10 : decode jdk_68_method_73_code 10 = .ok (.iload_n 1, 1) := by decide +kernel
theorem d22_11 : decode jdk_68_method_73_code 11 = .ok (.aload_n 0, 1) := by decide +kernel
theorem d22_12 : decode jdk_68_method_73_code 12 = .ok (.getfield 22, 3) := by decide +kernel
theorem d22_15 : decode jdk_68_method_73_code 15 = .ok (.invokevirtual 399, 3) := by decide +kernel
theorem pd_4 : parseMethodDescriptor "([BIB)V" = some ⟨[(.array .byte), .int, .byte], none⟩ := by decide +kernel
theorem d22_18 : decode jdk_68_method_73_code 18 = .ok (.return_, 1) := by decide +kernel
def Q_rg_ps (Z : State) (r0 : Addr) (p1 : Int32) (r2 : Addr) (zc : Int32) (rv : Addr) (kv : ClassId) (zv : Int32) (vv : List Value) (rt : Addr) (kt : ClassId) (zt : Int32) (vt : List Value) (h0 : Heap) (n0 : Nat) (v : Option Value) (h : Heap) (L : List Loc) : Prop := (v = none ∧ Fr n0 L ∧ Keep h0 h [rv] ∧ Arv Z h rv kv .byte zv (own_put p1.toNatClampNeg zt.toNatClampNeg vv vt) z0)
set_option maxRecDepth 65536 in
set_option maxHeartbeats 40000000 in
theorem rg_ps (l : Launch) (Z : State) (a0 : Array Value) (hw : ∀ d ∈ tables_1, d.before a0 Z = true) (ws : List Jvm.Cond) (r0 : Addr) (p1 : Int32) (r2 : Addr) (zc : Int32) (rv : Addr) (kv : ClassId) (zv : Int32) (vv : List Value) (rt : Addr) (kt : ClassId) (zt : Int32) (vt : List Value) (h0 : Heap) (n0 : Nat) (Z0 : n0 ≤ h0.size) (uO : Old Z n0 h0) (uS : Sta Z Z.heap "java/lang/String" "COMPACT_STRINGS" "Z" (.int zc)) (uP : ¬ zc = 0) (uE : Exa Z h0 r0 "java/lang/StringBuilder") (uv : Fld Z h0 r0 "java/lang/AbstractStringBuilder" "value" "[B" (.ref rv)) (uc : Fld Z h0 r0 "java/lang/AbstractStringBuilder" "coder" "B" z0) (uV : Arv Z h0 rv kv .byte zv vv z0) (uL : vv.length = zv.toNatClampNeg) (us : Exa Z h0 r2 "java/lang/String") (usv : Fld Z h0 r2 "java/lang/String" "value" "[B" (.ref rt)) (usc : Fld Z h0 r2 "java/lang/String" "coder" "B" z0) (usV : Arv Z h0 rt kt .byte zt vt z0) (uc0 : ¬ p1 < 0) (uz0 : ¬ zt < 0) (uS1 : p1.toNatClampNeg + zt.toNatClampNeg ≤ zv.toNatClampNeg) (ug : n0 ≤ rv) :
    MetFree l M14 (head1 (Jvm.Cond.code M14 jdk_68_method_73_code 3 none :: ws) ({ frames := 2, cells := 0, slots := 0, locals := 33 } : Room)) (fun a U => a = #[(.ref r0), (.int p1), (.ref r2)] ∧ Z.Warmed39 U.vm ∧ U.heap = h0) (fun _ _ _ _ _ => True) (fun _ U o U' => ∃ v L, o = .returned v ∧ Q_rg_ps Z r0 p1 r2 zc rv kv zv vv rt kt zt vt h0 n0 v U'.heap L ∧ FrameEnd U o U' L ({ frames := 2, cells := 0, slots := 0, locals := 33 } : Room).cells ({ frames := 2, cells := 0, slots := 0, locals := 33 } : Room).slots) := by
  refine MetFree.of_bodySF (plainFor_of_name pn_1) hisR ?_
  intro p e s m args below meth c s₁ Bd hml0 hP hK
  obtain ⟨rfl, hZ, hh⟩ := hP
  have hx := Bd.exec
  have hby := Bd.bytes
  have hml : c.maxLocals = 3 := hml0
  have hown : s.vm.findClass "java/lang/AbstractStringBuilder" = some m.cls := findClass_of_methodNamed Bd.named
  have hnm := (name_of_methodNamed Bd.named Bd.method).1
  have X0 : Stand p l e ({ frames := 2, cells := 0, slots := 0, locals := 33 } : Room) s m #[(.ref r0), (.int p1), (.ref r2)] below meth c s₁ [] 0 0 := Stand.of_body Bd
  have e0 : s₁.heap = h0 := by rw [← hh, Bd.state]; rfl
  have N0 := Fr.nil n0
  have pre0 : ∀ t, Steps p.tables e below (s₁.setTop (mkF m 0 #[vr r0, vi p1, vr r2] [])) t → Steps p.tables e below (s₁.setTop (entryFrame m #[(.ref r0), (.int p1), (.ref r2)] 3)) t := fun t k => castTop (ef_14 m r0 p1 r2) k
  obtain ⟨cq1, kq1, q1a, q1b, q1c⟩ := isOf hZ e0 uE
  obtain ⟨_, _, ⟨T1, Lw1, kw1, nw1⟩, -, X1, ⟨Lc1, hQ1, lq1, yq1, zq1⟩, st1⟩ := X0.virtualBack hx (y := M5) (z := M5) hown (mvT hZ (wd hw 123 rfl)) (mvT hZ (own_decl (wd hw 124 rfl) (wd hw 127 rfl))) (notFace_of_selects (args := #[]) (mvT hZ (wd hw 126 rfl))) (mvT hZ (wd hw 126 rfl)) (mvT hZ (wd hw 124 rfl)) (by decide) (backOf (W := 0) (rmInf l Z a0 hw [] r0 r2 zc h0 n0 Z0 uO uS uP uc us usc) hZ (wd hw 127 rfl) (wd hw 56 rfl) (by decide) (by decide)) q1a q1c (g := (mkF m 2 #[vr r0, vi p1, vr r2] [(.ref r2), (.ref r0)])) rfl (by rw [hml]; rfl) (Steps.refl _) (argsL := [(.ref r2)]) (rest := []) (lenOf pd_3 rfl) rfl (by show 2 * 0 + _ ≤ _; exact Nat.le_of_eq rfl) (hb hby d22_2) (fun _ _ => ⟨rfl, e0, (by decide : 0 + 0 ≤ _), (by decide : 0 + 0 ≤ _)⟩)
  dsimp only [Pt.U, Pt.locs, Pt.cells, Pt.slots] at X1 lq1 yq1 zq1 st1 hQ1
  have X1 := own_reb X1 lq1 yq1 zq1
  obtain ⟨rfl, Nq1, eh1⟩ := hQ1
  have N1 := Fr.app N0 Nq1
  obtain ⟨T2, X2, e2, st2⟩ := getF X1 hx hZ hown (host := "") (Or.inl (wd hw 60 rfl)) Via.refl eh1 uv (g := (mkF m 7 #[vr r0, vi p1, vr r2] [(.ref r0), (.ref r2)])) rfl rfl (hb hby d22_7)
  obtain ⟨T3, X3, e3, st3⟩ := getF X2 hx hZ hown (host := "") (Or.inl (wd hw 62 rfl)) Via.refl e2 uc (g := (mkF m 12 #[vr r0, vi p1, vr r2] [(.ref r0), (.int p1), (.ref rv), (.ref r2)])) rfl rfl (hb hby d22_12)
  obtain ⟨cq4, kq4, q4a, q4b, q4c⟩ := isOf hZ e3 us
  obtain ⟨_, _, ⟨T4, Lw4, kw4, nw4⟩, -, X4, ⟨Lc4, hQ4, lq4, yq4, zq4⟩, st4⟩ := X3.virtualBack hx (y := M13) (z := M13) hown (mvT hZ (wd hw 129 rfl)) (mvT hZ (wd hw 130 rfl)) (notFace_of_selects (args := #[]) (mvT hZ (wd hw 132 rfl))) (mvT hZ (wd hw 132 rfl)) (mvT hZ (wd hw 131 rfl)) (by decide) (backOf (W := 0) (rg_gb l Z a0 hw [] r2 rv p1 zc rt kt zt vt kv zv vv h0 n0 Z0 uO uS uP us usv usc usV uV uL uc0 uz0 uS1 ug) hZ (wd hw 133 rfl) (wd hw 6 rfl) (by decide) (by decide)) q4a q4c (g := (mkF m 15 #[vr r0, vi p1, vr r2] [z0, (.int p1), (.ref rv), (.ref r2)])) rfl (by rw [hml]; rfl) (Steps.refl _) (argsL := [(.ref rv), (.int p1), z0]) (rest := []) (lenOf pd_4 rfl) rfl (by show 2 * 0 + _ ≤ _; exact Nat.le_of_eq rfl) (hb hby d22_15) (fun _ _ => ⟨rfl, e3, (by decide : 0 + 0 ≤ _), (by decide : 0 + 0 ≤ _)⟩)
  dsimp only [Pt.U, Pt.locs, Pt.cells, Pt.slots] at X4 lq4 yq4 zq4 st4 hQ4
  have X4 := own_reb X4 lq4 yq4 zq4
  obtain ⟨rfl, Nq4, Kq4, f4_0⟩ := hQ4
  have N4 := Fr.app N1 Nq4
  have K4 : Keep h0 T4.heap [rv] := (Keep.refl h0 [rv]).trans Kq4 (allS (Or.inl (List.mem_of_getElem? (i := 0) rfl)) all0)
  have Z4 : n0 ≤ T4.heap.size := Nat.le_trans Z0 Kq4.1
  obtain ⟨fs, hr, hrun, hended, hW, hsame⟩ := X4.leave (v := none) (fun _ => rfl)
  refine ⟨_, _, pre0 _ ?_, hrun, hended, _, _, rfl, ?_, ⟨_, rfl⟩, hW, hsame.mono (by decide) (by decide)⟩
  · show SS p e below s₁ (mkF m 0 #[vr r0, vi p1, vr r2] []) _
    refine XS.aloadN X0.here hx rfl (hb hby d22_0) rfl rfl ?_
    refine XS.aloadN X0.here hx rfl (hb hby d22_1) rfl rfl ?_
    show SS p e below s₁ (mkF m 2 #[vr r0, vi p1, vr r2] [(.ref r2), (.ref r0)]) _
    refine st1.trans ?_
    refine XS.aloadN X1.here hx rfl (hb hby d22_5) rfl rfl ?_
    refine XS.aloadN X1.here hx rfl (hb hby d22_6) rfl rfl ?_
    refine st2 _ ?_
    refine XS.iloadN X2.here hx rfl (hb hby d22_10) rfl ?_
    refine XS.aloadN X2.here hx rfl (hb hby d22_11) rfl rfl ?_
    refine st3 _ ?_
    show SS p e below T3 (mkF m 15 #[vr r0, vi p1, vr r2] [z0, (.int p1), (.ref rv), (.ref r2)]) _
    refine st4.trans ?_
    exact X4.returnOut hx Bd.returns (hb hby d22_18) hr
  · show Q_rg_ps Z r0 p1 r2 zc rv kv zv vv rt kt zt vt h0 n0 _ T4.heap _
    exact ⟨rfl, N4, K4, f4_0⟩
theorem ef_15 (m : MethodId) (x0 : Addr) (x1 : Addr) : entryFrame m #[(.ref x0), (.ref x1)] 3 = mkF m 0 #[vr x0, vr x1, uu] [] := by first | (simp [entryFrame, mkF, argsToLocals, Value.category]; done) | rfl
theorem d13_0 : decode jdk_68_method_22_code 0 = .ok (.aload_n 1, 1) := by decide +kernel
theorem d13_1 : decode jdk_68_method_22_code 1 = .ok (.ifnonnull 8, 3) := by decide +kernel
theorem d13_9 : decode jdk_68_method_22_code 9 = .ok (.aload_n 1, 1) := by decide +kernel
theorem d13_10 : decode jdk_68_method_22_code 10 = .ok (.invokevirtual 32, 3) := by decide +kernel
theorem d13_13 : decode jdk_68_method_22_code 13 = .ok (.istore_n 2, 1) := by decide +kernel
theorem d13_14 : decode jdk_68_method_22_code 14 = .ok (.aload_n 0, 1) := by decide +kernel
theorem d13_15 : decode jdk_68_method_22_code 15 = .ok (.aload_n 0, 1) := by decide +kernel
theorem d13_16 : decode jdk_68_method_22_code 16 = .ok (.getfield 79, 3) := by decide +kernel
theorem d13_19 : decode jdk_68_method_22_code 19 = .ok (.iload_n 2, 1) := by decide +kernel
theorem d13_20 : decode jdk_68_method_22_code 20 = .ok (.iadd, 1) := by decide +kernel
theorem d13_21 : decode jdk_68_method_22_code 21 = .ok (.invokevirtual 100, 3) := by decide +kernel
theorem d13_24 : decode jdk_68_method_22_code 24 = .ok (.aload_n 0, 1) := by decide +kernel
theorem d13_25 : decode jdk_68_method_22_code 25 = .ok (.aload_n 0, 1) := by decide +kernel
theorem d13_26 : decode jdk_68_method_22_code 26 = .ok (.getfield 79, 3) := by decide +kernel
theorem d13_29 : decode jdk_68_method_22_code 29 = .ok (.aload_n 1, 1) := by decide +kernel
theorem d13_30 : decode jdk_68_method_22_code 30 = .ok (.invokevirtual 208, 3) := by decide +kernel
theorem pd_5 : parseMethodDescriptor "(ILjava/lang/String;)V" = some ⟨[.int, (.object "java/lang/String")], none⟩ := by decide +kernel
theorem d13_33 : decode jdk_68_method_22_code 33 = .ok (.aload_n 0, 1) := by decide +kernel
theorem d13_34 : decode jdk_68_method_22_code 34 = .ok (.dup, 1) := by decide +kernel
theorem d13_35 : decode jdk_68_method_22_code 35 = .ok (.getfield 79, 3) := by decide +kernel
theorem d13_38 : decode jdk_68_method_22_code 38 = .ok (.iload_n 2, 1) := by decide +kernel
theorem d13_39 : decode jdk_68_method_22_code 39 = .ok (.iadd, 1) := by decide +kernel
theorem d13_40 : decode jdk_68_method_22_code 40 = .ok (.putfield 79, 3) := by decide +kernel
theorem d13_43 : decode jdk_68_method_22_code 43 = .ok (.aload_n 0, 1) := by decide +kernel
theorem d13_44 : decode jdk_68_method_22_code 44 = .ok (.areturn, 1) := by decide +kernel
def Q_rg_app0 (Z : State) (r0 : Addr) (r1 : Addr) (zc : Int32) (rv : Addr) (kv : ClassId) (zv : Int32) (vv : List Value) (rt : Addr) (kt : ClassId) (zt : Int32) (vt : List Value) (cn : Int32) (nd : Int32) (h0 : Heap) (n0 : Nat) (v : Option Value) (h : Heap) (L : List Loc) : Prop := (v = some (.ref r0) ∧ Fr n0 L ∧ Keep h0 h [r0, rv] ∧ Fld Z h r0 "java/lang/AbstractStringBuilder" "value" "[B" (.ref rv) ∧ Fld Z h r0 "java/lang/AbstractStringBuilder" "coder" "B" z0 ∧ Fld Z h r0 "java/lang/AbstractStringBuilder" "count" "I" (.int nd) ∧ Arv Z h rv kv .byte zv (own_put cn.toNatClampNeg zt.toNatClampNeg vv vt) z0)
set_option maxRecDepth 65536 in
set_option maxHeartbeats 40000000 in
theorem rg_app0 (l : Launch) (Z : State) (a0 : Array Value) (hw : ∀ d ∈ tables_1, d.before a0 Z = true) (ws : List Jvm.Cond) (r0 : Addr) (r1 : Addr) (zc : Int32) (rv : Addr) (kv : ClassId) (zv : Int32) (vv : List Value) (rt : Addr) (kt : ClassId) (zt : Int32) (vt : List Value) (cn : Int32) (nd : Int32) (h0 : Heap) (n0 : Nat) (Z0 : n0 ≤ h0.size) (uO : Old Z n0 h0) (uS : Sta Z Z.heap "java/lang/String" "COMPACT_STRINGS" "Z" (.int zc)) (uP : ¬ zc = 0) (uE : Exa Z h0 r0 "java/lang/StringBuilder") (uv : Fld Z h0 r0 "java/lang/AbstractStringBuilder" "value" "[B" (.ref rv)) (uc : Fld Z h0 r0 "java/lang/AbstractStringBuilder" "coder" "B" z0) (uV : Arv Z h0 rv kv .byte zv vv z0) (uL : vv.length = zv.toNatClampNeg) (uk : Fld Z h0 r0 "java/lang/AbstractStringBuilder" "count" "I" (.int cn)) (us : Exa Z h0 r1 "java/lang/String") (usv : Fld Z h0 r1 "java/lang/String" "value" "[B" (.ref rt)) (usc : Fld Z h0 r1 "java/lang/String" "coder" "B" z0) (usV : Arv Z h0 rt kt .byte zt vt z0) (uA : (cn + zt) = nd) (uK : ¬ ((0 : Int32) < (nd - zv))) (uc0 : ¬ cn < 0) (uz0 : ¬ zt < 0) (uS1 : cn.toNatClampNeg + zt.toNatClampNeg ≤ zv.toNatClampNeg) (ug : n0 ≤ r0) (ugv : n0 ≤ rv) :
    MetFree l M15 (head1 (Jvm.Cond.code M15 jdk_68_method_22_code 3 (some (.object "java/lang/AbstractStringBuilder")) :: ws) ({ frames := 3, cells := 0, slots := 0, locals := 47 } : Room)) (fun a U => a = #[(.ref r0), (.ref r1)] ∧ Z.Warmed39 U.vm ∧ U.heap = h0) (fun _ _ _ _ _ => True) (fun _ U o U' => ∃ v L, o = .returned v ∧ Q_rg_app0 Z r0 r1 zc rv kv zv vv rt kt zt vt cn nd h0 n0 v U'.heap L ∧ FrameEnd U o U' L ({ frames := 3, cells := 0, slots := 0, locals := 47 } : Room).cells ({ frames := 3, cells := 0, slots := 0, locals := 47 } : Room).slots) := by
  refine MetFree.of_bodySF (plainFor_of_name pn_1) hisR ?_
  intro p e s m args below meth c s₁ Bd hml0 hP hK
  obtain ⟨rfl, hZ, hh⟩ := hP
  have hx := Bd.exec
  have hby := Bd.bytes
  have hml : c.maxLocals = 3 := hml0
  have hown : s.vm.findClass "java/lang/AbstractStringBuilder" = some m.cls := findClass_of_methodNamed Bd.named
  have hnm := (name_of_methodNamed Bd.named Bd.method).1
  have X0 : Stand p l e ({ frames := 3, cells := 0, slots := 0, locals := 47 } : Room) s m #[(.ref r0), (.ref r1)] below meth c s₁ [] 0 0 := Stand.of_body Bd
  have e0 : s₁.heap = h0 := by rw [← hh, Bd.state]; rfl
  have N0 := Fr.nil n0
  have pre0 : ∀ t, Steps p.tables e below (s₁.setTop (mkF m 0 #[vr r0, vr r1, uu] [])) t → Steps p.tables e below (s₁.setTop (entryFrame m #[(.ref r0), (.ref r1)] 3)) t := fun t k => castTop (ef_15 m r0 r1) k
  obtain ⟨cq1, kq1, q1a, q1b, q1c⟩ := isOf hZ e0 us
  obtain ⟨_, _, ⟨T1, Lw1, kw1, nw1⟩, -, X1, ⟨Lc1, hQ1, lq1, yq1, zq1⟩, st1⟩ := X0.virtualBack hx (y := M3) (z := M3) hown (mvT hZ (wd hw 75 rfl)) (mvT hZ (wd hw 76 rfl)) (notFace_of_selects (args := #[]) (mvT hZ (wd hw 78 rfl))) (mvT hZ (wd hw 78 rfl)) (mvT hZ (wd hw 77 rfl)) (by decide) (backOf (W := 0) (rmLen l Z a0 hw [] r1 zc rt kt zt vt h0 n0 Z0 uO uS uP us usv usc usV) hZ (wd hw 79 rfl) (wd hw 6 rfl) (by decide) (by decide)) q1a q1c (g := (mkF m 10 #[vr r0, vr r1, uu] [(.ref r1)])) rfl (by rw [hml]; rfl) (Steps.refl _) (argsL := []) (rest := []) (lenOf pd_2 rfl) rfl (by show 2 * 0 + _ ≤ _; exact Nat.le_of_eq rfl) (hb hby d13_10) (fun _ _ => ⟨rfl, e0, (by decide : 0 + 0 ≤ _), (by decide : 0 + 0 ≤ _)⟩)
  dsimp only [Pt.U, Pt.locs, Pt.cells, Pt.slots] at X1 lq1 yq1 zq1 st1 hQ1
  have X1 := own_reb X1 lq1 yq1 zq1
  obtain ⟨rfl, Nq1, eh1⟩ := hQ1
  have N1 := Fr.app N0 Nq1
  obtain ⟨T2, X2, e2, st2⟩ := getF X1 hx hZ hown (host := "") (Or.inl (wd hw 85 rfl)) Via.refl eh1 uk (g := (mkF m 16 #[vr r0, vr r1, vi zt] [(.ref r0), (.ref r0)])) rfl rfl (hb hby d13_16)
  obtain ⟨cq3, kq3, q3a, q3b, q3c⟩ := isOf hZ e2 uE
  obtain ⟨_, _, ⟨T3, Lw3, kw3, nw3⟩, -, X3, ⟨Lc3, hQ3, lq3, yq3, zq3⟩, st3⟩ := X2.virtualBack hx (y := M12) (z := M12) hown (mvT hZ (wd hw 87 rfl)) (mvT hZ (own_decl (wd hw 88 rfl) (wd hw 91 rfl))) (notFace_of_selects (args := #[]) (mvT hZ (wd hw 90 rfl))) (mvT hZ (wd hw 90 rfl)) (mvT hZ (wd hw 88 rfl)) (by decide) (backOf (W := 0) (rg_ensK l Z a0 hw [] r0 nd rv kv zv vv h0 n0 Z0 uE uv uc uV uK) hZ (wd hw 91 rfl) (wd hw 56 rfl) (by decide) (by decide)) q3a q3c (g := (mkF m 21 #[vr r0, vr r1, vi zt] [(.int nd), (.ref r0)])) rfl (by rw [hml]; rfl) (Steps.refl _) (argsL := [(.int nd)]) (rest := []) (lenOf pd_1 rfl) rfl (by show 2 * 0 + _ ≤ _; exact Nat.le_of_eq rfl) (hb hby d13_21) (fun _ _ => ⟨rfl, e2, (by decide : 0 + 0 ≤ _), (by decide : 0 + 0 ≤ _)⟩)
  dsimp only [Pt.U, Pt.locs, Pt.cells, Pt.slots] at X3 lq3 yq3 zq3 st3 hQ3
  have X3 := own_reb X3 lq3 yq3 zq3
  obtain ⟨rfl, Nq3, eh3⟩ := hQ3
  have N3 := Fr.app N1 Nq3
  obtain ⟨T4, X4, e4, st4⟩ := getF X3 hx hZ hown (host := "") (Or.inl (wd hw 85 rfl)) Via.refl eh3 uk (g := (mkF m 26 #[vr r0, vr r1, vi zt] [(.ref r0), (.ref r0)])) rfl rfl (hb hby d13_26)
  obtain ⟨cq5, kq5, q5a, q5b, q5c⟩ := isOf hZ e4 uE
  obtain ⟨_, _, ⟨T5, Lw5, kw5, nw5⟩, -, X5, ⟨Lc5, hQ5, lq5, yq5, zq5⟩, st5⟩ := X4.virtualBack hx (y := M14) (z := M14) hown (mvT hZ (wd hw 118 rfl)) (mvT hZ (own_decl (wd hw 119 rfl) (wd hw 122 rfl))) (notFace_of_selects (args := #[]) (mvT hZ (wd hw 121 rfl))) (mvT hZ (wd hw 121 rfl)) (mvT hZ (wd hw 119 rfl)) (by decide) (backOf (W := 0) (rg_ps l Z a0 hw [] r0 cn r1 zc rv kv zv vv rt kt zt vt h0 n0 Z0 uO uS uP uE uv uc uV uL us usv usc usV uc0 uz0 uS1 ugv) hZ (wd hw 122 rfl) (wd hw 56 rfl) (by decide) (by decide)) q5a q5c (g := (mkF m 30 #[vr r0, vr r1, vi zt] [(.ref r1), (.int cn), (.ref r0)])) rfl (by rw [hml]; rfl) (Steps.refl _) (argsL := [(.int cn), (.ref r1)]) (rest := []) (lenOf pd_5 rfl) rfl (by show 2 * 0 + _ ≤ _; exact Nat.le_of_eq rfl) (hb hby d13_30) (fun _ _ => ⟨rfl, e4, (by decide : 0 + 0 ≤ _), (by decide : 0 + 0 ≤ _)⟩)
  dsimp only [Pt.U, Pt.locs, Pt.cells, Pt.slots] at X5 lq5 yq5 zq5 st5 hQ5
  have X5 := own_reb X5 lq5 yq5 zq5
  obtain ⟨rfl, Nq5, Kq5, f5_0⟩ := hQ5
  have N5 := Fr.app N3 Nq5
  have K5 : Keep h0 T5.heap [r0, rv] := (Keep.refl h0 [r0, rv]).trans Kq5 (allS (Or.inl (List.mem_of_getElem? (i := 1) rfl)) all0)
  have Z5 : n0 ≤ T5.heap.size := Nat.le_trans Z0 Kq5.1
  have c7 := (uk.keep Kq5 (ninS (Exa.neArv uE uV (wd hw 47 rfl)) nin0))
  obtain ⟨T6, X6, e6, st6⟩ := getF X5 hx hZ hown (host := "") (Or.inl (wd hw 85 rfl)) Via.refl rfl c7 (g := (mkF m 35 #[vr r0, vr r1, vi zt] [(.ref r0), (.ref r0)])) rfl rfl (hb hby d13_35)
  have c9 := (uE.keep Kq5)
  obtain ⟨T8, h8, X8, e8, W8, st8⟩ := putF X6 hx hZ hown (host := "") (Or.inl (wd hw 85 rfl)) Via.refl e6 c7 c9 (Or.inl (wd hw 86 rfl)) (wd hw 47 rfl) (ty := .int) (by decide) rfl rfl (g := (mkF m 40 #[vr r0, vr r1, vi zt] [(.int nd), (.ref r0)])) rfl rfl (hb hby d13_40)
  have Fw8 := c7.same W8
  have N8 := Fr.snoc X8 N5 ug
  have K8 : Keep h0 h8 [r0, rv] := K5.wr W8 (Or.inl (List.mem_of_getElem? (i := 0) rfl))
  have Z8 : n0 ≤ h8.size := by rw [W8.size]; exact Z5
  have c10 := ((uv.keep Kq5 (ninS (Exa.neArv uE uV (wd hw 47 rfl)) nin0)).other W8 (Or.inr (slot_ne (Or.inl (wd hw 61 rfl)) (Or.inl (wd hw 86 rfl)) (by decide) (t := (.array .byte)) (t' := .int) (by decide) (by decide))))
  have c11 := ((uc.keep Kq5 (ninS (Exa.neArv uE uV (wd hw 47 rfl)) nin0)).other W8 (Or.inr (slot_ne (Or.inl (wd hw 63 rfl)) (Or.inl (wd hw 86 rfl)) (by decide) (t := .byte) (t' := .int) (by decide) (by decide))))
  have c12 := (f5_0.other W8 (Ne.symm (Exa.neArv uE uV (wd hw 47 rfl))))
  obtain ⟨fs, hr, hrun, hended, hW, hsame⟩ := X8.leave (v := some (.ref r0)) (fun h => by rw [Bd.returns] at h; cases h)
  refine ⟨_, _, pre0 _ ?_, hrun, hended, _, _, rfl, ?_, ⟨_, rfl⟩, hW, hsame.mono (by decide) (by decide)⟩
  · show SS p e below s₁ (mkF m 0 #[vr r0, vr r1, uu] []) _
    refine XS.aloadN X0.here hx rfl (hb hby d13_0) rfl rfl ?_
    show SS p e below s₁ (mkF m 1 #[vr r0, vr r1, uu] [(.ref r1)]) _
    refine XS.ifnonnullYes X0.here hx rfl (pc0 := 1) (pc' := 9) rfl (hb hby d13_1) rfl (by decide) (by decide) ?_
    refine XS.aloadN X0.here hx rfl (hb hby d13_9) rfl rfl ?_
    show SS p e below s₁ (mkF m 10 #[vr r0, vr r1, uu] [(.ref r1)]) _
    refine st1.trans ?_
    refine XS.istoreN X1.here hx rfl (hb hby d13_13) rfl (l' := #[vr r0, vr r1, vi zt]) rfl ?_
    refine XS.aloadN X1.here hx rfl (hb hby d13_14) rfl rfl ?_
    refine XS.aloadN X1.here hx rfl (hb hby d13_15) rfl rfl ?_
    refine st2 _ ?_
    refine XS.iloadN X2.here hx rfl (hb hby d13_19) rfl ?_
    refine XS.iadd X2.here hx rfl (hb hby d13_20) rfl ?_
    show SS p e below T2 (mkF m 21 #[vr r0, vr r1, vi zt] [(.int (cn + zt)), (.ref r0)]) _
    rw [uA]
    show SS p e below T2 (mkF m 21 #[vr r0, vr r1, vi zt] [(.int nd), (.ref r0)]) _
    refine st3.trans ?_
    refine XS.aloadN X3.here hx rfl (hb hby d13_24) rfl rfl ?_
    refine XS.aloadN X3.here hx rfl (hb hby d13_25) rfl rfl ?_
    refine st4 _ ?_
    refine XS.aloadN X4.here hx rfl (hb hby d13_29) rfl rfl ?_
    show SS p e below T4 (mkF m 30 #[vr r0, vr r1, vi zt] [(.ref r1), (.int cn), (.ref r0)]) _
    refine st5.trans ?_
    refine XS.aloadN X5.here hx rfl (hb hby d13_33) rfl rfl ?_
    refine XS.dup X5.here hx rfl (hb hby d13_34) rfl rfl ?_
    refine st6 _ ?_
    refine XS.iloadN X6.here hx rfl (hb hby d13_38) rfl ?_
    refine XS.iadd X6.here hx rfl (hb hby d13_39) rfl ?_
    show SS p e below T6 (mkF m 40 #[vr r0, vr r1, vi zt] [(.int (cn + zt)), (.ref r0)]) _
    rw [uA]
    refine st8 _ ?_
    refine XS.aloadN X8.here hx rfl (hb hby d13_43) rfl rfl ?_
    exact retOut X8 hx Bd.returns rfl (Or.inr (Or.inr (Or.inr (Or.inr ⟨rfl, rfl, rfl⟩)))) (hb hby d13_44) hr
  · show Q_rg_app0 Z r0 r1 zc rv kv zv vv rt kt zt vt cn nd h0 n0 _ T8.heap _
    rw [e8]
    exact ⟨rfl, N8, K8, c10, c11, Fw8, c12⟩
theorem ef_16 (m : MethodId) (x0 : Addr) (x1 : Addr) : entryFrame m #[(.ref x0), (.ref x1)] 2 = mkF m 0 #[vr x0, vr x1] [] := by first | (simp [entryFrame, mkF, argsToLocals, Value.category]; done) | rfl
theorem d12_0 : decode jdk_67_method_7_code 0 = .ok (.aload_n 0, 1) := by decide +kernel
theorem d12_1 : decode jdk_67_method_7_code 1 = .ok (.aload_n 1, 1) := by decide +kernel
theorem d12_2 : decode jdk_67_method_7_code 2 = .ok (.invokespecial 29, 3) := by decide +kernel
theorem pd_6 : parseMethodDescriptor "(Ljava/lang/String;)Ljava/lang/AbstractStringBuilder;" = some ⟨[(.object "java/lang/String")], some (.object "java/lang/AbstractStringBuilder")⟩ := by decide +kernel
theorem d12_5 : decode jdk_67_method_7_code 5 = .ok (.pop, 1) := by decide +kernel
theorem d12_6 : decode jdk_67_method_7_code 6 = .ok (.aload_n 0, 1) := by decide +kernel
theorem d12_7 : decode jdk_67_method_7_code 7 = .ok (.areturn, 1) := by decide +kernel
def Q_rg_app (Z : State) (r0 : Addr) (r1 : Addr) (zc : Int32) (rv : Addr) (kv : ClassId) (zv : Int32) (vv : List Value) (rt : Addr) (kt : ClassId) (zt : Int32) (vt : List Value) (cn : Int32) (nd : Int32) (h0 : Heap) (n0 : Nat) (v : Option Value) (h : Heap) (L : List Loc) : Prop := (v = some (.ref r0) ∧ Fr n0 L ∧ Keep h0 h [r0, rv] ∧ Fld Z h r0 "java/lang/AbstractStringBuilder" "value" "[B" (.ref rv) ∧ Fld Z h r0 "java/lang/AbstractStringBuilder" "coder" "B" z0 ∧ Fld Z h r0 "java/lang/AbstractStringBuilder" "count" "I" (.int nd) ∧ Arv Z h rv kv .byte zv (own_put cn.toNatClampNeg zt.toNatClampNeg vv vt) z0)
set_option maxRecDepth 65536 in
set_option maxHeartbeats 40000000 in
theorem rg_app (l : Launch) (Z : State) (a0 : Array Value) (hw : ∀ d ∈ tables_1, d.before a0 Z = true) (ws : List Jvm.Cond) (r0 : Addr) (r1 : Addr) (zc : Int32) (rv : Addr) (kv : ClassId) (zv : Int32) (vv : List Value) (rt : Addr) (kt : ClassId) (zt : Int32) (vt : List Value) (cn : Int32) (nd : Int32) (h0 : Heap) (n0 : Nat) (Z0 : n0 ≤ h0.size) (uO : Old Z n0 h0) (uS : Sta Z Z.heap "java/lang/String" "COMPACT_STRINGS" "Z" (.int zc)) (uP : ¬ zc = 0) (uE : Exa Z h0 r0 "java/lang/StringBuilder") (uv : Fld Z h0 r0 "java/lang/AbstractStringBuilder" "value" "[B" (.ref rv)) (uc : Fld Z h0 r0 "java/lang/AbstractStringBuilder" "coder" "B" z0) (uV : Arv Z h0 rv kv .byte zv vv z0) (uL : vv.length = zv.toNatClampNeg) (uk : Fld Z h0 r0 "java/lang/AbstractStringBuilder" "count" "I" (.int cn)) (us : Exa Z h0 r1 "java/lang/String") (usv : Fld Z h0 r1 "java/lang/String" "value" "[B" (.ref rt)) (usc : Fld Z h0 r1 "java/lang/String" "coder" "B" z0) (usV : Arv Z h0 rt kt .byte zt vt z0) (uA : (cn + zt) = nd) (uK : ¬ ((0 : Int32) < (nd - zv))) (uc0 : ¬ cn < 0) (uz0 : ¬ zt < 0) (uS1 : cn.toNatClampNeg + zt.toNatClampNeg ≤ zv.toNatClampNeg) (ug : n0 ≤ r0) (ugv : n0 ≤ rv) :
    MetFree l M16 (head1 (Jvm.Cond.code M16 jdk_67_method_7_code 2 (some (.object "java/lang/StringBuilder")) :: ws) ({ frames := 4, cells := 0, slots := 0, locals := 61 } : Room)) (fun a U => a = #[(.ref r0), (.ref r1)] ∧ Z.Warmed39 U.vm ∧ U.heap = h0) (fun _ _ _ _ _ => True) (fun _ U o U' => ∃ v L, o = .returned v ∧ Q_rg_app Z r0 r1 zc rv kv zv vv rt kt zt vt cn nd h0 n0 v U'.heap L ∧ FrameEnd U o U' L ({ frames := 4, cells := 0, slots := 0, locals := 61 } : Room).cells ({ frames := 4, cells := 0, slots := 0, locals := 61 } : Room).slots) := by
  refine MetFree.of_bodySF (plainFor_of_name pn_2) hisR ?_
  intro p e s m args below meth c s₁ Bd hml0 hP hK
  obtain ⟨rfl, hZ, hh⟩ := hP
  have hx := Bd.exec
  have hby := Bd.bytes
  have hml : c.maxLocals = 2 := hml0
  have hown : s.vm.findClass "java/lang/StringBuilder" = some m.cls := findClass_of_methodNamed Bd.named
  have hnm := (name_of_methodNamed Bd.named Bd.method).1
  have X0 : Stand p l e ({ frames := 4, cells := 0, slots := 0, locals := 61 } : Room) s m #[(.ref r0), (.ref r1)] below meth c s₁ [] 0 0 := Stand.of_body Bd
  have e0 : s₁.heap = h0 := by rw [← hh, Bd.state]; rfl
  have N0 := Fr.nil n0
  have pre0 : ∀ t, Steps p.tables e below (s₁.setTop (mkF m 0 #[vr r0, vr r1] [])) t → Steps p.tables e below (s₁.setTop (entryFrame m #[(.ref r0), (.ref r1)] 2)) t := fun t k => castTop (ef_16 m r0 r1) k
  obtain ⟨_, _, ⟨T1, Lw1, kw1, nw1⟩, -, X1, ⟨Lc1, hQ1, lq1, yq1, zq1⟩, st1⟩ := superBack X0 hx hZ (y := M15) hown (wd hw 70 rfl) (own_same (wd hw 71 rfl) (own_face (wd hw 90 rfl) rfl) (by decide)) (wd hw 71 rfl) (wd hw 72 rfl) (by decide) (backOf (W := 0) (rg_app0 l Z a0 hw [] r0 r1 zc rv kv zv vv rt kt zt vt cn nd h0 n0 Z0 uO uS uP uE uv uc uV uL uk us usv usc usV uA uK uc0 uz0 uS1 ug ugv) hZ (wd hw 74 rfl) (wd hw 56 rfl) (by decide) (by decide)) e0 (Ins.self uE) (g := (mkF m 2 #[vr r0, vr r1] [(.ref r1), (.ref r0)])) rfl (by rw [hml]; rfl) (wd hw 74 rfl) (argsL := [(.ref r1)]) (rest := []) (lenOf pd_6 rfl) rfl (by show 2 * 0 + _ ≤ _; exact Nat.le_of_eq rfl) (hb hby d12_2) (fun _ _ => ⟨rfl, e0, (by decide : 0 + 0 ≤ _), (by decide : 0 + 0 ≤ _)⟩)
  dsimp only [Pt.U, Pt.locs, Pt.cells, Pt.slots] at X1 lq1 yq1 zq1 st1 hQ1
  have X1 := own_reb X1 lq1 yq1 zq1
  obtain ⟨rfl, Nq1, Kq1, f1_0, f1_1, f1_2, f1_3⟩ := hQ1
  have N1 := Fr.app N0 Nq1
  have K1 : Keep h0 T1.heap [r0, rv] := (Keep.refl h0 [r0, rv]).trans Kq1 (allS (Or.inl (List.mem_of_getElem? (i := 0) rfl)) (allS (Or.inl (List.mem_of_getElem? (i := 1) rfl)) all0))
  have Z1 : n0 ≤ T1.heap.size := Nat.le_trans Z0 Kq1.1
  obtain ⟨fs, hr, hrun, hended, hW, hsame⟩ := X1.leave (v := some (.ref r0)) (fun h => by rw [Bd.returns] at h; cases h)
  refine ⟨_, _, pre0 _ ?_, hrun, hended, _, _, rfl, ?_, ⟨_, rfl⟩, hW, hsame.mono (by decide) (by decide)⟩
  · show SS p e below s₁ (mkF m 0 #[vr r0, vr r1] []) _
    refine XS.aloadN X0.here hx rfl (hb hby d12_0) rfl rfl ?_
    refine XS.aloadN X0.here hx rfl (hb hby d12_1) rfl rfl ?_
    show SS p e below s₁ (mkF m 2 #[vr r0, vr r1] [(.ref r1), (.ref r0)]) _
    refine st1.trans ?_
    refine XS.pop X1.here hx rfl (hb hby d12_5) rfl rfl ?_
    refine XS.aloadN X1.here hx rfl (hb hby d12_6) rfl rfl ?_
    exact retOut X1 hx Bd.returns rfl (Or.inr (Or.inr (Or.inr (Or.inr ⟨rfl, rfl, rfl⟩)))) (hb hby d12_7) hr
  · show Q_rg_app Z r0 r1 zc rv kv zv vv rt kt zt vt cn nd h0 n0 _ T1.heap _
    exact ⟨rfl, N1, K1, f1_0, f1_1, f1_2, f1_3⟩
theorem ef_17 (m : MethodId) (x0 : Addr) (x2 : Int32) : entryFrame m #[(.ref x0), z0, (.int x2)] 5 = mkF m 0 #[vr x0, vi (0 : Int32), vi x2, uu, uu] [] := by first | (simp [entryFrame, mkF, argsToLocals, Value.category]; done) | rfl
theorem d33_0 : decode jdk_65_method_133_code 0 = .ok (.iload_n 1, 1) := by decide +kernel
theorem d33_1 : decode jdk_65_method_133_code 1 = .ok (.iload_n 2, 1) := by decide +kernel
theorem d33_2 : decode jdk_65_method_133_code 2 = .ok (.invokestatic 343, 3) := by decide +kernel
theorem pd_7 : parseMethodDescriptor "(II)V" = some ⟨[.int, .int], none⟩ := by decide +kernel
theorem d33_5 : decode jdk_65_method_133_code 5 = .ok (.iload_n 2, 1) := by decide +kernel
theorem d33_6 : decode jdk_65_method_133_code 6 = .ok (.iload_n 1, 1) := by decide +kernel
theorem d33_7 : decode jdk_65_method_133_code 7 = .ok (.isub, 1) := by decide +kernel
theorem d33_8 : decode jdk_65_method_133_code 8 = .ok (.istore_n 3, 1) := by decide +kernel
theorem d33_9 : decode jdk_65_method_133_code 9 = .ok (.iload_n 3, 1) := by decide +kernel
theorem d33_10 : decode jdk_65_method_133_code 10 = .ok (.newarray .byte, 2) := by decide +kernel
theorem d33_12 : decode jdk_65_method_133_code 12 = .ok (.astore 4, 2) := by decide +kernel
theorem d33_14 : decode jdk_65_method_133_code 14 = .ok (.aload_n 0, 1) := by decide +kernel
theorem d33_15 : decode jdk_65_method_133_code 15 = .ok (.iload_n 1, 1) := by decide +kernel
theorem d33_16 : decode jdk_65_method_133_code 16 = .ok (.aload 4, 2) := by decide +kernel
theorem d33_18 : decode jdk_65_method_133_code 18 = .ok (.iconst 0, 1) := by decide +kernel
theorem d33_19 : decode jdk_65_method_133_code 19 = .ok (.aload_n 0, 1) := by decide +kernel
theorem d33_20 : decode jdk_65_method_133_code 20 = .ok (.arraylength, 1) := by decide +kernel
theorem d33_21 : decode jdk_65_method_133_code 21 = .ok (.iload_n 1, 1) := by decide +kernel
theorem d33_22 : decode jdk_65_method_133_code 22 = .ok (.isub, 1) := by decide +kernel
theorem d33_23 : decode jdk_65_method_133_code 23 = .ok (.iload_n 3, 1) := by decide +kernel
theorem d33_24 : decode jdk_65_method_133_code 24 = .ok (.invokestatic 304, 3) := by decide +kernel
theorem pd_8 : parseMethodDescriptor "(II)I" = some ⟨[.int, .int], some .int⟩ := by decide +kernel
theorem d33_27 : decode jdk_65_method_133_code 27 = .ok (.invokestatic 150, 3) := by decide +kernel
theorem d33_30 : decode jdk_65_method_133_code 30 = .ok (.aload 4, 2) := by decide +kernel
theorem d33_32 : decode jdk_65_method_133_code 32 = .ok (.areturn, 1) := by decide +kernel
def Q_rg_corb (Z : State) (r0 : Addr) (p2 : Int32) (kv : ClassId) (zv : Int32) (vv : List Value) (h0 : Heap) (n0 : Nat) (v : Option Value) (h : Heap) (L : List Loc) : Prop := ∃ (nb : Addr), ∃ (nk : ClassId), (v = some (.ref nb) ∧ Fr n0 L ∧ Keep h0 h [] ∧ h0.size ≤ nb ∧ Exa Z h nb "[B" ∧ Arv Z h nb nk .byte p2 (own_cut p2.toNatClampNeg vv) z0)
set_option maxRecDepth 65536 in
set_option maxHeartbeats 40000000 in
theorem rg_corb (l : Launch) (Z : State) (a0 : Array Value) (hw : ∀ d ∈ tables_1, d.before a0 Z = true) (ws : List Jvm.Cond) (r0 : Addr) (p2 : Int32) (kv : ClassId) (zv : Int32) (vv : List Value) (h0 : Heap) (n0 : Nat) (Z0 : n0 ≤ h0.size) (uV : Arv Z h0 r0 kv .byte zv vv z0) (un0 : ¬ p2 < 0) (ult : p2 < zv) (uS2 : p2.toNatClampNeg ≤ zv.toNatClampNeg) (uC : p2.toNatClampNeg ≤ 64) :
    MetFree l M17 (head1 (Jvm.Cond.code M17 jdk_65_method_133_code 5 (some (.array .byte)) :: ws) ({ frames := 1, cells := 1, slots := 64, locals := 18 } : Room)) (fun a U => a = #[(.ref r0), z0, (.int p2)] ∧ Z.Warmed39 U.vm ∧ U.heap = h0) (fun _ _ _ _ _ => True) (fun _ U o U' => ∃ v L, o = .returned v ∧ Q_rg_corb Z r0 p2 kv zv vv h0 n0 v U'.heap L ∧ FrameEnd U o U' L ({ frames := 1, cells := 1, slots := 64, locals := 18 } : Room).cells ({ frames := 1, cells := 1, slots := 64, locals := 18 } : Room).slots) := by
  refine MetFree.of_bodySF (plainFor_of_name pn_3) hisR ?_
  intro p e s m args below meth c s₁ Bd hml0 hP hK
  obtain ⟨rfl, hZ, hh⟩ := hP
  have hx := Bd.exec
  have hby := Bd.bytes
  have hml : c.maxLocals = 5 := hml0
  have hown : s.vm.findClass "java/util/Arrays" = some m.cls := findClass_of_methodNamed Bd.named
  have hnm := (name_of_methodNamed Bd.named Bd.method).1
  have X0 : Stand p l e ({ frames := 1, cells := 1, slots := 64, locals := 18 } : Room) s m #[(.ref r0), z0, (.int p2)] below meth c s₁ [] 0 0 := Stand.of_body Bd
  have e0 : s₁.heap = h0 := by rw [← hh, Bd.state]; rfl
  have N0 := Fr.nil n0
  have pre0 : ∀ t, Steps p.tables e below (s₁.setTop (mkF m 0 #[vr r0, vi (0 : Int32), vi p2, uu, uu] [])) t → Steps p.tables e below (s₁.setTop (entryFrame m #[(.ref r0), z0, (.int p2)] 5)) t := fun t k => castTop (ef_17 m r0 p2) k
  obtain ⟨_, _, ⟨T1, Lw1, kw1, nw1⟩, -, X1, ⟨Lc1, hQ1, lq1, yq1, zq1⟩, st1⟩ := Jvm.LawKit.callS X0 hx (y := M11) hown (mvT hZ (wd hw 171 rfl)) (mvT hZ (wd hw 172 rfl)) (mvT hZ (wd hw 109 rfl)) (mvT hZ (wd hw 173 rfl)) (by decide) (backOf (W := 0) (rmChk l Z a0 hw [] (0 : Int32) p2 h0 n0 Z0 un0) hZ (wd hw 173 rfl) (wd hw 109 rfl) (by decide) (by decide)) (g := (mkF m 2 #[vr r0, vi (0 : Int32), vi p2, uu, uu] [(.int p2), z0])) rfl (by rw [hml]; rfl) (argsL := [z0, (.int p2)]) (rest := []) (lenOf pd_7 rfl) rfl (by show 2 * 0 + _ ≤ _; exact Nat.le_of_eq rfl) (hb hby d33_2) (fun _ _ => ⟨rfl, e0, (by decide : 0 + 0 ≤ _), (by decide : 0 + 0 ≤ _)⟩)
  dsimp only [Pt.U, Pt.locs, Pt.cells, Pt.slots] at X1 lq1 yq1 zq1 st1 hQ1
  have X1 := own_reb X1 lq1 yq1 zq1
  obtain ⟨rfl, Nq1, eh1⟩ := hQ1
  have N1 := Fr.app N0 Nq1
  obtain ⟨T2, h2, k2, X2, e2, E2, A2, AX2, st2⟩ := newPE X1 hx hZ (wd hw 19 rfl) eh1 (g := (mkF m 10 #[vr r0, vi (0 : Int32), vi p2, vi p2, uu] [(.int p2)])) rfl (hb hby d33_10) rfl un0 (cap := 64) uC (by decide) (by decide) (by decide) (ad := "[B") (by decide)
  obtain ⟨b2, g2⟩ : ∃ z, z = h0.size := ⟨_, rfl⟩
  rw [← g2] at A2 AX2 st2
  have ne_r0_b2 : r0 ≠ b2 := Nat.ne_of_lt (Nat.lt_of_lt_of_le uV.lt (Nat.le_of_eq g2.symm))
  have V2 : Arv Z h2 b2 k2 .byte p2 [z0, z0, z0, z0, z0, z0, z0, z0, z0, z0, z0, z0, z0, z0, z0, z0, z0, z0, z0, z0, z0, z0, z0, z0, z0, z0, z0, z0, z0, z0, z0, z0, z0, z0, z0, z0, z0, z0, z0, z0, z0, z0, z0, z0, z0, z0, z0, z0, z0, z0, z0, z0, z0, z0, z0, z0, z0, z0, z0, z0, z0, z0, z0, z0] z0 := (Arv.new A2 un0).pad (pad_rep [] z0 64)
  have g_b2 : n0 ≤ b2 := Nat.le_trans Z0 (Nat.le_of_eq g2.symm)
  have sz_b2 : h0.size ≤ b2 := Nat.le_trans (Keep.refl h0 []).1 (Nat.le_of_eq g2.symm)
  have K2 : Keep h0 h2 [] := (Keep.refl h0 []).ext E2
  have Z2 : n0 ≤ h2.size := Nat.le_trans Z0 E2.1
  have c4 := (uV.ext E2)
  obtain ⟨cl3, Ar3, q3, S3, Nn3, H3, G3⟩ := (id c4)
  obtain ⟨_, _, ⟨T5, Lw5, kw5, nw5⟩, -, X5, ⟨Lc5, hQ5, lq5, yq5, zq5⟩, st5⟩ := Jvm.LawKit.callS X2 hx (y := M1) hown (mvT hZ (wd hw 111 rfl)) (mvT hZ (wd hw 112 rfl)) (mvT hZ (wd hw 103 rfl)) (mvT hZ (wd hw 113 rfl)) (by decide) (backOf (W := 4) (rmMin l Z a0 hw [] zv p2 h2 n0 Z2) hZ (wd hw 113 rfl) (wd hw 103 rfl) (by decide) (by decide)) (g := (mkF m 24 #[vr r0, vi (0 : Int32), vi p2, vi p2, vr b2] [(.int p2), (.int zv), z0, (.ref b2), z0, (.ref r0)])) rfl (by rw [hml]; rfl) (argsL := [(.int zv), (.int p2)]) (rest := [z0, (.ref b2), z0, (.ref r0)]) (lenOf pd_8 rfl) rfl (by show 2 * 0 + _ ≤ _; exact Nat.le_of_eq rfl) (hb hby d33_24) (fun _ _ => ⟨rfl, e2, (by decide : 1 + 0 ≤ _), (by decide : 64 + 0 ≤ _)⟩)
  dsimp only [Pt.U, Pt.locs, Pt.cells, Pt.slots] at X5 lq5 yq5 zq5 st5 hQ5
  have X5 := own_reb X5 lq5 yq5 zq5
  obtain ⟨rfl, Nq5, eh5⟩ := hQ5
  have N5 := Fr.app N1 Nq5
  obtain ⟨T6, h6, L6, X6, e6, N6, Kq6, V6, st6⟩ := cpA X5 hx hZ hown (wd hw 114 rfl) (wd hw 117 rfl) (wd hw 115 rfl) (wd hw 116 rfl) eh5 (us := ((List.range (p2).toNatClampNeg).map fun i => List.getD vv (((0 : Int32)).toNatClampNeg + i) z0)) c4 V2 (Or.inl ⟨rfl, rfl⟩) (by decide) (by decide) un0 (Nat.le_trans (Nat.le_of_eq (Nat.zero_add _)) uS2) (Nat.le_of_eq (Nat.zero_add _)) rfl (Nat.le_trans (Nat.le_of_eq (Nat.zero_add _)) uC) N5 g_b2 (g := (mkF m 27 #[vr r0, vi (0 : Int32), vi p2, vi p2, vr b2] [(.int p2), z0, (.ref b2), z0, (.ref r0)])) rfl (by rw [hml]; rfl) rfl (hb hby d33_27) (by decide) (W := 0) (by show 2 * 0 + _ ≤ _; exact Nat.le_of_eq rfl) (by decide)
  have K6 : Keep h0 h6 [] := K2.trans Kq6 (allS (Or.inr sz_b2) all0)
  have Z6 : n0 ≤ h6.size := Nat.le_trans Z2 Kq6.1
  have Vc : Arv Z h6 b2 k2 .byte p2 (own_cut p2.toNatClampNeg vv) z0 := V6.pad (own_padcut (own_zr 64))
  have c7 := (AX2.keep Kq6)
  obtain ⟨fs, hr, hrun, hended, hW, hsame⟩ := X6.leave (v := some (.ref b2)) (fun h => by rw [Bd.returns] at h; cases h)
  refine ⟨_, _, pre0 _ ?_, hrun, hended, _, _, rfl, ?_, ⟨_, rfl⟩, hW, hsame.mono (by decide) (by decide)⟩
  · show SS p e below s₁ (mkF m 0 #[vr r0, vi (0 : Int32), vi p2, uu, uu] []) _
    refine XS.iloadN X0.here hx rfl (hb hby d33_0) rfl ?_
    refine XS.iloadN X0.here hx rfl (hb hby d33_1) rfl ?_
    show SS p e below s₁ (mkF m 2 #[vr r0, vi (0 : Int32), vi p2, uu, uu] [(.int p2), z0]) _
    refine st1 _ ?_
    refine XS.iloadN X1.here hx rfl (hb hby d33_5) rfl ?_
    refine XS.iloadN X1.here hx rfl (hb hby d33_6) rfl ?_
    refine XS.isub X1.here hx rfl (hb hby d33_7) rfl ?_
    show SS p e below T1 (mkF m 8 #[vr r0, vi (0 : Int32), vi p2, uu, uu] [(.int (p2 - (0 : Int32)))]) _
    rw [own_sub0 _]
    refine XS.istoreN X1.here hx rfl (hb hby d33_8) rfl (l' := #[vr r0, vi (0 : Int32), vi p2, vi p2, uu]) rfl ?_
    refine XS.iloadN X1.here hx rfl (hb hby d33_9) rfl ?_
    refine st2 _ ?_
    refine XS.astore X2.here hx rfl (hb hby d33_12) rfl rfl (l' := #[vr r0, vi (0 : Int32), vi p2, vi p2, vr b2]) rfl ?_
    refine XS.aloadN X2.here hx rfl (hb hby d33_14) rfl rfl ?_
    refine XS.iloadN X2.here hx rfl (hb hby d33_15) rfl ?_
    refine XS.aload X2.here hx rfl (hb hby d33_16) rfl rfl ?_
    refine XS.iconst X2.here hx rfl (hb hby d33_18) ?_
    refine XS.aloadN X2.here hx rfl (hb hby d33_19) rfl rfl ?_
    show SS p e below T2 (mkF m 20 #[vr r0, vi (0 : Int32), vi p2, vi p2, vr b2] [(.ref r0), z0, (.ref b2), z0, (.ref r0)]) _
    refine X2.arraylength hx (own_at e2 Ar3.1) (State.isArrayOf_alike hZ.alike Ar3.2.1) (g := (mkF m 20 #[vr r0, vi (0 : Int32), vi p2, vi p2, vr b2] [(.ref r0), z0, (.ref b2), z0, (.ref r0)])) rfl rfl (hb hby d33_20) _ ?_
    rw [len_of S3 Nn3]
    refine XS.iloadN X2.here hx rfl (hb hby d33_21) rfl ?_
    refine XS.isub X2.here hx rfl (hb hby d33_22) rfl ?_
    show SS p e below T2 (mkF m 23 #[vr r0, vi (0 : Int32), vi p2, vi p2, vr b2] [(.int (zv - (0 : Int32))), z0, (.ref b2), z0, (.ref r0)]) _
    rw [own_sub0 _]
    refine XS.iloadN X2.here hx rfl (hb hby d33_23) rfl ?_
    show SS p e below T2 (mkF m 24 #[vr r0, vi (0 : Int32), vi p2, vi p2, vr b2] [(.int p2), (.int zv), z0, (.ref b2), z0, (.ref r0)]) _
    refine st5 _ ?_
    show SS p e below T5 (mkF m 27 #[vr r0, vi (0 : Int32), vi p2, vi p2, vr b2] [(.int (if p2 < zv then p2 else zv)), z0, (.ref b2), z0, (.ref r0)]) _
    rw [if_pos ult]
    show SS p e below T5 (mkF m 27 #[vr r0, vi (0 : Int32), vi p2, vi p2, vr b2] [(.int p2), z0, (.ref b2), z0, (.ref r0)]) _
    refine st6 _ ?_
    refine XS.aload X6.here hx rfl (hb hby d33_30) rfl rfl ?_
    exact retOut X6 hx Bd.returns rfl (Or.inr (Or.inr (Or.inr (Or.inr ⟨rfl, rfl, rfl⟩)))) (hb hby d33_32) hr
  · show Q_rg_corb Z r0 p2 kv zv vv h0 n0 _ T6.heap _
    rw [e6]
    exact ⟨b2, k2, rfl, N6, K6, sz_b2, c7, Vc⟩
theorem ef_18 (m : MethodId) (x0 : Addr) (x2 : Int32) : entryFrame m #[(.ref x0), z0, (.int x2)] 3 = mkF m 0 #[vr x0, vi (0 : Int32), vi x2] [] := by first | (simp [entryFrame, mkF, argsToLocals, Value.category]; done) | rfl
theorem d32_0 : decode jdk_65_method_132_code 0 = .ok (.iload_n 1, 1) := by decide +kernel
theorem d32_1 : decode jdk_65_method_132_code 1 = .ok (.ifCond .ne 9, 3) := by decide +kernel
theorem d32_4 : decode jdk_65_method_132_code 4 = .ok (.iload_n 2, 1) := by decide +kernel
theorem d32_5 : decode jdk_65_method_132_code 5 = .ok (.aload_n 0, 1) := by decide +kernel
theorem d32_6 : decode jdk_65_method_132_code 6 = .ok (.arraylength, 1) := by decide +kernel
theorem d32_7 : decode jdk_65_method_132_code 7 = .ok (.if_icmp .eq 10, 3) := by decide +kernel
theorem d32_10 : decode jdk_65_method_132_code 10 = .ok (.aload_n 0, 1) := by decide +kernel
theorem d32_11 : decode jdk_65_method_132_code 11 = .ok (.iload_n 1, 1) := by decide +kernel
theorem d32_12 : decode jdk_65_method_132_code 12 = .ok (.iload_n 2, 1) := by decide +kernel
theorem d32_13 : decode jdk_65_method_132_code 13 = .ok (.invokestatic 339, 3) := by decide +kernel
theorem pd_9 : parseMethodDescriptor "([BII)[B" = some ⟨[(.array .byte), .int, .int], some (.array .byte)⟩ := by decide +kernel
theorem d32_16 : decode jdk_65_method_132_code 16 = .ok (.areturn, 1) := by decide +kernel
def Q_rg_cor (Z : State) (r0 : Addr) (p2 : Int32) (kv : ClassId) (zv : Int32) (vv : List Value) (h0 : Heap) (n0 : Nat) (v : Option Value) (h : Heap) (L : List Loc) : Prop := ∃ (nb : Addr), ∃ (nk : ClassId), (v = some (.ref nb) ∧ Fr n0 L ∧ Keep h0 h [] ∧ h0.size ≤ nb ∧ Exa Z h nb "[B" ∧ Arv Z h nb nk .byte p2 (own_cut p2.toNatClampNeg vv) z0)
set_option maxRecDepth 65536 in
set_option maxHeartbeats 40000000 in
theorem rg_cor (l : Launch) (Z : State) (a0 : Array Value) (hw : ∀ d ∈ tables_1, d.before a0 Z = true) (ws : List Jvm.Cond) (r0 : Addr) (p2 : Int32) (kv : ClassId) (zv : Int32) (vv : List Value) (h0 : Heap) (n0 : Nat) (Z0 : n0 ≤ h0.size) (uV : Arv Z h0 r0 kv .byte zv vv z0) (un0 : ¬ p2 < 0) (ult : p2 < zv) (uS2 : p2.toNatClampNeg ≤ zv.toNatClampNeg) (uC : p2.toNatClampNeg ≤ 64) :
    MetFree l M18 (head1 (Jvm.Cond.code M18 jdk_65_method_132_code 3 (some (.array .byte)) :: ws) ({ frames := 2, cells := 1, slots := 64, locals := 34 } : Room)) (fun a U => a = #[(.ref r0), z0, (.int p2)] ∧ Z.Warmed39 U.vm ∧ U.heap = h0) (fun _ _ _ _ _ => True) (fun _ U o U' => ∃ v L, o = .returned v ∧ Q_rg_cor Z r0 p2 kv zv vv h0 n0 v U'.heap L ∧ FrameEnd U o U' L ({ frames := 2, cells := 1, slots := 64, locals := 34 } : Room).cells ({ frames := 2, cells := 1, slots := 64, locals := 34 } : Room).slots) := by
  refine MetFree.of_bodySF (plainFor_of_name pn_3) hisR ?_
  intro p e s m args below meth c s₁ Bd hml0 hP hK
  obtain ⟨rfl, hZ, hh⟩ := hP
  have hx := Bd.exec
  have hby := Bd.bytes
  have hml : c.maxLocals = 3 := hml0
  have hown : s.vm.findClass "java/util/Arrays" = some m.cls := findClass_of_methodNamed Bd.named
  have hnm := (name_of_methodNamed Bd.named Bd.method).1
  have X0 : Stand p l e ({ frames := 2, cells := 1, slots := 64, locals := 34 } : Room) s m #[(.ref r0), z0, (.int p2)] below meth c s₁ [] 0 0 := Stand.of_body Bd
  have e0 : s₁.heap = h0 := by rw [← hh, Bd.state]; rfl
  have N0 := Fr.nil n0
  have pre0 : ∀ t, Steps p.tables e below (s₁.setTop (mkF m 0 #[vr r0, vi (0 : Int32), vi p2] [])) t → Steps p.tables e below (s₁.setTop (entryFrame m #[(.ref r0), z0, (.int p2)] 3)) t := fun t k => castTop (ef_18 m r0 p2) k
  obtain ⟨cl1, Ar1, q1, S1, Nn1, H1, G1⟩ := (id uV)
  obtain ⟨_, _, ⟨T2, Lw2, kw2, nw2⟩, -, X2, ⟨Lc2, hQ2, lq2, yq2, zq2⟩, st2⟩ := Jvm.LawKit.callS X0 hx (y := M17) hown (mvT hZ (wd hw 168 rfl)) (mvT hZ (wd hw 169 rfl)) (mvT hZ (wd hw 109 rfl)) (mvT hZ (wd hw 170 rfl)) (by decide) (backOf (W := 0) (rg_corb l Z a0 hw [] r0 p2 kv zv vv h0 n0 Z0 uV un0 ult uS2 uC) hZ (wd hw 170 rfl) (wd hw 109 rfl) (by decide) (by decide)) (g := (mkF m 13 #[vr r0, vi (0 : Int32), vi p2] [(.int p2), z0, (.ref r0)])) rfl (by rw [hml]; rfl) (argsL := [(.ref r0), z0, (.int p2)]) (rest := []) (lenOf pd_9 rfl) rfl (by show 2 * 0 + _ ≤ _; exact Nat.le_of_eq rfl) (hb hby d32_13) (fun _ _ => ⟨rfl, e0, (by decide : 0 + 1 ≤ _), (by decide : 0 + 64 ≤ _)⟩)
  dsimp only [Pt.U, Pt.locs, Pt.cells, Pt.slots] at X2 lq2 yq2 zq2 st2 hQ2
  have X2 := own_reb X2 lq2 yq2 zq2
  obtain ⟨nb_2, nk_2, rfl, Nq2, Kq2, f2_0, f2_1, f2_2⟩ := hQ2
  have N2 := Fr.app N0 Nq2
  have ne_r0_nb_2 : r0 ≠ nb_2 := Nat.ne_of_lt (Nat.lt_of_lt_of_le uV.lt f2_0)
  have g_nb_2 : n0 ≤ nb_2 := Nat.le_trans Z0 f2_0
  have sz_nb_2 : h0.size ≤ nb_2 := Nat.le_trans (Keep.refl h0 []).1 f2_0
  have K2 : Keep h0 T2.heap [] := (Keep.refl h0 []).trans Kq2 all0
  have Z2 : n0 ≤ T2.heap.size := Nat.le_trans Z0 Kq2.1
  obtain ⟨fs, hr, hrun, hended, hW, hsame⟩ := X2.leave (v := some (.ref nb_2)) (fun h => by rw [Bd.returns] at h; cases h)
  refine ⟨_, _, pre0 _ ?_, hrun, hended, _, _, rfl, ?_, ⟨_, rfl⟩, hW, hsame.mono (by decide) (by decide)⟩
  · show SS p e below s₁ (mkF m 0 #[vr r0, vi (0 : Int32), vi p2] []) _
    refine XS.iloadN X0.here hx rfl (hb hby d32_0) rfl ?_
    show SS p e below s₁ (mkF m 1 #[vr r0, vi (0 : Int32), vi p2] [z0]) _
    refine XS.ifNo X0.here hx rfl (hb hby d32_1) rfl ((if0 _ _).trans (teq (by decide : (0 : Int32) = (0 : Int32))).2) ?_
    refine XS.iloadN X0.here hx rfl (hb hby d32_4) rfl ?_
    refine XS.aloadN X0.here hx rfl (hb hby d32_5) rfl rfl ?_
    show SS p e below s₁ (mkF m 6 #[vr r0, vi (0 : Int32), vi p2] [(.ref r0), (.int p2)]) _
    refine X0.arraylength hx (own_at e0 Ar1.1) (State.isArrayOf_alike hZ.alike Ar1.2.1) (g := (mkF m 6 #[vr r0, vi (0 : Int32), vi p2] [(.ref r0), (.int p2)])) rfl rfl (hb hby d32_6) _ ?_
    rw [len_of S1 Nn1]
    show SS p e below s₁ (mkF m 7 #[vr r0, vi (0 : Int32), vi p2] [(.int zv), (.int p2)]) _
    refine XS.icmpNo X0.here hx rfl (hb hby d32_7) rfl (feq (own_neq ult : ¬ (p2 = zv))).1 ?_
    refine XS.aloadN X0.here hx rfl (hb hby d32_10) rfl rfl ?_
    refine XS.iloadN X0.here hx rfl (hb hby d32_11) rfl ?_
    refine XS.iloadN X0.here hx rfl (hb hby d32_12) rfl ?_
    show SS p e below s₁ (mkF m 13 #[vr r0, vi (0 : Int32), vi p2] [(.int p2), z0, (.ref r0)]) _
    refine st2 _ ?_
    exact retOut X2 hx Bd.returns rfl (Or.inr (Or.inr (Or.inr (Or.inr ⟨rfl, rfl, rfl⟩)))) (hb hby d32_16) hr
  · show Q_rg_cor Z r0 p2 kv zv vv h0 n0 _ T2.heap _
    exact ⟨nb_2, nk_2, rfl, N2, K2, sz_nb_2, f2_1, f2_2⟩
theorem ef_19 (m : MethodId) (x0 : Addr) (x1 : Addr) : entryFrame m #[(.ref x0), (.ref x1), .null] 5 = mkF m 0 #[vr x0, vr x1, .val .null, uu, uu] [] := by first | (simp [entryFrame, mkF, argsToLocals, Value.category]; done) | rfl
theorem d27_0 : decode jdk_42_method_150_code 0 = .ok (.aload_n 0, 1) := by decide +kernel
theorem d27_1 : decode jdk_42_method_150_code 1 = .ok (.invokespecial 1, 3) := by decide +kernel
theorem d27_4 : decode jdk_42_method_150_code 4 = .ok (.aload_n 1, 1) := by decide +kernel
theorem d27_5 : decode jdk_42_method_150_code 5 = .ok (.invokevirtual 552, 3) := by decide +kernel
theorem pd_10 : parseMethodDescriptor "()[B" = some ⟨[], some (.array .byte)⟩ := by decide +kernel
theorem d27_8 : decode jdk_42_method_150_code 8 = .ok (.astore_n 3, 1) := by decide +kernel
theorem d27_9 : decode jdk_42_method_150_code 9 = .ok (.aload_n 1, 1) := by decide +kernel
theorem d27_10 : decode jdk_42_method_150_code 10 = .ok (.invokevirtual 549, 3) := by decide +kernel
theorem d27_13 : decode jdk_42_method_150_code 13 = .ok (.istore 4, 2) := by decide +kernel
theorem d27_15 : decode jdk_42_method_150_code 15 = .ok (.aload_n 1, 1) := by decide +kernel
theorem d27_16 : decode jdk_42_method_150_code 16 = .ok (.invokevirtual 1047, 3) := by decide +kernel
theorem pd_11 : parseMethodDescriptor "()Z" = some ⟨[], some .boolean⟩ := by decide +kernel
theorem d27_19 : decode jdk_42_method_150_code 19 = .ok (.ifCond .eq 22, 3) := by decide +kernel
theorem d27_22 : decode jdk_42_method_150_code 22 = .ok (.aload_n 0, 1) := by decide +kernel
theorem d27_23 : decode jdk_42_method_150_code 23 = .ok (.iconst 0, 1) := by decide +kernel
theorem d27_24 : decode jdk_42_method_150_code 24 = .ok (.putfield 15, 3) := by decide +kernel
theorem d27_27 : decode jdk_42_method_150_code 27 = .ok (.aload_n 0, 1) := by decide +kernel
theorem d27_28 : decode jdk_42_method_150_code 28 = .ok (.aload_n 3, 1) := by decide +kernel
theorem d27_29 : decode jdk_42_method_150_code 29 = .ok (.iconst 0, 1) := by decide +kernel
theorem d27_30 : decode jdk_42_method_150_code 30 = .ok (.iload 4, 2) := by decide +kernel
theorem d27_32 : decode jdk_42_method_150_code 32 = .ok (.invokestatic 54, 3) := by decide +kernel
theorem d27_35 : decode jdk_42_method_150_code 35 = .ok (.putfield 9, 3) := by decide +kernel
theorem d27_38 : decode jdk_42_method_150_code 38 = .ok (.goto 59, 3) := by decide +kernel
theorem d27_97 : decode jdk_42_method_150_code 97 = .ok (.return_, 1) := by decide +kernel
def Q_rg_si2 (Z : State) (r0 : Addr) (r1 : Addr) (zc : Int32) (rv : Addr) (kv : ClassId) (zv : Int32) (vv : List Value) (nd : Int32) (h0 : Heap) (n0 : Nat) (v : Option Value) (h : Heap) (L : List Loc) : Prop := ∃ (nb : Addr), ∃ (nk : ClassId), (v = none ∧ Fr n0 L ∧ Keep h0 h [r0] ∧ Fld Z h r0 "java/lang/String" "coder" "B" z0 ∧ Fld Z h r0 "java/lang/String" "value" "[B" (.ref nb) ∧ h0.size ≤ nb ∧ Arv Z h nb nk .byte nd (own_cut nd.toNatClampNeg vv) z0)
set_option maxRecDepth 65536 in
set_option maxHeartbeats 40000000 in
theorem rg_si2 (l : Launch) (Z : State) (a0 : Array Value) (hw : ∀ d ∈ tables_1, d.before a0 Z = true) (ws : List Jvm.Cond) (r0 : Addr) (r1 : Addr) (zc : Int32) (rv : Addr) (kv : ClassId) (zv : Int32) (vv : List Value) (nd : Int32) (h0 : Heap) (n0 : Nat) (Z0 : n0 ≤ h0.size) (uO : Old Z n0 h0) (uS : Sta Z Z.heap "java/lang/String" "COMPACT_STRINGS" "Z" (.int zc)) (uP : ¬ zc = 0) (us : Exa Z h0 r0 "java/lang/String") (usv : Fld Z h0 r0 "java/lang/String" "value" "[B" .null) (usc : Fld Z h0 r0 "java/lang/String" "coder" "B" z0) (ug : n0 ≤ r0) (uE : Exa Z h0 r1 "java/lang/StringBuilder") (uv : Fld Z h0 r1 "java/lang/AbstractStringBuilder" "value" "[B" (.ref rv)) (uc : Fld Z h0 r1 "java/lang/AbstractStringBuilder" "coder" "B" z0) (uV : Arv Z h0 rv kv .byte zv vv z0) (uk : Fld Z h0 r1 "java/lang/AbstractStringBuilder" "count" "I" (.int nd)) (un0 : ¬ nd < 0) (ult : nd < zv) (uS2 : nd.toNatClampNeg ≤ zv.toNatClampNeg) (uC : nd.toNatClampNeg ≤ 64) :
    MetFree l M19 (head1 (Jvm.Cond.code M19 jdk_42_method_150_code 5 none :: ws) ({ frames := 3, cells := 1, slots := 64, locals := 49 } : Room)) (fun a U => a = #[(.ref r0), (.ref r1), .null] ∧ Z.Warmed39 U.vm ∧ U.heap = h0) (fun _ _ _ _ _ => True) (fun _ U o U' => ∃ v L, o = .returned v ∧ Q_rg_si2 Z r0 r1 zc rv kv zv vv nd h0 n0 v U'.heap L ∧ FrameEnd U o U' L ({ frames := 3, cells := 1, slots := 64, locals := 49 } : Room).cells ({ frames := 3, cells := 1, slots := 64, locals := 49 } : Room).slots) := by
  refine MetFree.of_bodySF (plainFor_of_name pn_0) hisR ?_
  intro p e s m args below meth c s₁ Bd hml0 hP hK
  obtain ⟨rfl, hZ, hh⟩ := hP
  have hx := Bd.exec
  have hby := Bd.bytes
  have hml : c.maxLocals = 5 := hml0
  have hown : s.vm.findClass "java/lang/String" = some m.cls := findClass_of_methodNamed Bd.named
  have hnm := (name_of_methodNamed Bd.named Bd.method).1
  have X0 : Stand p l e ({ frames := 3, cells := 1, slots := 64, locals := 49 } : Room) s m #[(.ref r0), (.ref r1), .null] below meth c s₁ [] 0 0 := Stand.of_body Bd
  have e0 : s₁.heap = h0 := by rw [← hh, Bd.state]; rfl
  have N0 := Fr.nil n0
  have pre0 : ∀ t, Steps p.tables e below (s₁.setTop (mkF m 0 #[vr r0, vr r1, .val .null, uu, uu] [])) t → Steps p.tables e below (s₁.setTop (entryFrame m #[(.ref r0), (.ref r1), .null] 5)) t := fun t k => castTop (ef_19 m r0 r1) k
  obtain ⟨T1, X1, e1, st1⟩ := initO X0 hx hZ hown (wd hw 15 rfl) (wd hw 16 rfl) (wd hw 17 rfl) e0 (g := (mkF m 1 #[vr r0, vr r1, .val .null, uu, uu] [(.ref r0)])) rfl (by rw [hml]; rfl) rfl (hb hby d27_1) (by decide) (W := 0) (by show 2 * 0 + _ ≤ _; exact Nat.le_of_eq rfl) (by decide)
  obtain ⟨cq2, kq2, q2a, q2b, q2c⟩ := isOf hZ e1 uE
  obtain ⟨_, _, ⟨T2, Lw2, kw2, nw2⟩, -, X2, ⟨Lc2, hQ2, lq2, yq2, zq2⟩, st2⟩ := X1.virtualBack hx (y := M8) (z := M8) hown (mvT hZ (wd hw 147 rfl)) (mvT hZ (wd hw 148 rfl)) (notFace_of_selects (args := #[]) (mvT hZ (wd hw 150 rfl))) (mvT hZ (wd hw 150 rfl)) (mvT hZ (wd hw 149 rfl)) (by decide) (backOf (W := 0) (rmGV l Z a0 hw [] r1 rv h0 n0 Z0 uv) hZ (wd hw 151 rfl) (wd hw 56 rfl) (by decide) (by decide)) q2a q2c (g := (mkF m 5 #[vr r0, vr r1, .val .null, uu, uu] [(.ref r1)])) rfl (by rw [hml]; rfl) (Steps.refl _) (argsL := []) (rest := []) (lenOf pd_10 rfl) rfl (by show 2 * 0 + _ ≤ _; exact Nat.le_of_eq rfl) (hb hby d27_5) (fun _ _ => ⟨rfl, e1, (by decide : 0 + 0 ≤ _), (by decide : 0 + 0 ≤ _)⟩)
  dsimp only [Pt.U, Pt.locs, Pt.cells, Pt.slots] at X2 lq2 yq2 zq2 st2 hQ2
  have X2 := own_reb X2 lq2 yq2 zq2
  obtain ⟨rfl, Nq2, eh2⟩ := hQ2
  have N2 := Fr.app N0 Nq2
  obtain ⟨cq3, kq3, q3a, q3b, q3c⟩ := isOf hZ eh2 uE
  obtain ⟨_, _, ⟨T3, Lw3, kw3, nw3⟩, -, X3, ⟨Lc3, hQ3, lq3, yq3, zq3⟩, st3⟩ := X2.virtualBack hx (y := M9) (z := M10) hown (mvT hZ (wd hw 152 rfl)) (mvT hZ (wd hw 153 rfl)) (own_face (args := #[]) (mvT hZ (wd hw 90 rfl)) rfl) (mvT hZ (wd hw 155 rfl)) (mvT hZ (wd hw 156 rfl)) (by decide) (backOf (W := 0) (rmSL l Z a0 hw [] r1 nd h0 n0 Z0 uE uk) hZ (wd hw 157 rfl) (wd hw 48 rfl) (by decide) (by decide)) q3a q3c (g := (mkF m 10 #[vr r0, vr r1, .val .null, vr rv, uu] [(.ref r1)])) rfl (by rw [hml]; rfl) (Steps.refl _) (argsL := []) (rest := []) (lenOf pd_2 rfl) rfl (by show 2 * 0 + _ ≤ _; exact Nat.le_of_eq rfl) (hb hby d27_10) (fun _ _ => ⟨rfl, eh2, (by decide : 0 + 0 ≤ _), (by decide : 0 + 0 ≤ _)⟩)
  dsimp only [Pt.U, Pt.locs, Pt.cells, Pt.slots] at X3 lq3 yq3 zq3 st3 hQ3
  have X3 := own_reb X3 lq3 yq3 zq3
  obtain ⟨rfl, Nq3, eh3⟩ := hQ3
  have N3 := Fr.app N2 Nq3
  obtain ⟨cq4, kq4, q4a, q4b, q4c⟩ := isOf hZ eh3 uE
  obtain ⟨_, _, ⟨T4, Lw4, kw4, nw4⟩, -, X4, ⟨Lc4, hQ4, lq4, yq4, zq4⟩, st4⟩ := X3.virtualBack hx (y := M4) (z := M4) hown (mvT hZ (wd hw 160 rfl)) (mvT hZ (wd hw 161 rfl)) (notFace_of_selects (args := #[]) (mvT hZ (wd hw 163 rfl))) (mvT hZ (wd hw 163 rfl)) (mvT hZ (wd hw 162 rfl)) (by decide) (backOf (W := 0) (rmIL l Z a0 hw [] r1 zc h0 n0 Z0 uO uS uP uc) hZ (wd hw 164 rfl) (wd hw 56 rfl) (by decide) (by decide)) q4a q4c (g := (mkF m 16 #[vr r0, vr r1, .val .null, vr rv, vi nd] [(.ref r1)])) rfl (by rw [hml]; rfl) (Steps.refl _) (argsL := []) (rest := []) (lenOf pd_11 rfl) rfl (by show 2 * 0 + _ ≤ _; exact Nat.le_of_eq rfl) (hb hby d27_16) (fun _ _ => ⟨rfl, eh3, (by decide : 0 + 0 ≤ _), (by decide : 0 + 0 ≤ _)⟩)
  dsimp only [Pt.U, Pt.locs, Pt.cells, Pt.slots] at X4 lq4 yq4 zq4 st4 hQ4
  have X4 := own_reb X4 lq4 yq4 zq4
  obtain ⟨rfl, Nq4, eh4⟩ := hQ4
  have N4 := Fr.app N3 Nq4
  obtain ⟨T5, h5, X5, e5, W5, st5⟩ := putFN X4 hx hZ hown (wd hw 25 rfl) Via.refl eh4 usc us (Or.inr ⟨(wd hw 21 rfl), rfl, hnm⟩) (wd hw 5 rfl) (ty := .byte) (v' := z0) (by decide) rfl rfl (g := (mkF m 24 #[vr r0, vr r1, .val .null, vr rv, vi nd] [z0, (.ref r0)])) rfl rfl (hb hby d27_24)
  have Fw5 := usc.same W5
  have N5 := Fr.snoc X5 N4 ug
  have K5 : Keep h0 h5 [r0] := (Keep.refl h0 [r0]).wr W5 (Or.inl (List.mem_of_getElem? (i := 0) rfl))
  have Z5 : n0 ≤ h5.size := by rw [W5.size]; exact Z0
  have c7 := (uV.other W5 (Ne.symm (Exa.neArv us uV (wd hw 5 rfl))))
  obtain ⟨_, _, ⟨T6, Lw6, kw6, nw6⟩, -, X6, ⟨Lc6, hQ6, lq6, yq6, zq6⟩, st6⟩ := Jvm.LawKit.callS X5 hx (y := M18) hown (mvT hZ (wd hw 165 rfl)) (mvT hZ (wd hw 166 rfl)) (mvT hZ (wd hw 109 rfl)) (mvT hZ (wd hw 167 rfl)) (by decide) (backOf (W := 1) (rg_cor l Z a0 hw [] rv nd kv zv vv h5 n0 Z5 c7 un0 ult uS2 uC) hZ (wd hw 167 rfl) (wd hw 109 rfl) (by decide) (by decide)) (g := (mkF m 32 #[vr r0, vr r1, .val .null, vr rv, vi nd] [(.int nd), z0, (.ref rv), (.ref r0)])) rfl (by rw [hml]; rfl) (argsL := [(.ref rv), z0, (.int nd)]) (rest := [(.ref r0)]) (lenOf pd_9 rfl) rfl (by show 2 * 0 + _ ≤ _; exact Nat.le_of_eq rfl) (hb hby d27_32) (fun _ _ => ⟨rfl, e5, (by decide : 0 + 1 ≤ _), (by decide : 0 + 64 ≤ _)⟩)
  dsimp only [Pt.U, Pt.locs, Pt.cells, Pt.slots] at X6 lq6 yq6 zq6 st6 hQ6
  have X6 := own_reb X6 lq6 yq6 zq6
  obtain ⟨nb_6, nk_6, rfl, Nq6, Kq6, f6_0, f6_1, f6_2⟩ := hQ6
  have N6 := Fr.app N5 Nq6
  have c8 := (us.wr W5)
  have ne_r0_nb_6 : r0 ≠ nb_6 := Nat.ne_of_lt (Nat.lt_of_lt_of_le c8.lt f6_0)
  have c9 := (uE.wr W5)
  have ne_r1_nb_6 : r1 ≠ nb_6 := Nat.ne_of_lt (Nat.lt_of_lt_of_le c9.lt f6_0)
  have ne_rv_nb_6 : rv ≠ nb_6 := Nat.ne_of_lt (Nat.lt_of_lt_of_le c7.lt f6_0)
  have g_nb_6 : n0 ≤ nb_6 := Nat.le_trans Z5 f6_0
  have sz_nb_6 : h0.size ≤ nb_6 := Nat.le_trans K5.1 f6_0
  have K6 : Keep h0 T6.heap [r0] := K5.trans Kq6 all0
  have Z6 : n0 ≤ T6.heap.size := Nat.le_trans Z5 Kq6.1
  have c11 := ((us.wr W5).keep Kq6)
  have c12 := ((usv.other W5 (Or.inr (slot_ne (Or.inr (wd hw 20 rfl)) (Or.inr (wd hw 21 rfl)) (by decide) (t := (.array .byte)) (t' := .byte) (by decide) (by decide)))).keep Kq6 nin0)
  obtain ⟨T10, h10, X10, e10, W10, st10⟩ := putF X6 hx hZ hown (host := "") (Or.inl (wd hw 24 rfl)) Via.refl rfl c12 c11 (Or.inr ⟨(wd hw 20 rfl), rfl, hnm⟩) (wd hw 5 rfl) (ty := (.array .byte)) (by decide) rfl rfl (g := (mkF m 35 #[vr r0, vr r1, .val .null, vr rv, vi nd] [(.ref nb_6), (.ref r0)])) rfl rfl (hb hby d27_35)
  have Fw10 := c12.same W10
  have N10 := Fr.snoc X10 N6 ug
  have K10 : Keep h0 h10 [r0] := K6.wr W10 (Or.inl (List.mem_of_getElem? (i := 0) rfl))
  have Z10 : n0 ≤ h10.size := by rw [W10.size]; exact Z6
  have c13 := ((Fw5.keep Kq6 nin0).other W10 (Or.inr (slot_ne (Or.inr (wd hw 21 rfl)) (Or.inr (wd hw 20 rfl)) (by decide) (t := .byte) (t' := (.array .byte)) (by decide) (by decide))))
  have c14 := (f6_2.other W10 (Ne.symm ne_r0_nb_6))
  obtain ⟨fs, hr, hrun, hended, hW, hsame⟩ := X10.leave (v := none) (fun _ => rfl)
  refine ⟨_, _, pre0 _ ?_, hrun, hended, _, _, rfl, ?_, ⟨_, rfl⟩, hW, hsame.mono (by decide) (by decide)⟩
  · show SS p e below s₁ (mkF m 0 #[vr r0, vr r1, .val .null, uu, uu] []) _
    refine XS.aloadN X0.here hx rfl (hb hby d27_0) rfl rfl ?_
    show SS p e below s₁ (mkF m 1 #[vr r0, vr r1, .val .null, uu, uu] [(.ref r0)]) _
    refine st1 _ ?_
    refine XS.aloadN X1.here hx rfl (hb hby d27_4) rfl rfl ?_
    show SS p e below T1 (mkF m 5 #[vr r0, vr r1, .val .null, uu, uu] [(.ref r1)]) _
    refine st2.trans ?_
    refine XS.astoreN X2.here hx rfl (hb hby d27_8) rfl rfl (l' := #[vr r0, vr r1, .val .null, vr rv, uu]) rfl ?_
    refine XS.aloadN X2.here hx rfl (hb hby d27_9) rfl rfl ?_
    show SS p e below T2 (mkF m 10 #[vr r0, vr r1, .val .null, vr rv, uu] [(.ref r1)]) _
    refine st3.trans ?_
    refine XS.istore X3.here hx rfl (hb hby d27_13) rfl (l' := #[vr r0, vr r1, .val .null, vr rv, vi nd]) rfl ?_
    refine XS.aloadN X3.here hx rfl (hb hby d27_15) rfl rfl ?_
    show SS p e below T3 (mkF m 16 #[vr r0, vr r1, .val .null, vr rv, vi nd] [(.ref r1)]) _
    refine st4.trans ?_
    show SS p e below T4 (mkF m 19 #[vr r0, vr r1, .val .null, vr rv, vi nd] [(vI 1)]) _
    refine XS.ifNo X4.here hx rfl (hb hby d27_19) rfl ((if0 _ _).trans (feq (by decide : ¬ ((1 : Int32) = (0 : Int32)))).1) ?_
    refine XS.aloadN X4.here hx rfl (hb hby d27_22) rfl rfl ?_
    refine XS.iconst X4.here hx rfl (hb hby d27_23) ?_
    refine st5 _ ?_
    refine XS.aloadN X5.here hx rfl (hb hby d27_27) rfl rfl ?_
    refine XS.aloadN X5.here hx rfl (hb hby d27_28) rfl rfl ?_
    refine XS.iconst X5.here hx rfl (hb hby d27_29) ?_
    refine XS.iload X5.here hx rfl (hb hby d27_30) rfl ?_
    show SS p e below T5 (mkF m 32 #[vr r0, vr r1, .val .null, vr rv, vi nd] [(.int nd), z0, (.ref rv), (.ref r0)]) _
    refine st6 _ ?_
    refine st10 _ ?_
    refine XS.goto X10.here hx rfl (pc0 := 38) (pc' := 97) rfl (hb hby d27_38) (by decide) (by decide) ?_
    exact X10.returnOut hx Bd.returns (hb hby d27_97) hr
  · show Q_rg_si2 Z r0 r1 zc rv kv zv vv nd h0 n0 _ T10.heap _
    rw [e10]
    exact ⟨nb_6, nk_6, rfl, N10, K10, c13, Fw10, sz_nb_6, c14⟩
theorem ef_20 (m : MethodId) (x0 : Addr) (x1 : Addr) : entryFrame m #[(.ref x0), (.ref x1)] 2 = mkF m 0 #[vr x0, vr x1] [] := by first | (simp [entryFrame, mkF, argsToLocals, Value.category]; done) | rfl
theorem d26_0 : decode jdk_42_method_53_code 0 = .ok (.aload_n 0, 1) := by decide +kernel
theorem d26_1 : decode jdk_42_method_53_code 1 = .ok (.aload_n 1, 1) := by decide +kernel
theorem d26_2 : decode jdk_42_method_53_code 2 = .ok (.aconst_null, 1) := by decide +kernel
theorem d26_3 : decode jdk_42_method_53_code 3 = .ok (.invokespecial 489, 3) := by decide +kernel
theorem pd_12 : parseMethodDescriptor "(Ljava/lang/AbstractStringBuilder;Ljava/lang/Void;)V" = some ⟨[(.object "java/lang/AbstractStringBuilder"), (.object "java/lang/Void")], none⟩ := by decide +kernel
theorem d26_6 : decode jdk_42_method_53_code 6 = .ok (.return_, 1) := by decide +kernel
def Q_rg_si1 (Z : State) (r0 : Addr) (r1 : Addr) (zc : Int32) (rv : Addr) (kv : ClassId) (zv : Int32) (vv : List Value) (nd : Int32) (h0 : Heap) (n0 : Nat) (v : Option Value) (h : Heap) (L : List Loc) : Prop := ∃ (nb : Addr), ∃ (nk : ClassId), (v = none ∧ Fr n0 L ∧ Keep h0 h [r0] ∧ Fld Z h r0 "java/lang/String" "coder" "B" z0 ∧ Fld Z h r0 "java/lang/String" "value" "[B" (.ref nb) ∧ h0.size ≤ nb ∧ Arv Z h nb nk .byte nd (own_cut nd.toNatClampNeg vv) z0)
set_option maxRecDepth 65536 in
set_option maxHeartbeats 40000000 in
theorem rg_si1 (l : Launch) (Z : State) (a0 : Array Value) (hw : ∀ d ∈ tables_1, d.before a0 Z = true) (ws : List Jvm.Cond) (r0 : Addr) (r1 : Addr) (zc : Int32) (rv : Addr) (kv : ClassId) (zv : Int32) (vv : List Value) (nd : Int32) (h0 : Heap) (n0 : Nat) (Z0 : n0 ≤ h0.size) (uO : Old Z n0 h0) (uS : Sta Z Z.heap "java/lang/String" "COMPACT_STRINGS" "Z" (.int zc)) (uP : ¬ zc = 0) (us : Exa Z h0 r0 "java/lang/String") (usv : Fld Z h0 r0 "java/lang/String" "value" "[B" .null) (usc : Fld Z h0 r0 "java/lang/String" "coder" "B" z0) (ug : n0 ≤ r0) (uE : Exa Z h0 r1 "java/lang/StringBuilder") (uv : Fld Z h0 r1 "java/lang/AbstractStringBuilder" "value" "[B" (.ref rv)) (uc : Fld Z h0 r1 "java/lang/AbstractStringBuilder" "coder" "B" z0) (uV : Arv Z h0 rv kv .byte zv vv z0) (uk : Fld Z h0 r1 "java/lang/AbstractStringBuilder" "count" "I" (.int nd)) (un0 : ¬ nd < 0) (ult : nd < zv) (uS2 : nd.toNatClampNeg ≤ zv.toNatClampNeg) (uC : nd.toNatClampNeg ≤ 64) :
    MetFree l M20 (head1 (Jvm.Cond.code M20 jdk_42_method_53_code 2 none :: ws) ({ frames := 4, cells := 1, slots := 64, locals := 65 } : Room)) (fun a U => a = #[(.ref r0), (.ref r1)] ∧ Z.Warmed39 U.vm ∧ U.heap = h0) (fun _ _ _ _ _ => True) (fun _ U o U' => ∃ v L, o = .returned v ∧ Q_rg_si1 Z r0 r1 zc rv kv zv vv nd h0 n0 v U'.heap L ∧ FrameEnd U o U' L ({ frames := 4, cells := 1, slots := 64, locals := 65 } : Room).cells ({ frames := 4, cells := 1, slots := 64, locals := 65 } : Room).slots) := by
  refine MetFree.of_bodySF (plainFor_of_name pn_0) hisR ?_
  intro p e s m args below meth c s₁ Bd hml0 hP hK
  obtain ⟨rfl, hZ, hh⟩ := hP
  have hx := Bd.exec
  have hby := Bd.bytes
  have hml : c.maxLocals = 2 := hml0
  have hown : s.vm.findClass "java/lang/String" = some m.cls := findClass_of_methodNamed Bd.named
  have hnm := (name_of_methodNamed Bd.named Bd.method).1
  have X0 : Stand p l e ({ frames := 4, cells := 1, slots := 64, locals := 65 } : Room) s m #[(.ref r0), (.ref r1)] below meth c s₁ [] 0 0 := Stand.of_body Bd
  have e0 : s₁.heap = h0 := by rw [← hh, Bd.state]; rfl
  have N0 := Fr.nil n0
  have pre0 : ∀ t, Steps p.tables e below (s₁.setTop (mkF m 0 #[vr r0, vr r1] [])) t → Steps p.tables e below (s₁.setTop (entryFrame m #[(.ref r0), (.ref r1)] 2)) t := fun t k => castTop (ef_20 m r0 r1) k
  obtain ⟨_, _, ⟨T1, Lw1, kw1, nw1⟩, -, X1, ⟨Lc1, hQ1, lq1, yq1, zq1⟩, st1⟩ := X0.specialBack hx (y := M19) rfl hown (mvT hZ (wd hw 144 rfl)) (mvT hZ (wd hw 145 rfl)) (mvT hZ (wd hw 146 rfl)) (by decide) (backOf (W := 0) (rg_si2 l Z a0 hw [] r0 r1 zc rv kv zv vv nd h0 n0 Z0 uO uS uP us usv usc ug uE uv uc uV uk un0 ult uS2 uC) hZ (wd hw 146 rfl) (wd hw 6 rfl) (by decide) (by decide)) (g := (mkF m 3 #[vr r0, vr r1] [.null, (.ref r1), (.ref r0)])) rfl (by rw [hml]; rfl) (Steps.refl _) (a := r0) (argsL := [(.ref r1), .null]) (rest := []) (lenOf pd_12 rfl) rfl (by show 2 * 0 + _ ≤ _; exact Nat.le_of_eq rfl) (hb hby d26_3) (fun _ _ => ⟨rfl, e0, (by decide : 0 + 1 ≤ _), (by decide : 0 + 64 ≤ _)⟩)
  dsimp only [Pt.U, Pt.locs, Pt.cells, Pt.slots] at X1 lq1 yq1 zq1 st1 hQ1
  have X1 := own_reb X1 lq1 yq1 zq1
  obtain ⟨nb_1, nk_1, rfl, Nq1, Kq1, f1_0, f1_1, f1_2, f1_3⟩ := hQ1
  have N1 := Fr.app N0 Nq1
  have ne_r0_nb_1 : r0 ≠ nb_1 := Nat.ne_of_lt (Nat.lt_of_lt_of_le us.lt f1_2)
  have ne_r1_nb_1 : r1 ≠ nb_1 := Nat.ne_of_lt (Nat.lt_of_lt_of_le uE.lt f1_2)
  have ne_rv_nb_1 : rv ≠ nb_1 := Nat.ne_of_lt (Nat.lt_of_lt_of_le uV.lt f1_2)
  have g_nb_1 : n0 ≤ nb_1 := Nat.le_trans Z0 f1_2
  have sz_nb_1 : h0.size ≤ nb_1 := Nat.le_trans (Keep.refl h0 [r0]).1 f1_2
  have K1 : Keep h0 T1.heap [r0] := (Keep.refl h0 [r0]).trans Kq1 (allS (Or.inl (List.mem_of_getElem? (i := 0) rfl)) all0)
  have Z1 : n0 ≤ T1.heap.size := Nat.le_trans Z0 Kq1.1
  obtain ⟨fs, hr, hrun, hended, hW, hsame⟩ := X1.leave (v := none) (fun _ => rfl)
  refine ⟨_, _, pre0 _ ?_, hrun, hended, _, _, rfl, ?_, ⟨_, rfl⟩, hW, hsame.mono (by decide) (by decide)⟩
  · show SS p e below s₁ (mkF m 0 #[vr r0, vr r1] []) _
    refine XS.aloadN X0.here hx rfl (hb hby d26_0) rfl rfl ?_
    refine XS.aloadN X0.here hx rfl (hb hby d26_1) rfl rfl ?_
    refine XS.aconstNull X0.here hx rfl (hb hby d26_2) ?_
    show SS p e below s₁ (mkF m 3 #[vr r0, vr r1] [.null, (.ref r1), (.ref r0)]) _
    refine st1.trans ?_
    exact X1.returnOut hx Bd.returns (hb hby d26_6) hr
  · show Q_rg_si1 Z r0 r1 zc rv kv zv vv nd h0 n0 _ T1.heap _
    exact ⟨nb_1, nk_1, rfl, N1, K1, f1_0, f1_1, sz_nb_1, f1_3⟩
theorem ef_21 (m : MethodId) (x0 : Addr) : entryFrame m #[(.ref x0)] 1 = mkF m 0 #[vr x0] [] := by first | (simp [entryFrame, mkF, argsToLocals, Value.category]; done) | rfl
theorem d25_0 : decode jdk_67_method_42_code 0 = .ok (.new 18, 3) := by decide +kernel
theorem d25_3 : decode jdk_67_method_42_code 3 = .ok (.dup, 1) := by decide +kernel
theorem d25_4 : decode jdk_67_method_42_code 4 = .ok (.aload_n 0, 1) := by decide +kernel
theorem d25_5 : decode jdk_67_method_42_code 5 = .ok (.invokespecial 137, 3) := by decide +kernel
theorem pd_13 : parseMethodDescriptor "(Ljava/lang/StringBuilder;)V" = some ⟨[(.object "java/lang/StringBuilder")], none⟩ := by decide +kernel
theorem d25_8 : decode jdk_67_method_42_code 8 = .ok (.areturn, 1) := by decide +kernel
def Q_rg_tos (Z : State) (r0 : Addr) (zc : Int32) (rv : Addr) (kv : ClassId) (zv : Int32) (vv : List Value) (nd : Int32) (h0 : Heap) (n0 : Nat) (v : Option Value) (h : Heap) (L : List Loc) : Prop := ∃ (nx : Addr), ∃ (nb : Addr), ∃ (nk : ClassId), (v = some (.ref nx) ∧ Fr n0 L ∧ Keep h0 h [] ∧ h0.size ≤ nx ∧ Exa Z h nx "java/lang/String" ∧ Fld Z h nx "java/lang/String" "coder" "B" z0 ∧ Fld Z h nx "java/lang/String" "value" "[B" (.ref nb) ∧ h0.size ≤ nb ∧ Arv Z h nb nk .byte nd (own_cut nd.toNatClampNeg vv) z0)
set_option maxRecDepth 65536 in
set_option maxHeartbeats 40000000 in
theorem rg_tos (l : Launch) (Z : State) (a0 : Array Value) (hw : ∀ d ∈ tables_1, d.before a0 Z = true) (ws : List Jvm.Cond) (r0 : Addr) (zc : Int32) (rv : Addr) (kv : ClassId) (zv : Int32) (vv : List Value) (nd : Int32) (h0 : Heap) (n0 : Nat) (Z0 : n0 ≤ h0.size) (uO : Old Z n0 h0) (uS : Sta Z Z.heap "java/lang/String" "COMPACT_STRINGS" "Z" (.int zc)) (uP : ¬ zc = 0) (uE : Exa Z h0 r0 "java/lang/StringBuilder") (uv : Fld Z h0 r0 "java/lang/AbstractStringBuilder" "value" "[B" (.ref rv)) (uc : Fld Z h0 r0 "java/lang/AbstractStringBuilder" "coder" "B" z0) (uV : Arv Z h0 rv kv .byte zv vv z0) (uk : Fld Z h0 r0 "java/lang/AbstractStringBuilder" "count" "I" (.int nd)) (un0 : ¬ nd < 0) (ult : nd < zv) (uS2 : nd.toNatClampNeg ≤ zv.toNatClampNeg) (uC : nd.toNatClampNeg ≤ 64) :
    MetFree l M21 (head1 (Jvm.Cond.code M21 jdk_67_method_42_code 1 (some (.object "java/lang/String")) :: ws) ({ frames := 5, cells := 2, slots := 68, locals := 79 } : Room)) (fun a U => a = #[(.ref r0)] ∧ Z.Warmed39 U.vm ∧ U.heap = h0) (fun _ _ _ _ _ => True) (fun _ U o U' => ∃ v L, o = .returned v ∧ Q_rg_tos Z r0 zc rv kv zv vv nd h0 n0 v U'.heap L ∧ FrameEnd U o U' L ({ frames := 5, cells := 2, slots := 68, locals := 79 } : Room).cells ({ frames := 5, cells := 2, slots := 68, locals := 79 } : Room).slots) := by
  refine MetFree.of_bodySF (plainFor_of_name pn_2) hisR ?_
  intro p e s m args below meth c s₁ Bd hml0 hP hK
  obtain ⟨rfl, hZ, hh⟩ := hP
  have hx := Bd.exec
  have hby := Bd.bytes
  have hml : c.maxLocals = 1 := hml0
  have hown : s.vm.findClass "java/lang/StringBuilder" = some m.cls := findClass_of_methodNamed Bd.named
  have hnm := (name_of_methodNamed Bd.named Bd.method).1
  have X0 : Stand p l e ({ frames := 5, cells := 2, slots := 68, locals := 79 } : Room) s m #[(.ref r0)] below meth c s₁ [] 0 0 := Stand.of_body Bd
  have e0 : s₁.heap = h0 := by rw [← hh, Bd.state]; rfl
  have N0 := Fr.nil n0
  have pre0 : ∀ t, Steps p.tables e below (s₁.setTop (mkF m 0 #[vr r0] [])) t → Steps p.tables e below (s₁.setTop (entryFrame m #[(.ref r0)] 1)) t := fun t k => castTop (ef_21 m r0) k
  obtain ⟨T1, h1, X1, e1, E1, A1, D1, Un1, st1⟩ := newO X0 hx hZ hown (wd hw 140 rfl) (wd hw 5 rfl) (wd hw 6 rfl) e0 (g := (mkF m 0 #[vr r0] [])) rfl (hb hby d25_0) (by decide) (by decide)
  obtain ⟨b1, g1⟩ : ∃ z, z = h0.size := ⟨_, rfl⟩
  rw [← g1] at A1 D1 Un1 st1
  have ne_r0_b1 : r0 ≠ b1 := Nat.ne_of_lt (Nat.lt_of_lt_of_le uE.lt (Nat.le_of_eq g1.symm))
  have ne_rv_b1 : rv ≠ b1 := Nat.ne_of_lt (Nat.lt_of_lt_of_le uV.lt (Nat.le_of_eq g1.symm))
  have F1_value : Fld Z h1 b1 "java/lang/String" "value" "[B" .null := D1 (Or.inr (wd hw 20 rfl)) (ty := (.array .byte)) (by decide)
  have F1_coder : Fld Z h1 b1 "java/lang/String" "coder" "B" z0 := D1 (Or.inr (wd hw 21 rfl)) (ty := .byte) (by decide)
  have g_b1 : n0 ≤ b1 := Nat.le_trans Z0 (Nat.le_of_eq g1.symm)
  have sz_b1 : h0.size ≤ b1 := Nat.le_trans (Keep.refl h0 []).1 (Nat.le_of_eq g1.symm)
  have K1 : Keep h0 h1 [] := (Keep.refl h0 []).ext E1
  have Z1 : n0 ≤ h1.size := Nat.le_trans Z0 E1.1
  have c3 := (uO.ext E1)
  have c4 := (uE.ext E1)
  have c5 := (uv.ext E1)
  have c6 := (uc.ext E1)
  have c7 := (uV.ext E1)
  have c8 := (uk.ext E1)
  obtain ⟨_, _, ⟨T2, Lw2, kw2, nw2⟩, -, X2, ⟨Lc2, hQ2, lq2, yq2, zq2⟩, st2⟩ := X1.specialBack hx (y := M20) rfl hown (mvT hZ (wd hw 141 rfl)) (mvT hZ (wd hw 142 rfl)) (mvT hZ (wd hw 143 rfl)) (by decide) (backOf (W := 1) (rg_si1 l Z a0 hw [] b1 r0 zc rv kv zv vv nd h1 n0 Z1 c3 uS uP A1 F1_value F1_coder g_b1 c4 c5 c6 c7 c8 un0 ult uS2 uC) hZ (wd hw 143 rfl) (wd hw 6 rfl) (by decide) (by decide)) (g := (mkF m 5 #[vr r0] [(.ref r0), (.ref b1), (.ref b1)])) rfl (by rw [hml]; rfl) (Steps.refl _) (a := b1) (argsL := [(.ref r0)]) (rest := [(.ref b1)]) (lenOf pd_13 rfl) rfl (by show 2 * 0 + _ ≤ _; exact Nat.le_of_eq rfl) (hb hby d25_5) (fun _ _ => ⟨rfl, e1, (by decide : 1 + 1 ≤ _), (by decide : 4 + 64 ≤ _)⟩)
  dsimp only [Pt.U, Pt.locs, Pt.cells, Pt.slots] at X2 lq2 yq2 zq2 st2 hQ2
  have X2 := own_reb X2 lq2 yq2 zq2
  obtain ⟨nb_2, nk_2, rfl, Nq2, Kq2, f2_0, f2_1, f2_2, f2_3⟩ := hQ2
  have N2 := Fr.app N0 Nq2
  have ne_r0_nb_2 : r0 ≠ nb_2 := Nat.ne_of_lt (Nat.lt_of_lt_of_le c4.lt f2_2)
  have ne_rv_nb_2 : rv ≠ nb_2 := Nat.ne_of_lt (Nat.lt_of_lt_of_le c7.lt f2_2)
  have ne_b1_nb_2 : b1 ≠ nb_2 := Nat.ne_of_lt (Nat.lt_of_lt_of_le A1.lt f2_2)
  have g_nb_2 : n0 ≤ nb_2 := Nat.le_trans Z1 f2_2
  have sz_nb_2 : h0.size ≤ nb_2 := Nat.le_trans K1.1 f2_2
  have K2 : Keep h0 T2.heap [] := K1.trans Kq2 (allS (Or.inr sz_b1) all0)
  have Z2 : n0 ≤ T2.heap.size := Nat.le_trans Z1 Kq2.1
  have c9 := (A1.keep Kq2)
  obtain ⟨fs, hr, hrun, hended, hW, hsame⟩ := X2.leave (v := some (.ref b1)) (fun h => by rw [Bd.returns] at h; cases h)
  refine ⟨_, _, pre0 _ ?_, hrun, hended, _, _, rfl, ?_, ⟨_, rfl⟩, hW, hsame.mono (by decide) (by decide)⟩
  · show SS p e below s₁ (mkF m 0 #[vr r0] []) _
    refine st1 _ ?_
    refine XS.dup X1.here hx rfl (hb hby d25_3) rfl rfl ?_
    refine XS.aloadN X1.here hx rfl (hb hby d25_4) rfl rfl ?_
    show SS p e below T1 (mkF m 5 #[vr r0] [(.ref r0), (.ref b1), (.ref b1)]) _
    refine st2.trans ?_
    exact retOut X2 hx Bd.returns rfl (Or.inr (Or.inr (Or.inr (Or.inr ⟨rfl, rfl, rfl⟩)))) (hb hby d25_8) hr
  · show Q_rg_tos Z r0 zc rv kv zv vv nd h0 n0 _ T2.heap _
    exact ⟨b1, nb_2, nk_2, rfl, N2, K2, sz_b1, c9, f2_0, f2_1, sz_nb_2, f2_3⟩
theorem ef_22 (m : MethodId) (x0 : Addr) (x1 : Addr) : entryFrame m #[(.ref x0), (.ref x1), z0, z0, .null] 6 = mkF m 0 #[vr x0, vr x1, vi (0 : Int32), vi (0 : Int32), .val .null, uu] [] := by first | (simp [entryFrame, mkF, argsToLocals, Value.category]; done) | rfl
theorem d3_0 : decode jdk_42_method_149_code 0 = .ok (.aload_n 0, 1) := by decide +kernel
theorem d3_1 : decode jdk_42_method_149_code 1 = .ok (.invokespecial 1, 3) := by decide +kernel
theorem d3_4 : decode jdk_42_method_149_code 4 = .ok (.iload_n 3, 1) := by decide +kernel
theorem d3_5 : decode jdk_42_method_149_code 5 = .ok (.ifCond .ne 22, 3) := by decide +kernel
theorem d3_8 : decode jdk_42_method_149_code 8 = .ok (.aload_n 0, 1) := by decide +kernel
theorem d3_9 : decode jdk_42_method_149_code 9 = .ok (.ldc 7, 2) := by decide +kernel
theorem own_strAtoms : ∀ d ∈ Bundle.stringAtoms, d ∈ tables_1 := by decide +kernel
theorem d3_11 : decode jdk_42_method_149_code 11 = .ok (.getfield 9, 3) := by decide +kernel
theorem d3_14 : decode jdk_42_method_149_code 14 = .ok (.putfield 9, 3) := by decide +kernel
theorem d3_17 : decode jdk_42_method_149_code 17 = .ok (.aload_n 0, 1) := by decide +kernel
theorem d3_18 : decode jdk_42_method_149_code 18 = .ok (.ldc 7, 2) := by decide +kernel
theorem d3_20 : decode jdk_42_method_149_code 20 = .ok (.getfield 15, 3) := by decide +kernel
theorem d3_23 : decode jdk_42_method_149_code 23 = .ok (.putfield 15, 3) := by decide +kernel
theorem d3_26 : decode jdk_42_method_149_code 26 = .ok (.return_, 1) := by decide +kernel
def Q_rmS0 (Z : State) (r0 : Addr) (r1 : Addr) (h0 : Heap) (n0 : Nat) (v : Option Value) (h : Heap) (L : List Loc) : Prop := ∃ (nt : Addr), ∃ (nk : ClassId), (v = none ∧ Fr n0 L ∧ Keep h0 h [r0] ∧ Exa Z h r0 "java/lang/String" ∧ Fld Z h r0 "java/lang/String" "coder" "B" z0 ∧ Fld Z h r0 "java/lang/String" "value" "[B" (.ref nt) ∧ Arv Z h nt nk .byte (0 : Int32) [] z0)
set_option maxRecDepth 65536 in
set_option maxHeartbeats 40000000 in
theorem rmS0 (l : Launch) (Z : State) (a0 : Array Value) (hw : ∀ d ∈ tables_1, d.before a0 Z = true) (ws : List Jvm.Cond) (r0 : Addr) (r1 : Addr) (h0 : Heap) (n0 : Nat) (Z0 : n0 ≤ h0.size) (uE : Exa Z h0 r0 "java/lang/String") (uv : Fld Z h0 r0 "java/lang/String" "value" "[B" .null) (uc : Fld Z h0 r0 "java/lang/String" "coder" "B" z0) (ug : n0 ≤ r0) :
    MetFree l M22 (head1 (Jvm.Cond.code M22 jdk_42_method_149_code 6 none :: ws) ({ frames := 1, cells := 4, slots := 8, locals := 12 } : Room)) (fun a U => a = #[(.ref r0), (.ref r1), z0, z0, .null] ∧ Z.Warmed39 U.vm ∧ U.heap = h0 ∧ CHv Z own_EL U.vm h0) (fun _ _ _ _ _ => True) (fun _ U o U' => ∃ v L, o = .returned v ∧ Q_rmS0 Z r0 r1 h0 n0 v U'.heap L ∧ CHr Z own_EL U.vm U.heap U'.vm U'.heap ∧ ReturnedEndW U o U' L ({ frames := 1, cells := 4, slots := 8, locals := 12 } : Room).cells ({ frames := 1, cells := 4, slots := 8, locals := 12 } : Room).slots) := by
  refine MetFree.of_bodySF (plainFor_of_name pn_0) hisR ?_
  intro p e s m args below meth c s₁ Bd hml0 hP hK
  obtain ⟨rfl, hZ, hh, hC0⟩ := hP
  have hx := Bd.exec
  have hby := Bd.bytes
  have hml : c.maxLocals = 6 := hml0
  have hown : s.vm.findClass "java/lang/String" = some m.cls := findClass_of_methodNamed Bd.named
  have hnm := (name_of_methodNamed Bd.named Bd.method).1
  have X0 : Stand p l e ({ frames := 1, cells := 4, slots := 8, locals := 12 } : Room) (s.setVm s.vm) m #[(.ref r0), (.ref r1), z0, z0, .null] below meth c s₁ [] 0 0 := Stand.of_body Bd
  have e0 : s₁.heap = h0 := by rw [← hh, Bd.state]; rfl
  have N0 := Fr.nil n0
  have pre0 : ∀ t, Steps p.tables e below (s₁.setTop (mkF m 0 #[vr r0, vr r1, vi (0 : Int32), vi (0 : Int32), .val .null, uu] [])) t → Steps p.tables e below (s₁.setTop (entryFrame m #[(.ref r0), (.ref r1), z0, z0, .null] 6)) t := fun t k => castTop (ef_22 m r0 r1) k
  have hS0 : s.Since s.vm 0 := (State.WarmedH.refl s).since _
  have hk0 : 0 ≤ h0.size := Nat.zero_le _
  have R0 := CHr.refl hC0
  obtain ⟨T1, X1, e1, st1⟩ := initO X0 hx hZ hown (wd hw 15 rfl) (wd hw 16 rfl) (wd hw 17 rfl) e0 (g := (mkF m 1 #[vr r0, vr r1, vi (0 : Int32), vi (0 : Int32), .val .null, uu] [(.ref r0)])) rfl (by rw [hml]; rfl) rfl (hb hby d3_1) (by decide) (W := 0) (by show 2 * 0 + _ ≤ _; exact Nat.le_of_eq rfl) (by decide)
  obtain ⟨b2, T2, h2, kk2, t2, kc2, X2, e2, E2, hS2, hk2, hZ2, hown2, fE2, fC2, fV2, fK2, lta2, ltb2, CH2, -, SF2, st2⟩ := ldcCH X1 hx hZ hown (wd hw 18 rfl) (fun d hd => hw d (own_strAtoms d hd)) e1 hS0 hk0 (own_EW hw) (by decide) hC0 (vs := []) (z := (0 : Int32)) ⟨by decide, by decide⟩ (by decide) (by decide) (g := (mkF m 9 #[vr r0, vr r1, vi (0 : Int32), vi (0 : Int32), .val .null, uu] [(.ref r0)])) rfl (hb hby d3_9) (n := 0) (by decide) (by decide) (by decide) (by decide)
  have Re3 := R0.trans CH2
  have hCe3 := Re3.1
  have c5 := (uE.ext E2)
  have c6 := (uv.ext E2)
  have sf4 := own_safeNull (EL := own_EL) hZ2.alike c5 c6
  have nlr0_2 := SF2 r0 sf4
  have K2 : Keep h0 h2 [r0] := (Keep.refl h0 [r0]).ext E2
  have Z2 : n0 ≤ h2.size := Nat.le_trans Z0 E2.1
  obtain ⟨T7, X7, e7, st7⟩ := getF X2 hx hZ2 hown2 (host := "") (Or.inl (wd hw 24 rfl)) Via.refl e2 fV2 (g := (mkF m 11 #[vr r0, vr r1, vi (0 : Int32), vi (0 : Int32), .val .null, uu] [(.ref b2), (.ref r0)])) rfl rfl (hb hby d3_11)
  obtain ⟨T8, h8, X8, e8, W8, st8⟩ := putF X7 hx hZ2 hown2 (host := "") (Or.inl (wd hw 24 rfl)) Via.refl e7 c6 c5 (Or.inr ⟨(wd hw 20 rfl), rfl, hnm⟩) (wd hw 5 rfl) (ty := (.array .byte)) (by decide) rfl rfl (g := (mkF m 14 #[vr r0, vr r1, vi (0 : Int32), vi (0 : Int32), .val .null, uu] [(.ref t2), (.ref r0)])) rfl rfl (hb hby d3_14)
  have Re9 := Re3.trans (CHr.wr W8 sf4 hCe3)
  have hCe9 := Re9.1
  have Fw8 := c6.same W8
  have N8 := Fr.snoc X8 N0 ug
  have K8 : Keep h0 h8 [r0] := K2.wr W8 (Or.inl (List.mem_of_getElem? (i := 0) rfl))
  have Z8 : n0 ≤ h8.size := by rw [W8.size]; exact Z2
  have hk8 := own_szW W8 hk2
  obtain ⟨b10, T10, h10, kk10, t10, kc10, X10, e10, E10, hS10, hk10, hZ10, hown10, fE10, fC10, fV10, fK10, lta10, ltb10, CH10, -, SF10, st10⟩ := ldcCH X8 hx hZ2 hown2 (wd hw 18 rfl) (fun d hd => hw d (own_strAtoms d hd)) e8 hS2 hk8 (own_EW hw) (by decide) hCe9 (vs := []) (z := (0 : Int32)) ⟨by decide, by decide⟩ (by decide) (by decide) (g := (mkF m 18 #[vr r0, vr r1, vi (0 : Int32), vi (0 : Int32), .val .null, uu] [(.ref r0)])) rfl (hb hby d3_18) (n := 0) (by decide) (by decide) (by decide) (by decide)
  have Re11 := Re9.trans CH10
  have hCe11 := Re11.1
  have c12 := (c5.wr W8)
  have c13 := (CHr.safe CH10 c12.lt (Safe.wr W8 sf4 hCe3 sf4))
  have nlr0_10 := SF10 r0 c13
  have K10 : Keep h0 h10 [r0] := K8.ext E10
  have Z10 : n0 ≤ h10.size := Nat.le_trans Z8 E10.1
  obtain ⟨T14, X14, e14, st14⟩ := getF X10 hx hZ10 hown10 (host := "") (Or.inl (wd hw 25 rfl)) Via.refl e10 fC10 (g := (mkF m 20 #[vr r0, vr r1, vi (0 : Int32), vi (0 : Int32), .val .null, uu] [(.ref b10), (.ref r0)])) rfl rfl (hb hby d3_20)
  have c16 := ((c5.wr W8).ext E10)
  have c17 := (((uc.ext E2).other W8 (Or.inr (slot_ne (Or.inr (wd hw 21 rfl)) (Or.inr (wd hw 20 rfl)) (by decide) (t := .byte) (t' := (.array .byte)) (by decide) (by decide)))).ext E10)
  obtain ⟨T15, h15, X15, e15, W15, st15⟩ := putFN X14 hx hZ10 hown10 (wd hw 25 rfl) Via.refl e14 c17 c16 (Or.inr ⟨(wd hw 21 rfl), rfl, hnm⟩) (wd hw 5 rfl) (ty := .byte) (v' := z0) (by decide) rfl rfl (g := (mkF m 23 #[vr r0, vr r1, vi (0 : Int32), vi (0 : Int32), .val .null, uu] [z0, (.ref r0)])) rfl rfl (hb hby d3_23)
  have Re18 := Re11.trans (CHr.wr W15 c13 hCe11)
  have hCe18 := Re18.1
  have Fw15 := c17.same W15
  have N15 := Fr.snoc X15 N8 ug
  have K15 : Keep h0 h15 [r0] := K10.wr W15 (Or.inl (List.mem_of_getElem? (i := 0) rfl))
  have Z15 : n0 ≤ h15.size := by rw [W15.size]; exact Z10
  have hk15 := own_szW W15 hk10
  have c19 := (c16.wr W15)
  have c20 := ((Fw8.ext E10).other W15 (Or.inr (slot_ne (Or.inr (wd hw 20 rfl)) (Or.inr (wd hw 21 rfl)) (by decide) (t := (.array .byte)) (t' := .byte) (by decide) (by decide))))
  have c21 := (((fK2.other W8 (Ne.symm nlr0_2.2)).ext E10).other W15 (Ne.symm nlr0_2.2))
  obtain ⟨fs, hr, hrun, hended, en1, en2, en3, en4⟩ := X15.leaveW hS10 (own_hk e15 hk15) (v := none) (fun _ => rfl)
  refine ⟨_, _, pre0 _ ?_, hrun, hended, _, _, rfl, ?_, own_chr (T := T15) hh e15 (Re18.trans (CHv.at X15 hZ10 (own_EW hw) hCe18)), en1, en2, en3, en4.mono (by decide) (by decide)⟩
  · show SS p e below s₁ (mkF m 0 #[vr r0, vr r1, vi (0 : Int32), vi (0 : Int32), .val .null, uu] []) _
    refine XS.aloadN X0.here hx rfl (hb hby d3_0) rfl rfl ?_
    show SS p e below s₁ (mkF m 1 #[vr r0, vr r1, vi (0 : Int32), vi (0 : Int32), .val .null, uu] [(.ref r0)]) _
    refine st1 _ ?_
    refine XS.iloadN X1.here hx rfl (hb hby d3_4) rfl ?_
    show SS p e below T1 (mkF m 5 #[vr r0, vr r1, vi (0 : Int32), vi (0 : Int32), .val .null, uu] [z0]) _
    refine XS.ifNo X1.here hx rfl (hb hby d3_5) rfl ((if0 _ _).trans (teq (by decide : (0 : Int32) = (0 : Int32))).2) ?_
    refine XS.aloadN X1.here hx rfl (hb hby d3_8) rfl rfl ?_
    show SS p e below T1 (mkF m 9 #[vr r0, vr r1, vi (0 : Int32), vi (0 : Int32), .val .null, uu] [(.ref r0)]) _
    refine st2 _ ?_
    refine st7 _ ?_
    refine st8 _ ?_
    refine XS.aloadN X8.here hx rfl (hb hby d3_17) rfl rfl ?_
    show SS p e below T8 (mkF m 18 #[vr r0, vr r1, vi (0 : Int32), vi (0 : Int32), .val .null, uu] [(.ref r0)]) _
    refine st10 _ ?_
    refine st14 _ ?_
    refine st15 _ ?_
    exact X15.returnOut hx Bd.returns (hb hby d3_26) hr
  · show Q_rmS0 Z r0 r1 h0 n0 _ T15.heap _
    rw [e15]
    exact ⟨t2, kc2, rfl, N15, K15, c19, Fw15, c20, c21⟩
theorem ef_23 (m : MethodId) (x0 : Addr) (x1 : Addr) : entryFrame m #[(.ref x0), (.ref x1)] 2 = mkF m 0 #[vr x0, vr x1] [] := by first | (simp [entryFrame, mkF, argsToLocals, Value.category]; done) | rfl
theorem d2_0 : decode jdk_42_method_3_code 0 = .ok (.aload_n 0, 1) := by decide +kernel
theorem d2_1 : decode jdk_42_method_3_code 1 = .ok (.aload_n 1, 1) := by decide +kernel
theorem d2_2 : decode jdk_42_method_3_code 2 = .ok (.iconst 0, 1) := by decide +kernel
theorem d2_3 : decode jdk_42_method_3_code 3 = .ok (.aload_n 1, 1) := by decide +kernel
theorem d2_4 : decode jdk_42_method_3_code 4 = .ok (.arraylength, 1) := by decide +kernel
theorem d2_5 : decode jdk_42_method_3_code 5 = .ok (.aconst_null, 1) := by decide +kernel
theorem d2_6 : decode jdk_42_method_3_code 6 = .ok (.invokespecial 27, 3) := by decide +kernel
theorem pd_14 : parseMethodDescriptor "([CIILjava/lang/Void;)V" = some ⟨[(.array .char), .int, .int, (.object "java/lang/Void")], none⟩ := by decide +kernel
theorem d2_9 : decode jdk_42_method_3_code 9 = .ok (.return_, 1) := by decide +kernel
def Q_rmS1 (Z : State) (r0 : Addr) (r1 : Addr) (kb : ClassId) (h0 : Heap) (n0 : Nat) (v : Option Value) (h : Heap) (L : List Loc) : Prop := ∃ (nt : Addr), ∃ (nk : ClassId), (v = none ∧ Fr n0 L ∧ Keep h0 h [r0] ∧ Exa Z h r0 "java/lang/String" ∧ Fld Z h r0 "java/lang/String" "coder" "B" z0 ∧ Fld Z h r0 "java/lang/String" "value" "[B" (.ref nt) ∧ Arv Z h nt nk .byte (0 : Int32) [] z0)
set_option maxRecDepth 65536 in
set_option maxHeartbeats 40000000 in
theorem rmS1 (l : Launch) (Z : State) (a0 : Array Value) (hw : ∀ d ∈ tables_1, d.before a0 Z = true) (ws : List Jvm.Cond) (r0 : Addr) (r1 : Addr) (kb : ClassId) (h0 : Heap) (n0 : Nat) (Z0 : n0 ≤ h0.size) (uE : Exa Z h0 r0 "java/lang/String") (uv : Fld Z h0 r0 "java/lang/String" "value" "[B" .null) (uc : Fld Z h0 r0 "java/lang/String" "coder" "B" z0) (ug : n0 ≤ r0) (uV : Arv Z h0 r1 kb .char (0 : Int32) [] z0) :
    MetFree l M23 (head1 (Jvm.Cond.code M23 jdk_42_method_3_code 2 none :: ws) ({ frames := 2, cells := 4, slots := 8, locals := 29 } : Room)) (fun a U => a = #[(.ref r0), (.ref r1)] ∧ Z.Warmed39 U.vm ∧ U.heap = h0 ∧ CHv Z own_EL U.vm h0) (fun _ _ _ _ _ => True) (fun _ U o U' => ∃ v L, o = .returned v ∧ Q_rmS1 Z r0 r1 kb h0 n0 v U'.heap L ∧ CHr Z own_EL U.vm U.heap U'.vm U'.heap ∧ ReturnedEndW U o U' L ({ frames := 2, cells := 4, slots := 8, locals := 29 } : Room).cells ({ frames := 2, cells := 4, slots := 8, locals := 29 } : Room).slots) := by
  refine MetFree.of_bodySF (plainFor_of_name pn_0) hisR ?_
  intro p e s m args below meth c s₁ Bd hml0 hP hK
  obtain ⟨rfl, hZ, hh, hC0⟩ := hP
  have hx := Bd.exec
  have hby := Bd.bytes
  have hml : c.maxLocals = 2 := hml0
  have hown : s.vm.findClass "java/lang/String" = some m.cls := findClass_of_methodNamed Bd.named
  have hnm := (name_of_methodNamed Bd.named Bd.method).1
  have X0 : Stand p l e ({ frames := 2, cells := 4, slots := 8, locals := 29 } : Room) (s.setVm s.vm) m #[(.ref r0), (.ref r1)] below meth c s₁ [] 0 0 := Stand.of_body Bd
  have e0 : s₁.heap = h0 := by rw [← hh, Bd.state]; rfl
  have N0 := Fr.nil n0
  have pre0 : ∀ t, Steps p.tables e below (s₁.setTop (mkF m 0 #[vr r0, vr r1] [])) t → Steps p.tables e below (s₁.setTop (entryFrame m #[(.ref r0), (.ref r1)] 2)) t := fun t k => castTop (ef_23 m r0 r1) k
  have hS0 : s.Since s.vm 0 := (State.WarmedH.refl s).since _
  have hk0 : 0 ≤ h0.size := Nat.zero_le _
  have R0 := CHr.refl hC0
  obtain ⟨cl1, Ar1, q1, S1, Nn1, H1, G1⟩ := (id uV)
  obtain ⟨_, _, ⟨T2, Lw2, kw2, nw2⟩, -, X2', hS2', hg2, ⟨Lc2, hQ2, lq2, yq2, zq2, CH2⟩, st2⟩ := X0.specialBackS hx (y := M22) rfl hown (mvT hZ (wd hw 11 rfl)) (mvT hZ (wd hw 12 rfl)) (mvT hZ (wd hw 14 rfl)) (by decide) (backOfSH (W := 0) (rmS0 l Z a0 hw [] r0 r1 h0 n0 Z0 uE uv uc ug) hZ (wd hw 14 rfl) (wd hw 6 rfl) (by decide) (by decide) (own_EW hw) hC0) (g := (mkF m 6 #[vr r0, vr r1] [.null, z0, z0, (.ref r1), (.ref r0)])) rfl (by rw [hml]; rfl) (Steps.refl _) (a := r0) (argsL := [(.ref r1), z0, z0, .null]) (rest := []) (lenOf pd_14 rfl) rfl (by show 2 * 0 + _ ≤ _; exact Nat.le_of_eq rfl) (hb hby d2_6) (fun _ _ => ⟨rfl, e0, (by decide : 0 + 4 ≤ _), (by decide : 0 + 8 ≤ _)⟩)
  dsimp only [Pt.U, Pt.locs, Pt.cells, Pt.slots] at X2' hS2' hg2 lq2 yq2 zq2 st2 hQ2 CH2
  have X2' := own_reb X2' lq2 yq2 zq2
  obtain ⟨X2, hS2, hZ2, hown2⟩ := rebS hS0 (own_hk e0 hk0) X2' hS2' hg2 hZ hown
  obtain ⟨nt_2, nk_2, rfl, Nq2, Kq2, f2_0, f2_1, f2_2, f2_3⟩ := hQ2
  have N2 := Fr.app N0 Nq2
  have Re3 := R0.trans CH2
  have hCe3 := Re3.1
  have K2 : Keep h0 T2.heap [r0] := (Keep.refl h0 [r0]).trans Kq2 (allS (Or.inl (List.mem_of_getElem? (i := 0) rfl)) all0)
  have Z2 : n0 ≤ T2.heap.size := Nat.le_trans Z0 Kq2.1
  have hk2 : T2.heap.size ≤ T2.heap.size := Nat.le_refl _
  obtain ⟨fs, hr, hrun, hended, en1, en2, en3, en4⟩ := X2.leaveW hS2 (own_hk rfl hk2) (v := none) (fun _ => rfl)
  refine ⟨_, _, pre0 _ ?_, hrun, hended, _, _, rfl, ?_, own_chr (T := T2) hh rfl (Re3.trans (CHv.at X2 hZ2 (own_EW hw) hCe3)), en1, en2, en3, en4.mono (by decide) (by decide)⟩
  · show SS p e below s₁ (mkF m 0 #[vr r0, vr r1] []) _
    refine XS.aloadN X0.here hx rfl (hb hby d2_0) rfl rfl ?_
    refine XS.aloadN X0.here hx rfl (hb hby d2_1) rfl rfl ?_
    refine XS.iconst X0.here hx rfl (hb hby d2_2) ?_
    refine XS.aloadN X0.here hx rfl (hb hby d2_3) rfl rfl ?_
    show SS p e below s₁ (mkF m 4 #[vr r0, vr r1] [(.ref r1), z0, (.ref r1), (.ref r0)]) _
    refine X0.arraylength hx (own_at e0 Ar1.1) (State.isArrayOf_alike hZ.alike Ar1.2.1) (g := (mkF m 4 #[vr r0, vr r1] [(.ref r1), z0, (.ref r1), (.ref r0)])) rfl rfl (hb hby d2_4) _ ?_
    rw [len_of S1 Nn1]
    refine XS.aconstNull X0.here hx rfl (hb hby d2_5) ?_
    show SS p e below s₁ (mkF m 6 #[vr r0, vr r1] [.null, z0, z0, (.ref r1), (.ref r0)]) _
    refine st2.trans ?_
    exact X2.returnOut hx Bd.returns (hb hby d2_9) hr
  · show Q_rmS1 Z r0 r1 kb h0 n0 _ T2.heap _
    exact ⟨nt_2, nk_2, rfl, N2, K2, f2_0, f2_1, f2_2, f2_3⟩
theorem ef_24 (m : MethodId) (x1 : Int32) (x2 : Int32) (x3 : Int32) : entryFrame m #[z0, (.int x1), (.int x2), (.int x3)] 4 = mkF m 0 #[vi (0 : Int32), vi x1, vi x2, vi x3] [] := by first | (simp [entryFrame, mkF, argsToLocals, Value.category]; done) | rfl
theorem pn_4 : plainName "com/example/plain_hub/plainhub/HubExceptionForbiddenPinLaw" = true := by first | (simp [plainName, overriddenIn]; done) | decide +kernel
theorem d1_0 : decode method_2_code 0 = .ok (.iload_n 0, 1) := by decide +kernel
theorem d1_1 : decode method_2_code 1 = .ok (.ifCond .ne 14, 3) := by decide +kernel
theorem d1_4 : decode method_2_code 4 = .ok (.new 7, 3) := by decide +kernel
theorem d1_7 : decode method_2_code 7 = .ok (.dup, 1) := by decide +kernel
theorem d1_8 : decode method_2_code 8 = .ok (.iconst 0, 1) := by decide +kernel
theorem d1_9 : decode method_2_code 9 = .ok (.newarray .char, 2) := by decide +kernel
theorem d1_11 : decode method_2_code 11 = .ok (.invokespecial 9, 3) := by decide +kernel
theorem pd_15 : parseMethodDescriptor "([C)V" = some ⟨[(.array .char)], none⟩ := by decide +kernel
theorem d1_14 : decode method_2_code 14 = .ok (.areturn, 1) := by decide +kernel
def Q_rmR0 (Z : State) (p1 : Int32) (p2 : Int32) (p3 : Int32) (zc : Int32) (h0 : Heap) (n0 : Nat) (v : Option Value) (h : Heap) (L : List Loc) : Prop := ∃ (nx : Addr), ∃ (nt : Addr), ∃ (nk : ClassId), (v = some (.ref nx) ∧ Fr n0 L ∧ Keep h0 h [] ∧ h0.size ≤ nx ∧ Exa Z h nx "java/lang/String" ∧ Fld Z h nx "java/lang/String" "coder" "B" z0 ∧ Fld Z h nx "java/lang/String" "value" "[B" (.ref nt) ∧ Arv Z h nt nk .byte (0 : Int32) ((([] : List Int32).map (fun c => c.toInt8.toInt32)).map Value.int) z0)
set_option maxRecDepth 65536 in
set_option maxHeartbeats 40000000 in
theorem rmR0 (l : Launch) (Z : State) (a0 : Array Value) (hw : ∀ d ∈ tables_1, d.before a0 Z = true) (ws : List Jvm.Cond) (p1 : Int32) (p2 : Int32) (p3 : Int32) (zc : Int32) (h0 : Heap) (n0 : Nat) (Z0 : n0 ≤ h0.size) (uO : Old Z n0 h0) (uS : Sta Z Z.heap "java/lang/String" "COMPACT_STRINGS" "Z" (.int zc)) (uP : ¬ zc = 0) (ub_p1 : ¬ p1 < 0 ∧ ¬ (255 : Int32) < p1) (ub_p2 : ¬ p2 < 0 ∧ ¬ (255 : Int32) < p2) (ub_p3 : ¬ p3 < 0 ∧ ¬ (255 : Int32) < p3) :
    MetFree l M24 (head1 (Jvm.Cond.code M24 method_2_code 4 (some (.object "java/lang/String")) :: ws) ({ frames := 3, cells := 6, slots := 12, locals := 43 } : Room)) (fun a U => a = #[z0, (.int p1), (.int p2), (.int p3)] ∧ Z.Warmed39 U.vm ∧ U.heap = h0 ∧ CHv Z own_EL U.vm h0) (fun _ _ _ _ _ => True) (fun _ U o U' => ∃ v L, o = .returned v ∧ Q_rmR0 Z p1 p2 p3 zc h0 n0 v U'.heap L ∧ CHr Z own_EL U.vm U.heap U'.vm U'.heap ∧ ReturnedEndW U o U' L ({ frames := 3, cells := 6, slots := 12, locals := 43 } : Room).cells ({ frames := 3, cells := 6, slots := 12, locals := 43 } : Room).slots) := by
  refine MetFree.of_bodySF (plainFor_of_name pn_4) hisR ?_
  intro p e s m args below meth c s₁ Bd hml0 hP hK
  obtain ⟨rfl, hZ, hh, hC0⟩ := hP
  have hx := Bd.exec
  have hby := Bd.bytes
  have hml : c.maxLocals = 4 := hml0
  have hown : s.vm.findClass "com/example/plain_hub/plainhub/HubExceptionForbiddenPinLaw" = some m.cls := findClass_of_methodNamed Bd.named
  have hnm := (name_of_methodNamed Bd.named Bd.method).1
  have X0 : Stand p l e ({ frames := 3, cells := 6, slots := 12, locals := 43 } : Room) (s.setVm s.vm) m #[z0, (.int p1), (.int p2), (.int p3)] below meth c s₁ [] 0 0 := Stand.of_body Bd
  have e0 : s₁.heap = h0 := by rw [← hh, Bd.state]; rfl
  have N0 := Fr.nil n0
  have pre0 : ∀ t, Steps p.tables e below (s₁.setTop (mkF m 0 #[vi (0 : Int32), vi p1, vi p2, vi p3] [])) t → Steps p.tables e below (s₁.setTop (entryFrame m #[z0, (.int p1), (.int p2), (.int p3)] 4)) t := fun t k => castTop (ef_24 m p1 p2 p3) k
  have hS0 : s.Since s.vm 0 := (State.WarmedH.refl s).since _
  have hk0 : 0 ≤ h0.size := Nat.zero_le _
  have R0 := CHr.refl hC0
  obtain ⟨T1, h1, X1, e1, E1, A1, D1, Un1, st1⟩ := newO X0 hx hZ hown (wd hw 4 rfl) (wd hw 5 rfl) (wd hw 6 rfl) e0 (g := (mkF m 4 #[vi (0 : Int32), vi p1, vi p2, vi p3] [])) rfl (hb hby d1_4) (by decide) (by decide)
  obtain ⟨b1, g1⟩ : ∃ z, z = h0.size := ⟨_, rfl⟩
  rw [← g1] at A1 D1 Un1 st1
  have Re2 := R0.trans (CHr.ext E1 hC0)
  have hCe2 := Re2.1
  have sf1 := Safe.ext E1 hC0 (Safe.new (Nat.le_of_eq g1.symm))
  have F1_value : Fld Z h1 b1 "java/lang/String" "value" "[B" .null := D1 (Or.inr (wd hw 20 rfl)) (ty := (.array .byte)) (by decide)
  have F1_coder : Fld Z h1 b1 "java/lang/String" "coder" "B" z0 := D1 (Or.inr (wd hw 21 rfl)) (ty := .byte) (by decide)
  have g_b1 : n0 ≤ b1 := Nat.le_trans Z0 (Nat.le_of_eq g1.symm)
  have sz_b1 : h0.size ≤ b1 := Nat.le_trans (Keep.refl h0 []).1 (Nat.le_of_eq g1.symm)
  have K1 : Keep h0 h1 [] := (Keep.refl h0 []).ext E1
  have Z1 : n0 ≤ h1.size := Nat.le_trans Z0 E1.1
  have hk1 : _ ≤ h1.size := Nat.le_trans hk0 E1.1
  obtain ⟨T3, h3, k3, X3, e3, E3, A3, AX3, st3⟩ := newPE X1 hx hZ (wd hw 7 rfl) e1 (g := (mkF m 9 #[vi (0 : Int32), vi p1, vi p2, vi p3] [z0, (.ref b1), (.ref b1)])) rfl (hb hby d1_9) rfl (by decide) (cap := 0) (by decide) (by decide) (by decide) (by decide) (ad := "[C") (by decide)
  obtain ⟨b3, g3⟩ : ∃ z, z = h1.size := ⟨_, rfl⟩
  rw [← g3] at A3 AX3 st3
  have ne_b1_b3 : b1 ≠ b3 := Nat.ne_of_lt (Nat.lt_of_lt_of_le A1.lt (Nat.le_of_eq g3.symm))
  have Re4 := Re2.trans (CHr.ext E3 hCe2)
  have hCe4 := Re4.1
  have V3 : Arv Z h3 b3 k3 .char (0 : Int32) [] z0 := (Arv.new A3 (by decide))
  have g_b3 : n0 ≤ b3 := Nat.le_trans Z1 (Nat.le_of_eq g3.symm)
  have sz_b3 : h0.size ≤ b3 := Nat.le_trans K1.1 (Nat.le_of_eq g3.symm)
  have K3 : Keep h0 h3 [] := K1.ext E3
  have Z3 : n0 ≤ h3.size := Nat.le_trans Z1 E3.1
  have hk3 : _ ≤ h3.size := Nat.le_trans hk1 E3.1
  have c6 := (A1.ext E3)
  have c7 := (F1_value.ext E3)
  have c8 := (F1_coder.ext E3)
  obtain ⟨_, _, ⟨T5, Lw5, kw5, nw5⟩, -, X5', hS5', hg5, ⟨Lc5, hQ5, lq5, yq5, zq5, CH5⟩, st5⟩ := X3.specialBackS hx (y := M23) rfl hown (mvT hZ (wd hw 8 rfl)) (mvT hZ (wd hw 9 rfl)) (mvT hZ (wd hw 10 rfl)) (by decide) (backOfSH (W := 1) (rmS1 l Z a0 hw [] b1 b3 k3 h3 n0 Z3 c6 c7 c8 g_b1 V3) hZ (wd hw 10 rfl) (wd hw 6 rfl) (by decide) (by decide) (own_EW hw) hCe4) (g := (mkF m 11 #[vi (0 : Int32), vi p1, vi p2, vi p3] [(.ref b3), (.ref b1), (.ref b1)])) rfl (by rw [hml]; rfl) (Steps.refl _) (a := b1) (argsL := [(.ref b3)]) (rest := [(.ref b1)]) (lenOf pd_15 rfl) rfl (by show 2 * 0 + _ ≤ _; exact Nat.le_of_eq rfl) (hb hby d1_11) (fun _ _ => ⟨rfl, e3, (by decide : 2 + 4 ≤ _), (by decide : 4 + 8 ≤ _)⟩)
  dsimp only [Pt.U, Pt.locs, Pt.cells, Pt.slots] at X5' hS5' hg5 lq5 yq5 zq5 st5 hQ5 CH5
  have X5' := own_reb X5' lq5 yq5 zq5
  obtain ⟨X5, hS5, hZ5, hown5⟩ := rebS hS0 (own_hk e3 hk3) X5' hS5' hg5 hZ hown
  obtain ⟨nt_5, nk_5, rfl, Nq5, Kq5, f5_0, f5_1, f5_2, f5_3⟩ := hQ5
  have N5 := Fr.app N0 Nq5
  have Re9 := Re4.trans CH5
  have hCe9 := Re9.1
  have K5 : Keep h0 T5.heap [] := K3.trans Kq5 (allS (Or.inr sz_b1) all0)
  have Z5 : n0 ≤ T5.heap.size := Nat.le_trans Z3 Kq5.1
  have hk5 : T5.heap.size ≤ T5.heap.size := Nat.le_refl _
  obtain ⟨fs, hr, hrun, hended, en1, en2, en3, en4⟩ := X5.leaveW hS5 (own_hk rfl hk5) (v := some (.ref b1)) (fun h => by rw [Bd.returns] at h; cases h)
  refine ⟨_, _, pre0 _ ?_, hrun, hended, _, _, rfl, ?_, own_chr (T := T5) hh rfl (Re9.trans (CHv.at X5 hZ5 (own_EW hw) hCe9)), en1, en2, en3, en4.mono (by decide) (by decide)⟩
  · show SS p e below s₁ (mkF m 0 #[vi (0 : Int32), vi p1, vi p2, vi p3] []) _
    refine XS.iloadN X0.here hx rfl (hb hby d1_0) rfl ?_
    show SS p e below s₁ (mkF m 1 #[vi (0 : Int32), vi p1, vi p2, vi p3] [z0]) _
    refine XS.ifNo X0.here hx rfl (hb hby d1_1) rfl ((if0 _ _).trans (teq (by decide : (0 : Int32) = (0 : Int32))).2) ?_
    refine st1 _ ?_
    refine XS.dup X1.here hx rfl (hb hby d1_7) rfl rfl ?_
    refine XS.iconst X1.here hx rfl (hb hby d1_8) ?_
    refine st3 _ ?_
    show SS p e below T3 (mkF m 11 #[vi (0 : Int32), vi p1, vi p2, vi p3] [(.ref b3), (.ref b1), (.ref b1)]) _
    refine st5.trans ?_
    exact retOut X5 hx Bd.returns rfl (Or.inr (Or.inr (Or.inr (Or.inr ⟨rfl, rfl, rfl⟩)))) (hb hby d1_14) hr
  · show Q_rmR0 Z p1 p2 p3 zc h0 n0 _ T5.heap _
    exact ⟨b1, nt_5, nk_5, rfl, N5, K5, sz_b1, f5_0, f5_1, f5_2, f5_3⟩
theorem ef_25 (m : MethodId) (x1 : Int32) (x2 : Int32) (x3 : Int32) : entryFrame m #[z0, (.int x1), (.int x2), (.int x3)] 4 = mkF m 0 #[vi (0 : Int32), vi x1, vi x2, vi x3] [] := by first | (simp [entryFrame, mkF, argsToLocals, Value.category]; done) | rfl
theorem d5_0 : decode method_3_code 0 = .ok (.iload_n 0, 1) := by decide +kernel
theorem d5_1 : decode method_3_code 1 = .ok (.ifCond .ne 165, 3) := by decide +kernel
theorem d5_4 : decode method_3_code 4 = .ok (.new 7, 3) := by decide +kernel
theorem d5_7 : decode method_3_code 7 = .ok (.dup, 1) := by decide +kernel
theorem d5_8 : decode method_3_code 8 = .ok (.bipush 26, 2) := by decide +kernel
theorem d5_10 : decode method_3_code 10 = .ok (.newarray .char, 2) := by decide +kernel
theorem d5_12 : decode method_3_code 12 = .ok (.dup, 1) := by decide +kernel
theorem d5_13 : decode method_3_code 13 = .ok (.iconst 0, 1) := by decide +kernel
theorem d5_14 : decode method_3_code 14 = .ok (.bipush 73, 2) := by decide +kernel
theorem d5_16 : decode method_3_code 16 = .ok (.castore, 1) := by decide +kernel
theorem d5_17 : decode method_3_code 17 = .ok (.dup, 1) := by decide +kernel
theorem d5_18 : decode method_3_code 18 = .ok (.iconst 1, 1) := by decide +kernel
theorem d5_19 : decode method_3_code 19 = .ok (.bipush 110, 2) := by decide +kernel
theorem d5_21 : decode method_3_code 21 = .ok (.castore, 1) := by decide +kernel
theorem d5_22 : decode method_3_code 22 = .ok (.dup, 1) := by decide +kernel
theorem d5_23 : decode method_3_code 23 = .ok (.iconst 2, 1) := by decide +kernel
theorem d5_24 : decode method_3_code 24 = .ok (.bipush 115, 2) := by decide +kernel
theorem d5_26 : decode method_3_code 26 = .ok (.castore, 1) := by decide +kernel
theorem d5_27 : decode method_3_code 27 = .ok (.dup, 1) := by decide +kernel
theorem d5_28 : decode method_3_code 28 = .ok (.iconst 3, 1) := by decide +kernel
theorem d5_29 : decode method_3_code 29 = .ok (.bipush 117, 2) := by decide +kernel
theorem d5_31 : decode method_3_code 31 = .ok (.castore, 1) := by decide +kernel
theorem d5_32 : decode method_3_code 32 = .ok (.dup, 1) := by decide +kernel
theorem d5_33 : decode method_3_code 33 = .ok (.iconst 4, 1) := by decide +kernel
theorem d5_34 : decode method_3_code 34 = .ok (.bipush 102, 2) := by decide +kernel
theorem d5_36 : decode method_3_code 36 = .ok (.castore, 1) := by decide +kernel
theorem d5_37 : decode method_3_code 37 = .ok (.dup, 1) := by decide +kernel
theorem d5_38 : decode method_3_code 38 = .ok (.iconst 5, 1) := by decide +kernel
theorem d5_39 : decode method_3_code 39 = .ok (.bipush 102, 2) := by decide +kernel
theorem d5_41 : decode method_3_code 41 = .ok (.castore, 1) := by decide +kernel
theorem d5_42 : decode method_3_code 42 = .ok (.dup, 1) := by decide +kernel
theorem d5_43 : decode method_3_code 43 = .ok (.bipush 6, 2) := by decide +kernel
theorem d5_45 : decode method_3_code 45 = .ok (.bipush 105, 2) := by decide +kernel
theorem d5_47 : decode method_3_code 47 = .ok (.castore, 1) := by decide +kernel
theorem d5_48 : decode method_3_code 48 = .ok (.dup, 1) := by decide +kernel
theorem d5_49 : decode method_3_code 49 = .ok (.bipush 7, 2) := by decide +kernel
theorem d5_51 : decode method_3_code 51 = .ok (.bipush 99, 2) := by decide +kernel
theorem d5_53 : decode method_3_code 53 = .ok (.castore, 1) := by decide +kernel
theorem d5_54 : decode method_3_code 54 = .ok (.dup, 1) := by decide +kernel
theorem d5_55 : decode method_3_code 55 = .ok (.bipush 8, 2) := by decide +kernel
theorem d5_57 : decode method_3_code 57 = .ok (.bipush 105, 2) := by decide +kernel
theorem d5_59 : decode method_3_code 59 = .ok (.castore, 1) := by decide +kernel
theorem d5_60 : decode method_3_code 60 = .ok (.dup, 1) := by decide +kernel
theorem d5_61 : decode method_3_code 61 = .ok (.bipush 9, 2) := by decide +kernel
theorem d5_63 : decode method_3_code 63 = .ok (.bipush 101, 2) := by decide +kernel
theorem d5_65 : decode method_3_code 65 = .ok (.castore, 1) := by decide +kernel
theorem d5_66 : decode method_3_code 66 = .ok (.dup, 1) := by decide +kernel
theorem d5_67 : decode method_3_code 67 = .ok (.bipush 10, 2) := by decide +kernel
theorem d5_69 : decode method_3_code 69 = .ok (.bipush 110, 2) := by decide +kernel
theorem d5_71 : decode method_3_code 71 = .ok (.castore, 1) := by decide +kernel
theorem d5_72 : decode method_3_code 72 = .ok (.dup, 1) := by decide +kernel
theorem d5_73 : decode method_3_code 73 = .ok (.bipush 11, 2) := by decide +kernel
theorem d5_75 : decode method_3_code 75 = .ok (.bipush 116, 2) := by decide +kernel
theorem d5_77 : decode method_3_code 77 = .ok (.castore, 1) := by decide +kernel
theorem d5_78 : decode method_3_code 78 = .ok (.dup, 1) := by decide +kernel
theorem d5_79 : decode method_3_code 79 = .ok (.bipush 12, 2) := by decide +kernel
theorem d5_81 : decode method_3_code 81 = .ok (.bipush 32, 2) := by decide +kernel
theorem d5_83 : decode method_3_code 83 = .ok (.castore, 1) := by decide +kernel
theorem d5_84 : decode method_3_code 84 = .ok (.dup, 1) := by decide +kernel
theorem d5_85 : decode method_3_code 85 = .ok (.bipush 13, 2) := by decide +kernel
theorem d5_87 : decode method_3_code 87 = .ok (.bipush 112, 2) := by decide +kernel
theorem d5_89 : decode method_3_code 89 = .ok (.castore, 1) := by decide +kernel
theorem d5_90 : decode method_3_code 90 = .ok (.dup, 1) := by decide +kernel
theorem d5_91 : decode method_3_code 91 = .ok (.bipush 14, 2) := by decide +kernel
theorem d5_93 : decode method_3_code 93 = .ok (.bipush 101, 2) := by decide +kernel
theorem d5_95 : decode method_3_code 95 = .ok (.castore, 1) := by decide +kernel
theorem d5_96 : decode method_3_code 96 = .ok (.dup, 1) := by decide +kernel
theorem d5_97 : decode method_3_code 97 = .ok (.bipush 15, 2) := by decide +kernel
theorem d5_99 : decode method_3_code 99 = .ok (.bipush 114, 2) := by decide +kernel
theorem d5_101 : decode method_3_code 101 = .ok (.castore, 1) := by decide +kernel
theorem d5_102 : decode method_3_code 102 = .ok (.dup, 1) := by decide +kernel
theorem d5_103 : decode method_3_code 103 = .ok (.bipush 16, 2) := by decide +kernel
theorem d5_105 : decode method_3_code 105 = .ok (.bipush 109, 2) := by decide +kernel
theorem d5_107 : decode method_3_code 107 = .ok (.castore, 1) := by decide +kernel
theorem d5_108 : decode method_3_code 108 = .ok (.dup, 1) := by decide +kernel
theorem d5_109 : decode method_3_code 109 = .ok (.bipush 17, 2) := by decide +kernel
theorem d5_111 : decode method_3_code 111 = .ok (.bipush 105, 2) := by decide +kernel
theorem d5_113 : decode method_3_code 113 = .ok (.castore, 1) := by decide +kernel
theorem d5_114 : decode method_3_code 114 = .ok (.dup, 1) := by decide +kernel
theorem d5_115 : decode method_3_code 115 = .ok (.bipush 18, 2) := by decide +kernel
theorem d5_117 : decode method_3_code 117 = .ok (.bipush 115, 2) := by decide +kernel
theorem d5_119 : decode method_3_code 119 = .ok (.castore, 1) := by decide +kernel
theorem d5_120 : decode method_3_code 120 = .ok (.dup, 1) := by decide +kernel
theorem d5_121 : decode method_3_code 121 = .ok (.bipush 19, 2) := by decide +kernel
theorem d5_123 : decode method_3_code 123 = .ok (.bipush 115, 2) := by decide +kernel
theorem d5_125 : decode method_3_code 125 = .ok (.castore, 1) := by decide +kernel
theorem d5_126 : decode method_3_code 126 = .ok (.dup, 1) := by decide +kernel
theorem d5_127 : decode method_3_code 127 = .ok (.bipush 20, 2) := by decide +kernel
theorem d5_129 : decode method_3_code 129 = .ok (.bipush 105, 2) := by decide +kernel
theorem d5_131 : decode method_3_code 131 = .ok (.castore, 1) := by decide +kernel
theorem d5_132 : decode method_3_code 132 = .ok (.dup, 1) := by decide +kernel
theorem d5_133 : decode method_3_code 133 = .ok (.bipush 21, 2) := by decide +kernel
theorem d5_135 : decode method_3_code 135 = .ok (.bipush 111, 2) := by decide +kernel
theorem d5_137 : decode method_3_code 137 = .ok (.castore, 1) := by decide +kernel
theorem d5_138 : decode method_3_code 138 = .ok (.dup, 1) := by decide +kernel
theorem d5_139 : decode method_3_code 139 = .ok (.bipush 22, 2) := by decide +kernel
theorem d5_141 : decode method_3_code 141 = .ok (.bipush 110, 2) := by decide +kernel
theorem d5_143 : decode method_3_code 143 = .ok (.castore, 1) := by decide +kernel
theorem d5_144 : decode method_3_code 144 = .ok (.dup, 1) := by decide +kernel
theorem d5_145 : decode method_3_code 145 = .ok (.bipush 23, 2) := by decide +kernel
theorem d5_147 : decode method_3_code 147 = .ok (.bipush 115, 2) := by decide +kernel
theorem d5_149 : decode method_3_code 149 = .ok (.castore, 1) := by decide +kernel
theorem d5_150 : decode method_3_code 150 = .ok (.dup, 1) := by decide +kernel
theorem d5_151 : decode method_3_code 151 = .ok (.bipush 24, 2) := by decide +kernel
theorem d5_153 : decode method_3_code 153 = .ok (.bipush 58, 2) := by decide +kernel
theorem d5_155 : decode method_3_code 155 = .ok (.castore, 1) := by decide +kernel
theorem d5_156 : decode method_3_code 156 = .ok (.dup, 1) := by decide +kernel
theorem d5_157 : decode method_3_code 157 = .ok (.bipush 25, 2) := by decide +kernel
theorem d5_159 : decode method_3_code 159 = .ok (.bipush 32, 2) := by decide +kernel
theorem d5_161 : decode method_3_code 161 = .ok (.castore, 1) := by decide +kernel
theorem d5_162 : decode method_3_code 162 = .ok (.invokespecial 9, 3) := by decide +kernel
theorem own_w_words : ∀ d ∈ StrChars.Road.words, d ∈ tables_1 := by decide +kernel
theorem d5_165 : decode method_3_code 165 = .ok (.areturn, 1) := by decide +kernel
def Q_rmE0 (Z : State) (p1 : Int32) (p2 : Int32) (p3 : Int32) (zc : Int32) (h0 : Heap) (n0 : Nat) (v : Option Value) (h : Heap) (L : List Loc) : Prop := ∃ (nx : Addr), ∃ (nt : Addr), ∃ (nk : ClassId), (v = some (.ref nx) ∧ Fr n0 L ∧ Keep h0 h [] ∧ h0.size ≤ nx ∧ Exa Z h nx "java/lang/String" ∧ Fld Z h nx "java/lang/String" "coder" "B" z0 ∧ Fld Z h nx "java/lang/String" "value" "[B" (.ref nt) ∧ Arv Z h nt nk .byte (26 : Int32) ((([73, 110, 115, 117, 102, 102, 105, 99, 105, 101, 110, 116, 32, 112, 101, 114, 109, 105, 115, 115, 105, 111, 110, 115, 58, 32] : List Int32).map (fun c => c.toInt8.toInt32)).map Value.int) z0)
set_option maxRecDepth 65536 in
set_option maxHeartbeats 40000000 in
theorem rmE0 (l : Launch) (Z : State) (a0 : Array Value) (hw : ∀ d ∈ tables_1, d.before a0 Z = true) (ws : List Jvm.Cond) (p1 : Int32) (p2 : Int32) (p3 : Int32) (zc : Int32) (h0 : Heap) (n0 : Nat) (Z0 : n0 ≤ h0.size) (uO : Old Z n0 h0) (uS : Sta Z Z.heap "java/lang/String" "COMPACT_STRINGS" "Z" (.int zc)) (uP : ¬ zc = 0) (ub_p1 : ¬ p1 < 0 ∧ ¬ (255 : Int32) < p1) (ub_p2 : ¬ p2 < 0 ∧ ¬ (255 : Int32) < p2) (ub_p3 : ¬ p3 < 0 ∧ ¬ (255 : Int32) < p3) :
    MetFree l M25 (head1 (Jvm.Cond.code M25 method_3_code 4 (some (.object "java/lang/String")) :: ws) ({ frames := 4, cells := 3, slots := 56, locals := 66 } : Room)) (fun a U => a = #[z0, (.int p1), (.int p2), (.int p3)] ∧ Z.Warmed39 U.vm ∧ U.heap = h0 ∧ CHv Z own_EL U.vm h0) (fun _ _ _ _ _ => True) (fun _ U o U' => ∃ v L, o = .returned v ∧ Q_rmE0 Z p1 p2 p3 zc h0 n0 v U'.heap L ∧ CHr Z own_EL U.vm U.heap U'.vm U'.heap ∧ ReturnedEndW U o U' L ({ frames := 4, cells := 3, slots := 56, locals := 66 } : Room).cells ({ frames := 4, cells := 3, slots := 56, locals := 66 } : Room).slots) := by
  refine MetFree.of_bodySF (plainFor_of_name pn_4) hisR ?_
  intro p e s m args below meth c s₁ Bd hml0 hP hK
  obtain ⟨rfl, hZ, hh, hC0⟩ := hP
  have hx := Bd.exec
  have hby := Bd.bytes
  have hml : c.maxLocals = 4 := hml0
  have hown : s.vm.findClass "com/example/plain_hub/plainhub/HubExceptionForbiddenPinLaw" = some m.cls := findClass_of_methodNamed Bd.named
  have hnm := (name_of_methodNamed Bd.named Bd.method).1
  have X0 : Stand p l e ({ frames := 4, cells := 3, slots := 56, locals := 66 } : Room) (s.setVm s.vm) m #[z0, (.int p1), (.int p2), (.int p3)] below meth c s₁ [] 0 0 := Stand.of_body Bd
  have e0 : s₁.heap = h0 := by rw [← hh, Bd.state]; rfl
  have N0 := Fr.nil n0
  have pre0 : ∀ t, Steps p.tables e below (s₁.setTop (mkF m 0 #[vi (0 : Int32), vi p1, vi p2, vi p3] [])) t → Steps p.tables e below (s₁.setTop (entryFrame m #[z0, (.int p1), (.int p2), (.int p3)] 4)) t := fun t k => castTop (ef_25 m p1 p2 p3) k
  have hS0 : s.Since s.vm 0 := (State.WarmedH.refl s).since _
  have hk0 : 0 ≤ h0.size := Nat.zero_le _
  have R0 := CHr.refl hC0
  have own_hp : ∀ c ∈ ([73, 110, 115, 117, 102, 102, 105, 99, 105, 101, 110, 116, 32, 112, 101, 114, 109, 105, 115, 115, 105, 111, 110, 115, 58, 32] : List Int32), ¬ c < 0 ∧ ¬ (255 : Int32) < c := by
    intro c hc
    simp only [List.mem_cons, List.not_mem_nil, or_false] at hc
    rcases hc with rfl | rfl | rfl | rfl | rfl | rfl | rfl | rfl | rfl | rfl | rfl | rfl | rfl | rfl | rfl | rfl | rfl | rfl | rfl | rfl | rfl | rfl | rfl | rfl | rfl | rfl
    · exact ⟨by decide, by decide⟩
    · exact ⟨by decide, by decide⟩
    · exact ⟨by decide, by decide⟩
    · exact ⟨by decide, by decide⟩
    · exact ⟨by decide, by decide⟩
    · exact ⟨by decide, by decide⟩
    · exact ⟨by decide, by decide⟩
    · exact ⟨by decide, by decide⟩
    · exact ⟨by decide, by decide⟩
    · exact ⟨by decide, by decide⟩
    · exact ⟨by decide, by decide⟩
    · exact ⟨by decide, by decide⟩
    · exact ⟨by decide, by decide⟩
    · exact ⟨by decide, by decide⟩
    · exact ⟨by decide, by decide⟩
    · exact ⟨by decide, by decide⟩
    · exact ⟨by decide, by decide⟩
    · exact ⟨by decide, by decide⟩
    · exact ⟨by decide, by decide⟩
    · exact ⟨by decide, by decide⟩
    · exact ⟨by decide, by decide⟩
    · exact ⟨by decide, by decide⟩
    · exact ⟨by decide, by decide⟩
    · exact ⟨by decide, by decide⟩
    · exact ⟨by decide, by decide⟩
    · exact ⟨by decide, by decide⟩
  obtain ⟨T1, h1, X1, e1, E1, A1, D1, Un1, st1⟩ := newO X0 hx hZ hown (wd hw 4 rfl) (wd hw 5 rfl) (wd hw 6 rfl) e0 (g := (mkF m 4 #[vi (0 : Int32), vi p1, vi p2, vi p3] [])) rfl (hb hby d5_4) (by decide) (by decide)
  obtain ⟨b1, g1⟩ : ∃ z, z = h0.size := ⟨_, rfl⟩
  rw [← g1] at A1 D1 Un1 st1
  have Re2 := R0.trans (CHr.ext E1 hC0)
  have hCe2 := Re2.1
  have sf1 := Safe.ext E1 hC0 (Safe.new (Nat.le_of_eq g1.symm))
  have F1_value : Fld Z h1 b1 "java/lang/String" "value" "[B" .null := D1 (Or.inr (wd hw 20 rfl)) (ty := (.array .byte)) (by decide)
  have F1_coder : Fld Z h1 b1 "java/lang/String" "coder" "B" z0 := D1 (Or.inr (wd hw 21 rfl)) (ty := .byte) (by decide)
  have g_b1 : n0 ≤ b1 := Nat.le_trans Z0 (Nat.le_of_eq g1.symm)
  have sz_b1 : h0.size ≤ b1 := Nat.le_trans (Keep.refl h0 []).1 (Nat.le_of_eq g1.symm)
  have K1 : Keep h0 h1 [] := (Keep.refl h0 []).ext E1
  have Z1 : n0 ≤ h1.size := Nat.le_trans Z0 E1.1
  have hk1 : _ ≤ h1.size := Nat.le_trans hk0 E1.1
  obtain ⟨T3, h3, k3, X3, e3, E3, A3, AX3, st3⟩ := newPE X1 hx hZ (wd hw 7 rfl) e1 (g := (mkF m 10 #[vi (0 : Int32), vi p1, vi p2, vi p3] [(vI 26), (.ref b1), (.ref b1)])) rfl (hb hby d5_10) rfl (by decide) (cap := 26) (by decide) (by decide) (by decide) (by decide) (ad := "[C") (by decide)
  obtain ⟨b3, g3⟩ : ∃ z, z = h1.size := ⟨_, rfl⟩
  rw [← g3] at A3 AX3 st3
  have ne_b1_b3 : b1 ≠ b3 := Nat.ne_of_lt (Nat.lt_of_lt_of_le A1.lt (Nat.le_of_eq g3.symm))
  have Re4 := Re2.trans (CHr.ext E3 hCe2)
  have hCe4 := Re4.1
  have V3 : Arv Z h3 b3 k3 .char (26 : Int32) [z0, z0, z0, z0, z0, z0, z0, z0, z0, z0, z0, z0, z0, z0, z0, z0, z0, z0, z0, z0, z0, z0, z0, z0, z0, z0] z0 := (Arv.new A3 (by decide)).pad (pad_rep [] z0 26)
  have g_b3 : n0 ≤ b3 := Nat.le_trans Z1 (Nat.le_of_eq g3.symm)
  have sz_b3 : h0.size ≤ b3 := Nat.le_trans K1.1 (Nat.le_of_eq g3.symm)
  have K3 : Keep h0 h3 [] := K1.ext E3
  have Z3 : n0 ≤ h3.size := Nat.le_trans Z1 E3.1
  have hk3 : _ ≤ h3.size := Nat.le_trans hk1 E3.1
  obtain ⟨cl5, Ar5, q5, S5, Nn5, H5, G5⟩ := (id V3)
  have hin5 : ¬ ((0 : Int32) < 0 ∨ cl5.slots.size ≤ ((0 : Int32)).toNatClampNeg) := inb_of S5 ⟨by decide, by decide⟩
  obtain ⟨T5, h5, X5, e5, W5, st5⟩ := stC X3 hx hZ e3 Ar5 (j := (0 : Int32)) hin5 (g := (mkF m 16 #[vi (0 : Int32), vi p1, vi p2, vi p3] [(vI 73), z0, (.ref b3), (.ref b3), (.ref b1), (.ref b1)])) rfl rfl (hb hby d5_16)
  have Re6 := Re4.trans (CHr.wr W5 (Safe.exa hZ.alike AX3 (by decide) (by decide)) hCe4)
  have hCe6 := Re6.1
  have V5 := Arv.set Ar5 q5 S5 Nn5 H5 G5 (fits_nar_char _) W5 0 rfl (Nat.le_of_ble_eq_true rfl)
  have N5 := Fr.snoc X5 N0 g_b3
  have K5 : Keep h0 h5 [] := K3.wr W5 (Or.inr sz_b3)
  have Z5 : n0 ≤ h5.size := by rw [W5.size]; exact Z3
  have hk5 := own_szW W5 hk3
  obtain ⟨cl7, Ar7, q7, S7, Nn7, H7, G7⟩ := (id V5)
  have hin7 : ¬ ((1 : Int32) < 0 ∨ cl7.slots.size ≤ ((1 : Int32)).toNatClampNeg) := inb_of S7 ⟨by decide, by decide⟩
  obtain ⟨T7, h7, X7, e7, W7, st7⟩ := stC X5 hx hZ e5 Ar7 (j := (1 : Int32)) hin7 (g := (mkF m 21 #[vi (0 : Int32), vi p1, vi p2, vi p3] [(vI 110), (vI 1), (.ref b3), (.ref b3), (.ref b1), (.ref b1)])) rfl rfl (hb hby d5_21)
  have c8 := (AX3.wr W5)
  have Re9 := Re6.trans (CHr.wr W7 (Safe.exa hZ.alike c8 (by decide) (by decide)) hCe6)
  have hCe9 := Re9.1
  have V7 := Arv.set Ar7 q7 S7 Nn7 H7 G7 (fits_nar_char _) W7 1 rfl (Nat.le_of_ble_eq_true rfl)
  have N7 := Fr.snoc X7 N5 g_b3
  have K7 : Keep h0 h7 [] := K5.wr W7 (Or.inr sz_b3)
  have Z7 : n0 ≤ h7.size := by rw [W7.size]; exact Z5
  have hk7 := own_szW W7 hk5
  obtain ⟨cl10, Ar10, q10, S10, Nn10, H10, G10⟩ := (id V7)
  have hin10 : ¬ ((2 : Int32) < 0 ∨ cl10.slots.size ≤ ((2 : Int32)).toNatClampNeg) := inb_of S10 ⟨by decide, by decide⟩
  obtain ⟨T10, h10, X10, e10, W10, st10⟩ := stC X7 hx hZ e7 Ar10 (j := (2 : Int32)) hin10 (g := (mkF m 26 #[vi (0 : Int32), vi p1, vi p2, vi p3] [(vI 115), (vI 2), (.ref b3), (.ref b3), (.ref b1), (.ref b1)])) rfl rfl (hb hby d5_26)
  have c11 := (c8.wr W7)
  have Re12 := Re9.trans (CHr.wr W10 (Safe.exa hZ.alike c11 (by decide) (by decide)) hCe9)
  have hCe12 := Re12.1
  have V10 := Arv.set Ar10 q10 S10 Nn10 H10 G10 (fits_nar_char _) W10 2 rfl (Nat.le_of_ble_eq_true rfl)
  have N10 := Fr.snoc X10 N7 g_b3
  have K10 : Keep h0 h10 [] := K7.wr W10 (Or.inr sz_b3)
  have Z10 : n0 ≤ h10.size := by rw [W10.size]; exact Z7
  have hk10 := own_szW W10 hk7
  obtain ⟨cl13, Ar13, q13, S13, Nn13, H13, G13⟩ := (id V10)
  have hin13 : ¬ ((3 : Int32) < 0 ∨ cl13.slots.size ≤ ((3 : Int32)).toNatClampNeg) := inb_of S13 ⟨by decide, by decide⟩
  obtain ⟨T13, h13, X13, e13, W13, st13⟩ := stC X10 hx hZ e10 Ar13 (j := (3 : Int32)) hin13 (g := (mkF m 31 #[vi (0 : Int32), vi p1, vi p2, vi p3] [(vI 117), (vI 3), (.ref b3), (.ref b3), (.ref b1), (.ref b1)])) rfl rfl (hb hby d5_31)
  have c14 := (c11.wr W10)
  have Re15 := Re12.trans (CHr.wr W13 (Safe.exa hZ.alike c14 (by decide) (by decide)) hCe12)
  have hCe15 := Re15.1
  have V13 := Arv.set Ar13 q13 S13 Nn13 H13 G13 (fits_nar_char _) W13 3 rfl (Nat.le_of_ble_eq_true rfl)
  have N13 := Fr.snoc X13 N10 g_b3
  have K13 : Keep h0 h13 [] := K10.wr W13 (Or.inr sz_b3)
  have Z13 : n0 ≤ h13.size := by rw [W13.size]; exact Z10
  have hk13 := own_szW W13 hk10
  obtain ⟨cl16, Ar16, q16, S16, Nn16, H16, G16⟩ := (id V13)
  have hin16 : ¬ ((4 : Int32) < 0 ∨ cl16.slots.size ≤ ((4 : Int32)).toNatClampNeg) := inb_of S16 ⟨by decide, by decide⟩
  obtain ⟨T16, h16, X16, e16, W16, st16⟩ := stC X13 hx hZ e13 Ar16 (j := (4 : Int32)) hin16 (g := (mkF m 36 #[vi (0 : Int32), vi p1, vi p2, vi p3] [(vI 102), (vI 4), (.ref b3), (.ref b3), (.ref b1), (.ref b1)])) rfl rfl (hb hby d5_36)
  have c17 := (c14.wr W13)
  have Re18 := Re15.trans (CHr.wr W16 (Safe.exa hZ.alike c17 (by decide) (by decide)) hCe15)
  have hCe18 := Re18.1
  have V16 := Arv.set Ar16 q16 S16 Nn16 H16 G16 (fits_nar_char _) W16 4 rfl (Nat.le_of_ble_eq_true rfl)
  have N16 := Fr.snoc X16 N13 g_b3
  have K16 : Keep h0 h16 [] := K13.wr W16 (Or.inr sz_b3)
  have Z16 : n0 ≤ h16.size := by rw [W16.size]; exact Z13
  have hk16 := own_szW W16 hk13
  obtain ⟨cl19, Ar19, q19, S19, Nn19, H19, G19⟩ := (id V16)
  have hin19 : ¬ ((5 : Int32) < 0 ∨ cl19.slots.size ≤ ((5 : Int32)).toNatClampNeg) := inb_of S19 ⟨by decide, by decide⟩
  obtain ⟨T19, h19, X19, e19, W19, st19⟩ := stC X16 hx hZ e16 Ar19 (j := (5 : Int32)) hin19 (g := (mkF m 41 #[vi (0 : Int32), vi p1, vi p2, vi p3] [(vI 102), (vI 5), (.ref b3), (.ref b3), (.ref b1), (.ref b1)])) rfl rfl (hb hby d5_41)
  have c20 := (c17.wr W16)
  have Re21 := Re18.trans (CHr.wr W19 (Safe.exa hZ.alike c20 (by decide) (by decide)) hCe18)
  have hCe21 := Re21.1
  have V19 := Arv.set Ar19 q19 S19 Nn19 H19 G19 (fits_nar_char _) W19 5 rfl (Nat.le_of_ble_eq_true rfl)
  have N19 := Fr.snoc X19 N16 g_b3
  have K19 : Keep h0 h19 [] := K16.wr W19 (Or.inr sz_b3)
  have Z19 : n0 ≤ h19.size := by rw [W19.size]; exact Z16
  have hk19 := own_szW W19 hk16
  obtain ⟨cl22, Ar22, q22, S22, Nn22, H22, G22⟩ := (id V19)
  have hin22 : ¬ ((6 : Int32) < 0 ∨ cl22.slots.size ≤ ((6 : Int32)).toNatClampNeg) := inb_of S22 ⟨by decide, by decide⟩
  obtain ⟨T22, h22, X22, e22, W22, st22⟩ := stC X19 hx hZ e19 Ar22 (j := (6 : Int32)) hin22 (g := (mkF m 47 #[vi (0 : Int32), vi p1, vi p2, vi p3] [(vI 105), (vI 6), (.ref b3), (.ref b3), (.ref b1), (.ref b1)])) rfl rfl (hb hby d5_47)
  have c23 := (c20.wr W19)
  have Re24 := Re21.trans (CHr.wr W22 (Safe.exa hZ.alike c23 (by decide) (by decide)) hCe21)
  have hCe24 := Re24.1
  have V22 := Arv.set Ar22 q22 S22 Nn22 H22 G22 (fits_nar_char _) W22 6 rfl (Nat.le_of_ble_eq_true rfl)
  have N22 := Fr.snoc X22 N19 g_b3
  have K22 : Keep h0 h22 [] := K19.wr W22 (Or.inr sz_b3)
  have Z22 : n0 ≤ h22.size := by rw [W22.size]; exact Z19
  have hk22 := own_szW W22 hk19
  obtain ⟨cl25, Ar25, q25, S25, Nn25, H25, G25⟩ := (id V22)
  have hin25 : ¬ ((7 : Int32) < 0 ∨ cl25.slots.size ≤ ((7 : Int32)).toNatClampNeg) := inb_of S25 ⟨by decide, by decide⟩
  obtain ⟨T25, h25, X25, e25, W25, st25⟩ := stC X22 hx hZ e22 Ar25 (j := (7 : Int32)) hin25 (g := (mkF m 53 #[vi (0 : Int32), vi p1, vi p2, vi p3] [(vI 99), (vI 7), (.ref b3), (.ref b3), (.ref b1), (.ref b1)])) rfl rfl (hb hby d5_53)
  have c26 := (c23.wr W22)
  have Re27 := Re24.trans (CHr.wr W25 (Safe.exa hZ.alike c26 (by decide) (by decide)) hCe24)
  have hCe27 := Re27.1
  have V25 := Arv.set Ar25 q25 S25 Nn25 H25 G25 (fits_nar_char _) W25 7 rfl (Nat.le_of_ble_eq_true rfl)
  have N25 := Fr.snoc X25 N22 g_b3
  have K25 : Keep h0 h25 [] := K22.wr W25 (Or.inr sz_b3)
  have Z25 : n0 ≤ h25.size := by rw [W25.size]; exact Z22
  have hk25 := own_szW W25 hk22
  obtain ⟨cl28, Ar28, q28, S28, Nn28, H28, G28⟩ := (id V25)
  have hin28 : ¬ ((8 : Int32) < 0 ∨ cl28.slots.size ≤ ((8 : Int32)).toNatClampNeg) := inb_of S28 ⟨by decide, by decide⟩
  obtain ⟨T28, h28, X28, e28, W28, st28⟩ := stC X25 hx hZ e25 Ar28 (j := (8 : Int32)) hin28 (g := (mkF m 59 #[vi (0 : Int32), vi p1, vi p2, vi p3] [(vI 105), (vI 8), (.ref b3), (.ref b3), (.ref b1), (.ref b1)])) rfl rfl (hb hby d5_59)
  have c29 := (c26.wr W25)
  have Re30 := Re27.trans (CHr.wr W28 (Safe.exa hZ.alike c29 (by decide) (by decide)) hCe27)
  have hCe30 := Re30.1
  have V28 := Arv.set Ar28 q28 S28 Nn28 H28 G28 (fits_nar_char _) W28 8 rfl (Nat.le_of_ble_eq_true rfl)
  have N28 := Fr.snoc X28 N25 g_b3
  have K28 : Keep h0 h28 [] := K25.wr W28 (Or.inr sz_b3)
  have Z28 : n0 ≤ h28.size := by rw [W28.size]; exact Z25
  have hk28 := own_szW W28 hk25
  obtain ⟨cl31, Ar31, q31, S31, Nn31, H31, G31⟩ := (id V28)
  have hin31 : ¬ ((9 : Int32) < 0 ∨ cl31.slots.size ≤ ((9 : Int32)).toNatClampNeg) := inb_of S31 ⟨by decide, by decide⟩
  obtain ⟨T31, h31, X31, e31, W31, st31⟩ := stC X28 hx hZ e28 Ar31 (j := (9 : Int32)) hin31 (g := (mkF m 65 #[vi (0 : Int32), vi p1, vi p2, vi p3] [(vI 101), (vI 9), (.ref b3), (.ref b3), (.ref b1), (.ref b1)])) rfl rfl (hb hby d5_65)
  have c32 := (c29.wr W28)
  have Re33 := Re30.trans (CHr.wr W31 (Safe.exa hZ.alike c32 (by decide) (by decide)) hCe30)
  have hCe33 := Re33.1
  have V31 := Arv.set Ar31 q31 S31 Nn31 H31 G31 (fits_nar_char _) W31 9 rfl (Nat.le_of_ble_eq_true rfl)
  have N31 := Fr.snoc X31 N28 g_b3
  have K31 : Keep h0 h31 [] := K28.wr W31 (Or.inr sz_b3)
  have Z31 : n0 ≤ h31.size := by rw [W31.size]; exact Z28
  have hk31 := own_szW W31 hk28
  obtain ⟨cl34, Ar34, q34, S34, Nn34, H34, G34⟩ := (id V31)
  have hin34 : ¬ ((10 : Int32) < 0 ∨ cl34.slots.size ≤ ((10 : Int32)).toNatClampNeg) := inb_of S34 ⟨by decide, by decide⟩
  obtain ⟨T34, h34, X34, e34, W34, st34⟩ := stC X31 hx hZ e31 Ar34 (j := (10 : Int32)) hin34 (g := (mkF m 71 #[vi (0 : Int32), vi p1, vi p2, vi p3] [(vI 110), (vI 10), (.ref b3), (.ref b3), (.ref b1), (.ref b1)])) rfl rfl (hb hby d5_71)
  have c35 := (c32.wr W31)
  have Re36 := Re33.trans (CHr.wr W34 (Safe.exa hZ.alike c35 (by decide) (by decide)) hCe33)
  have hCe36 := Re36.1
  have V34 := Arv.set Ar34 q34 S34 Nn34 H34 G34 (fits_nar_char _) W34 10 rfl (Nat.le_of_ble_eq_true rfl)
  have N34 := Fr.snoc X34 N31 g_b3
  have K34 : Keep h0 h34 [] := K31.wr W34 (Or.inr sz_b3)
  have Z34 : n0 ≤ h34.size := by rw [W34.size]; exact Z31
  have hk34 := own_szW W34 hk31
  obtain ⟨cl37, Ar37, q37, S37, Nn37, H37, G37⟩ := (id V34)
  have hin37 : ¬ ((11 : Int32) < 0 ∨ cl37.slots.size ≤ ((11 : Int32)).toNatClampNeg) := inb_of S37 ⟨by decide, by decide⟩
  obtain ⟨T37, h37, X37, e37, W37, st37⟩ := stC X34 hx hZ e34 Ar37 (j := (11 : Int32)) hin37 (g := (mkF m 77 #[vi (0 : Int32), vi p1, vi p2, vi p3] [(vI 116), (vI 11), (.ref b3), (.ref b3), (.ref b1), (.ref b1)])) rfl rfl (hb hby d5_77)
  have c38 := (c35.wr W34)
  have Re39 := Re36.trans (CHr.wr W37 (Safe.exa hZ.alike c38 (by decide) (by decide)) hCe36)
  have hCe39 := Re39.1
  have V37 := Arv.set Ar37 q37 S37 Nn37 H37 G37 (fits_nar_char _) W37 11 rfl (Nat.le_of_ble_eq_true rfl)
  have N37 := Fr.snoc X37 N34 g_b3
  have K37 : Keep h0 h37 [] := K34.wr W37 (Or.inr sz_b3)
  have Z37 : n0 ≤ h37.size := by rw [W37.size]; exact Z34
  have hk37 := own_szW W37 hk34
  obtain ⟨cl40, Ar40, q40, S40, Nn40, H40, G40⟩ := (id V37)
  have hin40 : ¬ ((12 : Int32) < 0 ∨ cl40.slots.size ≤ ((12 : Int32)).toNatClampNeg) := inb_of S40 ⟨by decide, by decide⟩
  obtain ⟨T40, h40, X40, e40, W40, st40⟩ := stC X37 hx hZ e37 Ar40 (j := (12 : Int32)) hin40 (g := (mkF m 83 #[vi (0 : Int32), vi p1, vi p2, vi p3] [(vI 32), (vI 12), (.ref b3), (.ref b3), (.ref b1), (.ref b1)])) rfl rfl (hb hby d5_83)
  have c41 := (c38.wr W37)
  have Re42 := Re39.trans (CHr.wr W40 (Safe.exa hZ.alike c41 (by decide) (by decide)) hCe39)
  have hCe42 := Re42.1
  have V40 := Arv.set Ar40 q40 S40 Nn40 H40 G40 (fits_nar_char _) W40 12 rfl (Nat.le_of_ble_eq_true rfl)
  have N40 := Fr.snoc X40 N37 g_b3
  have K40 : Keep h0 h40 [] := K37.wr W40 (Or.inr sz_b3)
  have Z40 : n0 ≤ h40.size := by rw [W40.size]; exact Z37
  have hk40 := own_szW W40 hk37
  obtain ⟨cl43, Ar43, q43, S43, Nn43, H43, G43⟩ := (id V40)
  have hin43 : ¬ ((13 : Int32) < 0 ∨ cl43.slots.size ≤ ((13 : Int32)).toNatClampNeg) := inb_of S43 ⟨by decide, by decide⟩
  obtain ⟨T43, h43, X43, e43, W43, st43⟩ := stC X40 hx hZ e40 Ar43 (j := (13 : Int32)) hin43 (g := (mkF m 89 #[vi (0 : Int32), vi p1, vi p2, vi p3] [(vI 112), (vI 13), (.ref b3), (.ref b3), (.ref b1), (.ref b1)])) rfl rfl (hb hby d5_89)
  have c44 := (c41.wr W40)
  have Re45 := Re42.trans (CHr.wr W43 (Safe.exa hZ.alike c44 (by decide) (by decide)) hCe42)
  have hCe45 := Re45.1
  have V43 := Arv.set Ar43 q43 S43 Nn43 H43 G43 (fits_nar_char _) W43 13 rfl (Nat.le_of_ble_eq_true rfl)
  have N43 := Fr.snoc X43 N40 g_b3
  have K43 : Keep h0 h43 [] := K40.wr W43 (Or.inr sz_b3)
  have Z43 : n0 ≤ h43.size := by rw [W43.size]; exact Z40
  have hk43 := own_szW W43 hk40
  obtain ⟨cl46, Ar46, q46, S46, Nn46, H46, G46⟩ := (id V43)
  have hin46 : ¬ ((14 : Int32) < 0 ∨ cl46.slots.size ≤ ((14 : Int32)).toNatClampNeg) := inb_of S46 ⟨by decide, by decide⟩
  obtain ⟨T46, h46, X46, e46, W46, st46⟩ := stC X43 hx hZ e43 Ar46 (j := (14 : Int32)) hin46 (g := (mkF m 95 #[vi (0 : Int32), vi p1, vi p2, vi p3] [(vI 101), (vI 14), (.ref b3), (.ref b3), (.ref b1), (.ref b1)])) rfl rfl (hb hby d5_95)
  have c47 := (c44.wr W43)
  have Re48 := Re45.trans (CHr.wr W46 (Safe.exa hZ.alike c47 (by decide) (by decide)) hCe45)
  have hCe48 := Re48.1
  have V46 := Arv.set Ar46 q46 S46 Nn46 H46 G46 (fits_nar_char _) W46 14 rfl (Nat.le_of_ble_eq_true rfl)
  have N46 := Fr.snoc X46 N43 g_b3
  have K46 : Keep h0 h46 [] := K43.wr W46 (Or.inr sz_b3)
  have Z46 : n0 ≤ h46.size := by rw [W46.size]; exact Z43
  have hk46 := own_szW W46 hk43
  obtain ⟨cl49, Ar49, q49, S49, Nn49, H49, G49⟩ := (id V46)
  have hin49 : ¬ ((15 : Int32) < 0 ∨ cl49.slots.size ≤ ((15 : Int32)).toNatClampNeg) := inb_of S49 ⟨by decide, by decide⟩
  obtain ⟨T49, h49, X49, e49, W49, st49⟩ := stC X46 hx hZ e46 Ar49 (j := (15 : Int32)) hin49 (g := (mkF m 101 #[vi (0 : Int32), vi p1, vi p2, vi p3] [(vI 114), (vI 15), (.ref b3), (.ref b3), (.ref b1), (.ref b1)])) rfl rfl (hb hby d5_101)
  have c50 := (c47.wr W46)
  have Re51 := Re48.trans (CHr.wr W49 (Safe.exa hZ.alike c50 (by decide) (by decide)) hCe48)
  have hCe51 := Re51.1
  have V49 := Arv.set Ar49 q49 S49 Nn49 H49 G49 (fits_nar_char _) W49 15 rfl (Nat.le_of_ble_eq_true rfl)
  have N49 := Fr.snoc X49 N46 g_b3
  have K49 : Keep h0 h49 [] := K46.wr W49 (Or.inr sz_b3)
  have Z49 : n0 ≤ h49.size := by rw [W49.size]; exact Z46
  have hk49 := own_szW W49 hk46
  obtain ⟨cl52, Ar52, q52, S52, Nn52, H52, G52⟩ := (id V49)
  have hin52 : ¬ ((16 : Int32) < 0 ∨ cl52.slots.size ≤ ((16 : Int32)).toNatClampNeg) := inb_of S52 ⟨by decide, by decide⟩
  obtain ⟨T52, h52, X52, e52, W52, st52⟩ := stC X49 hx hZ e49 Ar52 (j := (16 : Int32)) hin52 (g := (mkF m 107 #[vi (0 : Int32), vi p1, vi p2, vi p3] [(vI 109), (vI 16), (.ref b3), (.ref b3), (.ref b1), (.ref b1)])) rfl rfl (hb hby d5_107)
  have c53 := (c50.wr W49)
  have Re54 := Re51.trans (CHr.wr W52 (Safe.exa hZ.alike c53 (by decide) (by decide)) hCe51)
  have hCe54 := Re54.1
  have V52 := Arv.set Ar52 q52 S52 Nn52 H52 G52 (fits_nar_char _) W52 16 rfl (Nat.le_of_ble_eq_true rfl)
  have N52 := Fr.snoc X52 N49 g_b3
  have K52 : Keep h0 h52 [] := K49.wr W52 (Or.inr sz_b3)
  have Z52 : n0 ≤ h52.size := by rw [W52.size]; exact Z49
  have hk52 := own_szW W52 hk49
  obtain ⟨cl55, Ar55, q55, S55, Nn55, H55, G55⟩ := (id V52)
  have hin55 : ¬ ((17 : Int32) < 0 ∨ cl55.slots.size ≤ ((17 : Int32)).toNatClampNeg) := inb_of S55 ⟨by decide, by decide⟩
  obtain ⟨T55, h55, X55, e55, W55, st55⟩ := stC X52 hx hZ e52 Ar55 (j := (17 : Int32)) hin55 (g := (mkF m 113 #[vi (0 : Int32), vi p1, vi p2, vi p3] [(vI 105), (vI 17), (.ref b3), (.ref b3), (.ref b1), (.ref b1)])) rfl rfl (hb hby d5_113)
  have c56 := (c53.wr W52)
  have Re57 := Re54.trans (CHr.wr W55 (Safe.exa hZ.alike c56 (by decide) (by decide)) hCe54)
  have hCe57 := Re57.1
  have V55 := Arv.set Ar55 q55 S55 Nn55 H55 G55 (fits_nar_char _) W55 17 rfl (Nat.le_of_ble_eq_true rfl)
  have N55 := Fr.snoc X55 N52 g_b3
  have K55 : Keep h0 h55 [] := K52.wr W55 (Or.inr sz_b3)
  have Z55 : n0 ≤ h55.size := by rw [W55.size]; exact Z52
  have hk55 := own_szW W55 hk52
  obtain ⟨cl58, Ar58, q58, S58, Nn58, H58, G58⟩ := (id V55)
  have hin58 : ¬ ((18 : Int32) < 0 ∨ cl58.slots.size ≤ ((18 : Int32)).toNatClampNeg) := inb_of S58 ⟨by decide, by decide⟩
  obtain ⟨T58, h58, X58, e58, W58, st58⟩ := stC X55 hx hZ e55 Ar58 (j := (18 : Int32)) hin58 (g := (mkF m 119 #[vi (0 : Int32), vi p1, vi p2, vi p3] [(vI 115), (vI 18), (.ref b3), (.ref b3), (.ref b1), (.ref b1)])) rfl rfl (hb hby d5_119)
  have c59 := (c56.wr W55)
  have Re60 := Re57.trans (CHr.wr W58 (Safe.exa hZ.alike c59 (by decide) (by decide)) hCe57)
  have hCe60 := Re60.1
  have V58 := Arv.set Ar58 q58 S58 Nn58 H58 G58 (fits_nar_char _) W58 18 rfl (Nat.le_of_ble_eq_true rfl)
  have N58 := Fr.snoc X58 N55 g_b3
  have K58 : Keep h0 h58 [] := K55.wr W58 (Or.inr sz_b3)
  have Z58 : n0 ≤ h58.size := by rw [W58.size]; exact Z55
  have hk58 := own_szW W58 hk55
  obtain ⟨cl61, Ar61, q61, S61, Nn61, H61, G61⟩ := (id V58)
  have hin61 : ¬ ((19 : Int32) < 0 ∨ cl61.slots.size ≤ ((19 : Int32)).toNatClampNeg) := inb_of S61 ⟨by decide, by decide⟩
  obtain ⟨T61, h61, X61, e61, W61, st61⟩ := stC X58 hx hZ e58 Ar61 (j := (19 : Int32)) hin61 (g := (mkF m 125 #[vi (0 : Int32), vi p1, vi p2, vi p3] [(vI 115), (vI 19), (.ref b3), (.ref b3), (.ref b1), (.ref b1)])) rfl rfl (hb hby d5_125)
  have c62 := (c59.wr W58)
  have Re63 := Re60.trans (CHr.wr W61 (Safe.exa hZ.alike c62 (by decide) (by decide)) hCe60)
  have hCe63 := Re63.1
  have V61 := Arv.set Ar61 q61 S61 Nn61 H61 G61 (fits_nar_char _) W61 19 rfl (Nat.le_of_ble_eq_true rfl)
  have N61 := Fr.snoc X61 N58 g_b3
  have K61 : Keep h0 h61 [] := K58.wr W61 (Or.inr sz_b3)
  have Z61 : n0 ≤ h61.size := by rw [W61.size]; exact Z58
  have hk61 := own_szW W61 hk58
  obtain ⟨cl64, Ar64, q64, S64, Nn64, H64, G64⟩ := (id V61)
  have hin64 : ¬ ((20 : Int32) < 0 ∨ cl64.slots.size ≤ ((20 : Int32)).toNatClampNeg) := inb_of S64 ⟨by decide, by decide⟩
  obtain ⟨T64, h64, X64, e64, W64, st64⟩ := stC X61 hx hZ e61 Ar64 (j := (20 : Int32)) hin64 (g := (mkF m 131 #[vi (0 : Int32), vi p1, vi p2, vi p3] [(vI 105), (vI 20), (.ref b3), (.ref b3), (.ref b1), (.ref b1)])) rfl rfl (hb hby d5_131)
  have c65 := (c62.wr W61)
  have Re66 := Re63.trans (CHr.wr W64 (Safe.exa hZ.alike c65 (by decide) (by decide)) hCe63)
  have hCe66 := Re66.1
  have V64 := Arv.set Ar64 q64 S64 Nn64 H64 G64 (fits_nar_char _) W64 20 rfl (Nat.le_of_ble_eq_true rfl)
  have N64 := Fr.snoc X64 N61 g_b3
  have K64 : Keep h0 h64 [] := K61.wr W64 (Or.inr sz_b3)
  have Z64 : n0 ≤ h64.size := by rw [W64.size]; exact Z61
  have hk64 := own_szW W64 hk61
  obtain ⟨cl67, Ar67, q67, S67, Nn67, H67, G67⟩ := (id V64)
  have hin67 : ¬ ((21 : Int32) < 0 ∨ cl67.slots.size ≤ ((21 : Int32)).toNatClampNeg) := inb_of S67 ⟨by decide, by decide⟩
  obtain ⟨T67, h67, X67, e67, W67, st67⟩ := stC X64 hx hZ e64 Ar67 (j := (21 : Int32)) hin67 (g := (mkF m 137 #[vi (0 : Int32), vi p1, vi p2, vi p3] [(vI 111), (vI 21), (.ref b3), (.ref b3), (.ref b1), (.ref b1)])) rfl rfl (hb hby d5_137)
  have c68 := (c65.wr W64)
  have Re69 := Re66.trans (CHr.wr W67 (Safe.exa hZ.alike c68 (by decide) (by decide)) hCe66)
  have hCe69 := Re69.1
  have V67 := Arv.set Ar67 q67 S67 Nn67 H67 G67 (fits_nar_char _) W67 21 rfl (Nat.le_of_ble_eq_true rfl)
  have N67 := Fr.snoc X67 N64 g_b3
  have K67 : Keep h0 h67 [] := K64.wr W67 (Or.inr sz_b3)
  have Z67 : n0 ≤ h67.size := by rw [W67.size]; exact Z64
  have hk67 := own_szW W67 hk64
  obtain ⟨cl70, Ar70, q70, S70, Nn70, H70, G70⟩ := (id V67)
  have hin70 : ¬ ((22 : Int32) < 0 ∨ cl70.slots.size ≤ ((22 : Int32)).toNatClampNeg) := inb_of S70 ⟨by decide, by decide⟩
  obtain ⟨T70, h70, X70, e70, W70, st70⟩ := stC X67 hx hZ e67 Ar70 (j := (22 : Int32)) hin70 (g := (mkF m 143 #[vi (0 : Int32), vi p1, vi p2, vi p3] [(vI 110), (vI 22), (.ref b3), (.ref b3), (.ref b1), (.ref b1)])) rfl rfl (hb hby d5_143)
  have c71 := (c68.wr W67)
  have Re72 := Re69.trans (CHr.wr W70 (Safe.exa hZ.alike c71 (by decide) (by decide)) hCe69)
  have hCe72 := Re72.1
  have V70 := Arv.set Ar70 q70 S70 Nn70 H70 G70 (fits_nar_char _) W70 22 rfl (Nat.le_of_ble_eq_true rfl)
  have N70 := Fr.snoc X70 N67 g_b3
  have K70 : Keep h0 h70 [] := K67.wr W70 (Or.inr sz_b3)
  have Z70 : n0 ≤ h70.size := by rw [W70.size]; exact Z67
  have hk70 := own_szW W70 hk67
  obtain ⟨cl73, Ar73, q73, S73, Nn73, H73, G73⟩ := (id V70)
  have hin73 : ¬ ((23 : Int32) < 0 ∨ cl73.slots.size ≤ ((23 : Int32)).toNatClampNeg) := inb_of S73 ⟨by decide, by decide⟩
  obtain ⟨T73, h73, X73, e73, W73, st73⟩ := stC X70 hx hZ e70 Ar73 (j := (23 : Int32)) hin73 (g := (mkF m 149 #[vi (0 : Int32), vi p1, vi p2, vi p3] [(vI 115), (vI 23), (.ref b3), (.ref b3), (.ref b1), (.ref b1)])) rfl rfl (hb hby d5_149)
  have c74 := (c71.wr W70)
  have Re75 := Re72.trans (CHr.wr W73 (Safe.exa hZ.alike c74 (by decide) (by decide)) hCe72)
  have hCe75 := Re75.1
  have V73 := Arv.set Ar73 q73 S73 Nn73 H73 G73 (fits_nar_char _) W73 23 rfl (Nat.le_of_ble_eq_true rfl)
  have N73 := Fr.snoc X73 N70 g_b3
  have K73 : Keep h0 h73 [] := K70.wr W73 (Or.inr sz_b3)
  have Z73 : n0 ≤ h73.size := by rw [W73.size]; exact Z70
  have hk73 := own_szW W73 hk70
  obtain ⟨cl76, Ar76, q76, S76, Nn76, H76, G76⟩ := (id V73)
  have hin76 : ¬ ((24 : Int32) < 0 ∨ cl76.slots.size ≤ ((24 : Int32)).toNatClampNeg) := inb_of S76 ⟨by decide, by decide⟩
  obtain ⟨T76, h76, X76, e76, W76, st76⟩ := stC X73 hx hZ e73 Ar76 (j := (24 : Int32)) hin76 (g := (mkF m 155 #[vi (0 : Int32), vi p1, vi p2, vi p3] [(vI 58), (vI 24), (.ref b3), (.ref b3), (.ref b1), (.ref b1)])) rfl rfl (hb hby d5_155)
  have c77 := (c74.wr W73)
  have Re78 := Re75.trans (CHr.wr W76 (Safe.exa hZ.alike c77 (by decide) (by decide)) hCe75)
  have hCe78 := Re78.1
  have V76 := Arv.set Ar76 q76 S76 Nn76 H76 G76 (fits_nar_char _) W76 24 rfl (Nat.le_of_ble_eq_true rfl)
  have N76 := Fr.snoc X76 N73 g_b3
  have K76 : Keep h0 h76 [] := K73.wr W76 (Or.inr sz_b3)
  have Z76 : n0 ≤ h76.size := by rw [W76.size]; exact Z73
  have hk76 := own_szW W76 hk73
  obtain ⟨cl79, Ar79, q79, S79, Nn79, H79, G79⟩ := (id V76)
  have hin79 : ¬ ((25 : Int32) < 0 ∨ cl79.slots.size ≤ ((25 : Int32)).toNatClampNeg) := inb_of S79 ⟨by decide, by decide⟩
  obtain ⟨T79, h79, X79, e79, W79, st79⟩ := stC X76 hx hZ e76 Ar79 (j := (25 : Int32)) hin79 (g := (mkF m 161 #[vi (0 : Int32), vi p1, vi p2, vi p3] [(vI 32), (vI 25), (.ref b3), (.ref b3), (.ref b1), (.ref b1)])) rfl rfl (hb hby d5_161)
  have c80 := (c77.wr W76)
  have Re81 := Re78.trans (CHr.wr W79 (Safe.exa hZ.alike c80 (by decide) (by decide)) hCe78)
  have hCe81 := Re81.1
  have V79 := Arv.set Ar79 q79 S79 Nn79 H79 G79 (fits_nar_char _) W79 25 rfl (Nat.le_of_ble_eq_true rfl)
  have N79 := Fr.snoc X79 N76 g_b3
  have K79 : Keep h0 h79 [] := K76.wr W79 (Or.inr sz_b3)
  have Z79 : n0 ≤ h79.size := by rw [W79.size]; exact Z76
  have hk79 := own_szW W79 hk76
  have c83 := (((((((((((((((((((((((((((A1.ext E3).wr W5).wr W7).wr W10).wr W13).wr W16).wr W19).wr W22).wr W25).wr W28).wr W31).wr W34).wr W37).wr W40).wr W43).wr W46).wr W49).wr W52).wr W55).wr W58).wr W61).wr W64).wr W67).wr W70).wr W73).wr W76).wr W79)
  have c84 := (((((((((((((((((((((((((((F1_value.ext E3).other W5 (Or.inl ne_b1_b3)).other W7 (Or.inl ne_b1_b3)).other W10 (Or.inl ne_b1_b3)).other W13 (Or.inl ne_b1_b3)).other W16 (Or.inl ne_b1_b3)).other W19 (Or.inl ne_b1_b3)).other W22 (Or.inl ne_b1_b3)).other W25 (Or.inl ne_b1_b3)).other W28 (Or.inl ne_b1_b3)).other W31 (Or.inl ne_b1_b3)).other W34 (Or.inl ne_b1_b3)).other W37 (Or.inl ne_b1_b3)).other W40 (Or.inl ne_b1_b3)).other W43 (Or.inl ne_b1_b3)).other W46 (Or.inl ne_b1_b3)).other W49 (Or.inl ne_b1_b3)).other W52 (Or.inl ne_b1_b3)).other W55 (Or.inl ne_b1_b3)).other W58 (Or.inl ne_b1_b3)).other W61 (Or.inl ne_b1_b3)).other W64 (Or.inl ne_b1_b3)).other W67 (Or.inl ne_b1_b3)).other W70 (Or.inl ne_b1_b3)).other W73 (Or.inl ne_b1_b3)).other W76 (Or.inl ne_b1_b3)).other W79 (Or.inl ne_b1_b3))
  have c85 := (((((((((((((((((((((((((((F1_coder.ext E3).other W5 (Or.inl ne_b1_b3)).other W7 (Or.inl ne_b1_b3)).other W10 (Or.inl ne_b1_b3)).other W13 (Or.inl ne_b1_b3)).other W16 (Or.inl ne_b1_b3)).other W19 (Or.inl ne_b1_b3)).other W22 (Or.inl ne_b1_b3)).other W25 (Or.inl ne_b1_b3)).other W28 (Or.inl ne_b1_b3)).other W31 (Or.inl ne_b1_b3)).other W34 (Or.inl ne_b1_b3)).other W37 (Or.inl ne_b1_b3)).other W40 (Or.inl ne_b1_b3)).other W43 (Or.inl ne_b1_b3)).other W46 (Or.inl ne_b1_b3)).other W49 (Or.inl ne_b1_b3)).other W52 (Or.inl ne_b1_b3)).other W55 (Or.inl ne_b1_b3)).other W58 (Or.inl ne_b1_b3)).other W61 (Or.inl ne_b1_b3)).other W64 (Or.inl ne_b1_b3)).other W67 (Or.inl ne_b1_b3)).other W70 (Or.inl ne_b1_b3)).other W73 (Or.inl ne_b1_b3)).other W76 (Or.inl ne_b1_b3)).other W79 (Or.inl ne_b1_b3))
  have c86 := ((((((((((((((((((((((((((((uO.ext E1).ext E3).wr W5 g_b3).wr W7 g_b3).wr W10 g_b3).wr W13 g_b3).wr W16 g_b3).wr W19 g_b3).wr W22 g_b3).wr W25 g_b3).wr W28 g_b3).wr W31 g_b3).wr W34 g_b3).wr W37 g_b3).wr W40 g_b3).wr W43 g_b3).wr W46 g_b3).wr W49 g_b3).wr W52 g_b3).wr W55 g_b3).wr W58 g_b3).wr W61 g_b3).wr W64 g_b3).wr W67 g_b3).wr W70 g_b3).wr W73 g_b3).wr W76 g_b3).wr W79 g_b3)
  obtain ⟨_, _, ⟨T82, Lw82, kw82, nw82⟩, -, X82, ⟨Lc82, hQ82, lq82, yq82, zq82⟩, st82⟩ := X79.specialBack hx (y := M23) rfl hown (mvT hZ (wd hw 8 rfl)) (mvT hZ (wd hw 9 rfl)) (mvT hZ (wd hw 10 rfl)) (by decide) (StrChars.Road.backV (W := 1) hZ (fun d hd => hw d (own_w_words d hd)) (kI := 4) (wd hw 5 rfl) (cs := ([73, 110, 115, 117, 102, 102, 105, 99, 105, 101, 110, 116, 32, 112, 101, 114, 109, 105, 115, 115, 105, 111, 110, 115, 58, 32] : List Int32)) (bs := (([73, 110, 115, 117, 102, 102, 105, 99, 105, 101, 110, 116, 32, 112, 101, 114, 109, 105, 115, 115, 105, 111, 110, 115, 58, 32] : List Int32).map (fun c => c.toInt8.toInt32))) (n := 26) g_b1 Z79 c83 c84 c85 V79 (uS.ext c86.2) uP rfl rfl (by decide) (by decide) own_hp rfl (by decide) (by decide)) (g := (mkF m 162 #[vi (0 : Int32), vi p1, vi p2, vi p3] [(.ref b3), (.ref b1), (.ref b1)])) rfl (by rw [hml]; rfl) (Steps.refl _) (a := b1) (argsL := [(.ref b3)]) (rest := [(.ref b1)]) (lenOf pd_15 rfl) rfl (by show 2 * 0 + _ ≤ _; exact Nat.le_of_eq rfl) (hb hby d5_162) (fun _ _ => ⟨rfl, e79, (by decide : 2 + 1 ≤ _), (by decide : 30 + 26 ≤ _)⟩)
  dsimp only [Pt.U, Pt.locs, Pt.cells, Pt.slots] at X82 lq82 yq82 zq82 st82 hQ82
  have X82 := own_reb X82 lq82 yq82 zq82
  obtain ⟨rfl, Nq82, Kq82, fE82, fC82, t82, kt82, u182, u282, u382, fV82, fK82⟩ := hQ82
  have N82 := Fr.app N79 Nq82
  have ne_b1_t82 : b1 ≠ t82 := Nat.ne_of_lt (Nat.lt_of_lt_of_le c83.lt u282)
  have ne_b3_t82 : b3 ≠ t82 := Nat.ne_of_lt (Nat.lt_of_lt_of_le V79.lt u282)
  have sz_t82 : h0.size ≤ t82 := Nat.le_trans K79.1 u282
  have c87 := (Safe.wr W79 (Safe.exa hZ.alike c80 (by decide) (by decide)) hCe78 (Safe.wr W76 (Safe.exa hZ.alike c77 (by decide) (by decide)) hCe75 (Safe.wr W73 (Safe.exa hZ.alike c74 (by decide) (by decide)) hCe72 (Safe.wr W70 (Safe.exa hZ.alike c71 (by decide) (by decide)) hCe69 (Safe.wr W67 (Safe.exa hZ.alike c68 (by decide) (by decide)) hCe66 (Safe.wr W64 (Safe.exa hZ.alike c65 (by decide) (by decide)) hCe63 (Safe.wr W61 (Safe.exa hZ.alike c62 (by decide) (by decide)) hCe60 (Safe.wr W58 (Safe.exa hZ.alike c59 (by decide) (by decide)) hCe57 (Safe.wr W55 (Safe.exa hZ.alike c56 (by decide) (by decide)) hCe54 (Safe.wr W52 (Safe.exa hZ.alike c53 (by decide) (by decide)) hCe51 (Safe.wr W49 (Safe.exa hZ.alike c50 (by decide) (by decide)) hCe48 (Safe.wr W46 (Safe.exa hZ.alike c47 (by decide) (by decide)) hCe45 (Safe.wr W43 (Safe.exa hZ.alike c44 (by decide) (by decide)) hCe42 (Safe.wr W40 (Safe.exa hZ.alike c41 (by decide) (by decide)) hCe39 (Safe.wr W37 (Safe.exa hZ.alike c38 (by decide) (by decide)) hCe36 (Safe.wr W34 (Safe.exa hZ.alike c35 (by decide) (by decide)) hCe33 (Safe.wr W31 (Safe.exa hZ.alike c32 (by decide) (by decide)) hCe30 (Safe.wr W28 (Safe.exa hZ.alike c29 (by decide) (by decide)) hCe27 (Safe.wr W25 (Safe.exa hZ.alike c26 (by decide) (by decide)) hCe24 (Safe.wr W22 (Safe.exa hZ.alike c23 (by decide) (by decide)) hCe21 (Safe.wr W19 (Safe.exa hZ.alike c20 (by decide) (by decide)) hCe18 (Safe.wr W16 (Safe.exa hZ.alike c17 (by decide) (by decide)) hCe15 (Safe.wr W13 (Safe.exa hZ.alike c14 (by decide) (by decide)) hCe12 (Safe.wr W10 (Safe.exa hZ.alike c11 (by decide) (by decide)) hCe9 (Safe.wr W7 (Safe.exa hZ.alike c8 (by decide) (by decide)) hCe6 (Safe.wr W5 (Safe.exa hZ.alike AX3 (by decide) (by decide)) hCe4 (Safe.ext E3 hCe2 sf1)))))))))))))))))))))))))))
  have Re88 := Re81.trans (CHr.keep Kq82 (allS c87 all0) hCe81)
  have hCe88 := Re88.1
  have sf82 := Safe.keep Kq82 (allS c87 all0) hCe81 (Safe.new u282)
  have K82 : Keep h0 T82.heap [] := K79.trans Kq82 (allS (Or.inr sz_b1) all0)
  have Z82 : n0 ≤ T82.heap.size := Nat.le_trans Z79 Kq82.1
  have hk82 : _ ≤ T82.heap.size := Nat.le_trans hk79 Kq82.1
  obtain ⟨fs, hr, hrun, hended, en1, en2, en3, en4⟩ := X82.leaveW hS0 (own_hk rfl hk82) (v := some (.ref b1)) (fun h => by rw [Bd.returns] at h; cases h)
  refine ⟨_, _, pre0 _ ?_, hrun, hended, _, _, rfl, ?_, own_chr (T := T82) hh rfl (Re88.trans (CHv.at X82 hZ (own_EW hw) hCe88)), en1, en2, en3, en4.mono (by decide) (by decide)⟩
  · show SS p e below s₁ (mkF m 0 #[vi (0 : Int32), vi p1, vi p2, vi p3] []) _
    refine XS.iloadN X0.here hx rfl (hb hby d5_0) rfl ?_
    show SS p e below s₁ (mkF m 1 #[vi (0 : Int32), vi p1, vi p2, vi p3] [z0]) _
    refine XS.ifNo X0.here hx rfl (hb hby d5_1) rfl ((if0 _ _).trans (teq (by decide : (0 : Int32) = (0 : Int32))).2) ?_
    refine st1 _ ?_
    refine XS.dup X1.here hx rfl (hb hby d5_7) rfl rfl ?_
    refine XS.bipush X1.here hx rfl (hb hby d5_8) ?_
    refine st3 _ ?_
    refine XS.dup X3.here hx rfl (hb hby d5_12) rfl rfl ?_
    refine XS.iconst X3.here hx rfl (hb hby d5_13) ?_
    refine XS.bipush X3.here hx rfl (hb hby d5_14) ?_
    refine st5 _ ?_
    refine XS.dup X5.here hx rfl (hb hby d5_17) rfl rfl ?_
    refine XS.iconst X5.here hx rfl (hb hby d5_18) ?_
    refine XS.bipush X5.here hx rfl (hb hby d5_19) ?_
    refine st7 _ ?_
    refine XS.dup X7.here hx rfl (hb hby d5_22) rfl rfl ?_
    refine XS.iconst X7.here hx rfl (hb hby d5_23) ?_
    refine XS.bipush X7.here hx rfl (hb hby d5_24) ?_
    refine st10 _ ?_
    refine XS.dup X10.here hx rfl (hb hby d5_27) rfl rfl ?_
    refine XS.iconst X10.here hx rfl (hb hby d5_28) ?_
    refine XS.bipush X10.here hx rfl (hb hby d5_29) ?_
    refine st13 _ ?_
    refine XS.dup X13.here hx rfl (hb hby d5_32) rfl rfl ?_
    refine XS.iconst X13.here hx rfl (hb hby d5_33) ?_
    refine XS.bipush X13.here hx rfl (hb hby d5_34) ?_
    refine st16 _ ?_
    refine XS.dup X16.here hx rfl (hb hby d5_37) rfl rfl ?_
    refine XS.iconst X16.here hx rfl (hb hby d5_38) ?_
    refine XS.bipush X16.here hx rfl (hb hby d5_39) ?_
    refine st19 _ ?_
    refine XS.dup X19.here hx rfl (hb hby d5_42) rfl rfl ?_
    refine XS.bipush X19.here hx rfl (hb hby d5_43) ?_
    refine XS.bipush X19.here hx rfl (hb hby d5_45) ?_
    refine st22 _ ?_
    refine XS.dup X22.here hx rfl (hb hby d5_48) rfl rfl ?_
    refine XS.bipush X22.here hx rfl (hb hby d5_49) ?_
    refine XS.bipush X22.here hx rfl (hb hby d5_51) ?_
    refine st25 _ ?_
    refine XS.dup X25.here hx rfl (hb hby d5_54) rfl rfl ?_
    refine XS.bipush X25.here hx rfl (hb hby d5_55) ?_
    refine XS.bipush X25.here hx rfl (hb hby d5_57) ?_
    refine st28 _ ?_
    refine XS.dup X28.here hx rfl (hb hby d5_60) rfl rfl ?_
    refine XS.bipush X28.here hx rfl (hb hby d5_61) ?_
    refine XS.bipush X28.here hx rfl (hb hby d5_63) ?_
    refine st31 _ ?_
    refine XS.dup X31.here hx rfl (hb hby d5_66) rfl rfl ?_
    refine XS.bipush X31.here hx rfl (hb hby d5_67) ?_
    refine XS.bipush X31.here hx rfl (hb hby d5_69) ?_
    refine st34 _ ?_
    refine XS.dup X34.here hx rfl (hb hby d5_72) rfl rfl ?_
    refine XS.bipush X34.here hx rfl (hb hby d5_73) ?_
    refine XS.bipush X34.here hx rfl (hb hby d5_75) ?_
    refine st37 _ ?_
    refine XS.dup X37.here hx rfl (hb hby d5_78) rfl rfl ?_
    refine XS.bipush X37.here hx rfl (hb hby d5_79) ?_
    refine XS.bipush X37.here hx rfl (hb hby d5_81) ?_
    refine st40 _ ?_
    refine XS.dup X40.here hx rfl (hb hby d5_84) rfl rfl ?_
    refine XS.bipush X40.here hx rfl (hb hby d5_85) ?_
    refine XS.bipush X40.here hx rfl (hb hby d5_87) ?_
    refine st43 _ ?_
    refine XS.dup X43.here hx rfl (hb hby d5_90) rfl rfl ?_
    refine XS.bipush X43.here hx rfl (hb hby d5_91) ?_
    refine XS.bipush X43.here hx rfl (hb hby d5_93) ?_
    refine st46 _ ?_
    refine XS.dup X46.here hx rfl (hb hby d5_96) rfl rfl ?_
    refine XS.bipush X46.here hx rfl (hb hby d5_97) ?_
    refine XS.bipush X46.here hx rfl (hb hby d5_99) ?_
    refine st49 _ ?_
    refine XS.dup X49.here hx rfl (hb hby d5_102) rfl rfl ?_
    refine XS.bipush X49.here hx rfl (hb hby d5_103) ?_
    refine XS.bipush X49.here hx rfl (hb hby d5_105) ?_
    refine st52 _ ?_
    refine XS.dup X52.here hx rfl (hb hby d5_108) rfl rfl ?_
    refine XS.bipush X52.here hx rfl (hb hby d5_109) ?_
    refine XS.bipush X52.here hx rfl (hb hby d5_111) ?_
    refine st55 _ ?_
    refine XS.dup X55.here hx rfl (hb hby d5_114) rfl rfl ?_
    refine XS.bipush X55.here hx rfl (hb hby d5_115) ?_
    refine XS.bipush X55.here hx rfl (hb hby d5_117) ?_
    refine st58 _ ?_
    refine XS.dup X58.here hx rfl (hb hby d5_120) rfl rfl ?_
    refine XS.bipush X58.here hx rfl (hb hby d5_121) ?_
    refine XS.bipush X58.here hx rfl (hb hby d5_123) ?_
    refine st61 _ ?_
    refine XS.dup X61.here hx rfl (hb hby d5_126) rfl rfl ?_
    refine XS.bipush X61.here hx rfl (hb hby d5_127) ?_
    refine XS.bipush X61.here hx rfl (hb hby d5_129) ?_
    refine st64 _ ?_
    refine XS.dup X64.here hx rfl (hb hby d5_132) rfl rfl ?_
    refine XS.bipush X64.here hx rfl (hb hby d5_133) ?_
    refine XS.bipush X64.here hx rfl (hb hby d5_135) ?_
    refine st67 _ ?_
    refine XS.dup X67.here hx rfl (hb hby d5_138) rfl rfl ?_
    refine XS.bipush X67.here hx rfl (hb hby d5_139) ?_
    refine XS.bipush X67.here hx rfl (hb hby d5_141) ?_
    refine st70 _ ?_
    refine XS.dup X70.here hx rfl (hb hby d5_144) rfl rfl ?_
    refine XS.bipush X70.here hx rfl (hb hby d5_145) ?_
    refine XS.bipush X70.here hx rfl (hb hby d5_147) ?_
    refine st73 _ ?_
    refine XS.dup X73.here hx rfl (hb hby d5_150) rfl rfl ?_
    refine XS.bipush X73.here hx rfl (hb hby d5_151) ?_
    refine XS.bipush X73.here hx rfl (hb hby d5_153) ?_
    refine st76 _ ?_
    refine XS.dup X76.here hx rfl (hb hby d5_156) rfl rfl ?_
    refine XS.bipush X76.here hx rfl (hb hby d5_157) ?_
    refine XS.bipush X76.here hx rfl (hb hby d5_159) ?_
    refine st79 _ ?_
    show SS p e below T79 (mkF m 162 #[vi (0 : Int32), vi p1, vi p2, vi p3] [(.ref b3), (.ref b1), (.ref b1)]) _
    refine st82.trans ?_
    exact retOut X82 hx Bd.returns rfl (Or.inr (Or.inr (Or.inr (Or.inr ⟨rfl, rfl, rfl⟩)))) (hb hby d5_165) hr
  · show Q_rmE0 Z p1 p2 p3 zc h0 n0 _ T82.heap _
    exact ⟨b1, t82, kt82, rfl, N82, K82, sz_b1, fE82, fC82, fV82, fK82⟩
theorem ef_26 (m : MethodId) (x1 : Int32) (x2 : Int32) (x3 : Int32) : entryFrame m #[(vI 1), (.int x1), (.int x2), (.int x3)] 4 = mkF m 0 #[vi (1 : Int32), vi x1, vi x2, vi x3] [] := by first | (simp [entryFrame, mkF, argsToLocals, Value.category]; done) | rfl
theorem d1_15 : decode method_2_code 15 = .ok (.iload_n 0, 1) := by decide +kernel
theorem d1_16 : decode method_2_code 16 = .ok (.iconst 1, 1) := by decide +kernel
theorem d1_17 : decode method_2_code 17 = .ok (.if_icmp .ne 18, 3) := by decide +kernel
theorem d1_20 : decode method_2_code 20 = .ok (.new 7, 3) := by decide +kernel
theorem d1_23 : decode method_2_code 23 = .ok (.dup, 1) := by decide +kernel
theorem d1_24 : decode method_2_code 24 = .ok (.iconst 1, 1) := by decide +kernel
theorem d1_25 : decode method_2_code 25 = .ok (.newarray .char, 2) := by decide +kernel
theorem d1_27 : decode method_2_code 27 = .ok (.dup, 1) := by decide +kernel
theorem d1_28 : decode method_2_code 28 = .ok (.iconst 0, 1) := by decide +kernel
theorem d1_29 : decode method_2_code 29 = .ok (.iload_n 1, 1) := by decide +kernel
theorem d1_30 : decode method_2_code 30 = .ok (.castore, 1) := by decide +kernel
theorem d1_31 : decode method_2_code 31 = .ok (.invokespecial 9, 3) := by decide +kernel
theorem d1_34 : decode method_2_code 34 = .ok (.areturn, 1) := by decide +kernel
def Q_rmR1 (Z : State) (p1 : Int32) (p2 : Int32) (p3 : Int32) (zc : Int32) (h0 : Heap) (n0 : Nat) (v : Option Value) (h : Heap) (L : List Loc) : Prop := ∃ (nx : Addr), ∃ (nt : Addr), ∃ (nk : ClassId), (v = some (.ref nx) ∧ Fr n0 L ∧ Keep h0 h [] ∧ h0.size ≤ nx ∧ Exa Z h nx "java/lang/String" ∧ Fld Z h nx "java/lang/String" "coder" "B" z0 ∧ Fld Z h nx "java/lang/String" "value" "[B" (.ref nt) ∧ Arv Z h nt nk .byte (1 : Int32) ((([p1] : List Int32).map (fun c => c.toInt8.toInt32)).map Value.int) z0)
set_option maxRecDepth 65536 in
set_option maxHeartbeats 40000000 in
theorem rmR1 (l : Launch) (Z : State) (a0 : Array Value) (hw : ∀ d ∈ tables_1, d.before a0 Z = true) (ws : List Jvm.Cond) (p1 : Int32) (p2 : Int32) (p3 : Int32) (zc : Int32) (h0 : Heap) (n0 : Nat) (Z0 : n0 ≤ h0.size) (uO : Old Z n0 h0) (uS : Sta Z Z.heap "java/lang/String" "COMPACT_STRINGS" "Z" (.int zc)) (uP : ¬ zc = 0) (ub_p1 : ¬ p1 < 0 ∧ ¬ (255 : Int32) < p1) (ub_p2 : ¬ p2 < 0 ∧ ¬ (255 : Int32) < p2) (ub_p3 : ¬ p3 < 0 ∧ ¬ (255 : Int32) < p3) :
    MetFree l M24 (head1 (Jvm.Cond.code M24 method_2_code 4 (some (.object "java/lang/String")) :: ws) ({ frames := 4, cells := 3, slots := 6, locals := 66 } : Room)) (fun a U => a = #[(vI 1), (.int p1), (.int p2), (.int p3)] ∧ Z.Warmed39 U.vm ∧ U.heap = h0 ∧ CHv Z own_EL U.vm h0) (fun _ _ _ _ _ => True) (fun _ U o U' => ∃ v L, o = .returned v ∧ Q_rmR1 Z p1 p2 p3 zc h0 n0 v U'.heap L ∧ CHr Z own_EL U.vm U.heap U'.vm U'.heap ∧ ReturnedEndW U o U' L ({ frames := 4, cells := 3, slots := 6, locals := 66 } : Room).cells ({ frames := 4, cells := 3, slots := 6, locals := 66 } : Room).slots) := by
  refine MetFree.of_bodySF (plainFor_of_name pn_4) hisR ?_
  intro p e s m args below meth c s₁ Bd hml0 hP hK
  obtain ⟨rfl, hZ, hh, hC0⟩ := hP
  have hx := Bd.exec
  have hby := Bd.bytes
  have hml : c.maxLocals = 4 := hml0
  have hown : s.vm.findClass "com/example/plain_hub/plainhub/HubExceptionForbiddenPinLaw" = some m.cls := findClass_of_methodNamed Bd.named
  have hnm := (name_of_methodNamed Bd.named Bd.method).1
  have X0 : Stand p l e ({ frames := 4, cells := 3, slots := 6, locals := 66 } : Room) (s.setVm s.vm) m #[(vI 1), (.int p1), (.int p2), (.int p3)] below meth c s₁ [] 0 0 := Stand.of_body Bd
  have e0 : s₁.heap = h0 := by rw [← hh, Bd.state]; rfl
  have N0 := Fr.nil n0
  have pre0 : ∀ t, Steps p.tables e below (s₁.setTop (mkF m 0 #[vi (1 : Int32), vi p1, vi p2, vi p3] [])) t → Steps p.tables e below (s₁.setTop (entryFrame m #[(vI 1), (.int p1), (.int p2), (.int p3)] 4)) t := fun t k => castTop (ef_26 m p1 p2 p3) k
  have hS0 : s.Since s.vm 0 := (State.WarmedH.refl s).since _
  have hk0 : 0 ≤ h0.size := Nat.zero_le _
  have R0 := CHr.refl hC0
  have own_hp : ∀ c ∈ ([p1] : List Int32), ¬ c < 0 ∧ ¬ (255 : Int32) < c := by
    intro c hc
    simp only [List.mem_cons, List.not_mem_nil, or_false] at hc
    rcases hc with rfl
    · exact ub_p1
  obtain ⟨T1, h1, X1, e1, E1, A1, D1, Un1, st1⟩ := newO X0 hx hZ hown (wd hw 4 rfl) (wd hw 5 rfl) (wd hw 6 rfl) e0 (g := (mkF m 20 #[vi (1 : Int32), vi p1, vi p2, vi p3] [])) rfl (hb hby d1_20) (by decide) (by decide)
  obtain ⟨b1, g1⟩ : ∃ z, z = h0.size := ⟨_, rfl⟩
  rw [← g1] at A1 D1 Un1 st1
  have Re2 := R0.trans (CHr.ext E1 hC0)
  have hCe2 := Re2.1
  have sf1 := Safe.ext E1 hC0 (Safe.new (Nat.le_of_eq g1.symm))
  have F1_value : Fld Z h1 b1 "java/lang/String" "value" "[B" .null := D1 (Or.inr (wd hw 20 rfl)) (ty := (.array .byte)) (by decide)
  have F1_coder : Fld Z h1 b1 "java/lang/String" "coder" "B" z0 := D1 (Or.inr (wd hw 21 rfl)) (ty := .byte) (by decide)
  have g_b1 : n0 ≤ b1 := Nat.le_trans Z0 (Nat.le_of_eq g1.symm)
  have sz_b1 : h0.size ≤ b1 := Nat.le_trans (Keep.refl h0 []).1 (Nat.le_of_eq g1.symm)
  have K1 : Keep h0 h1 [] := (Keep.refl h0 []).ext E1
  have Z1 : n0 ≤ h1.size := Nat.le_trans Z0 E1.1
  have hk1 : _ ≤ h1.size := Nat.le_trans hk0 E1.1
  obtain ⟨T3, h3, k3, X3, e3, E3, A3, AX3, st3⟩ := newPE X1 hx hZ (wd hw 7 rfl) e1 (g := (mkF m 25 #[vi (1 : Int32), vi p1, vi p2, vi p3] [(vI 1), (.ref b1), (.ref b1)])) rfl (hb hby d1_25) rfl (by decide) (cap := 1) (by decide) (by decide) (by decide) (by decide) (ad := "[C") (by decide)
  obtain ⟨b3, g3⟩ : ∃ z, z = h1.size := ⟨_, rfl⟩
  rw [← g3] at A3 AX3 st3
  have ne_b1_b3 : b1 ≠ b3 := Nat.ne_of_lt (Nat.lt_of_lt_of_le A1.lt (Nat.le_of_eq g3.symm))
  have Re4 := Re2.trans (CHr.ext E3 hCe2)
  have hCe4 := Re4.1
  have V3 : Arv Z h3 b3 k3 .char (1 : Int32) [z0] z0 := (Arv.new A3 (by decide)).pad (pad_rep [] z0 1)
  have g_b3 : n0 ≤ b3 := Nat.le_trans Z1 (Nat.le_of_eq g3.symm)
  have sz_b3 : h0.size ≤ b3 := Nat.le_trans K1.1 (Nat.le_of_eq g3.symm)
  have K3 : Keep h0 h3 [] := K1.ext E3
  have Z3 : n0 ≤ h3.size := Nat.le_trans Z1 E3.1
  have hk3 : _ ≤ h3.size := Nat.le_trans hk1 E3.1
  obtain ⟨cl5, Ar5, q5, S5, Nn5, H5, G5⟩ := (id V3)
  have hin5 : ¬ ((0 : Int32) < 0 ∨ cl5.slots.size ≤ ((0 : Int32)).toNatClampNeg) := inb_of S5 ⟨by decide, by decide⟩
  obtain ⟨T5, h5, X5, e5, W5, st5⟩ := stC X3 hx hZ e3 Ar5 (j := (0 : Int32)) hin5 (g := (mkF m 30 #[vi (1 : Int32), vi p1, vi p2, vi p3] [(.int p1), z0, (.ref b3), (.ref b3), (.ref b1), (.ref b1)])) rfl rfl (hb hby d1_30)
  have Re6 := Re4.trans (CHr.wr W5 (Safe.exa hZ.alike AX3 (by decide) (by decide)) hCe4)
  have hCe6 := Re6.1
  have V5 : Arv Z h5 b3 k3 .char (1 : Int32) [(.int (nar .char p1))] z0 := Arv.set Ar5 q5 S5 Nn5 H5 G5 (fits_nar_char _) W5 0 rfl (Nat.le_of_ble_eq_true rfl)
  have Vn5 : Arv Z h5 b3 k3 .char (1 : Int32) [(.int p1)] z0 := by have q := V5; rw [(own_ne ub_p1)] at q; exact q
  have N5 := Fr.snoc X5 N0 g_b3
  have K5 : Keep h0 h5 [] := K3.wr W5 (Or.inr sz_b3)
  have Z5 : n0 ≤ h5.size := by rw [W5.size]; exact Z3
  have hk5 := own_szW W5 hk3
  have c8 := ((A1.ext E3).wr W5)
  have c9 := ((F1_value.ext E3).other W5 (Or.inl ne_b1_b3))
  have c10 := ((F1_coder.ext E3).other W5 (Or.inl ne_b1_b3))
  have c11 := (((uO.ext E1).ext E3).wr W5 g_b3)
  obtain ⟨_, _, ⟨T7, Lw7, kw7, nw7⟩, -, X7, ⟨Lc7, hQ7, lq7, yq7, zq7⟩, st7⟩ := X5.specialBack hx (y := M23) rfl hown (mvT hZ (wd hw 8 rfl)) (mvT hZ (wd hw 9 rfl)) (mvT hZ (wd hw 10 rfl)) (by decide) (StrChars.Road.backV (W := 1) hZ (fun d hd => hw d (own_w_words d hd)) (kI := 4) (wd hw 5 rfl) (cs := ([p1] : List Int32)) (bs := (([p1] : List Int32).map (fun c => c.toInt8.toInt32))) (n := 1) g_b1 Z5 c8 c9 c10 Vn5 (uS.ext c11.2) uP rfl rfl (by decide) (by decide) own_hp rfl (by decide) (by decide)) (g := (mkF m 31 #[vi (1 : Int32), vi p1, vi p2, vi p3] [(.ref b3), (.ref b1), (.ref b1)])) rfl (by rw [hml]; rfl) (Steps.refl _) (a := b1) (argsL := [(.ref b3)]) (rest := [(.ref b1)]) (lenOf pd_15 rfl) rfl (by show 2 * 0 + _ ≤ _; exact Nat.le_of_eq rfl) (hb hby d1_31) (fun _ _ => ⟨rfl, e5, (by decide : 2 + 1 ≤ _), (by decide : 5 + 1 ≤ _)⟩)
  dsimp only [Pt.U, Pt.locs, Pt.cells, Pt.slots] at X7 lq7 yq7 zq7 st7 hQ7
  have X7 := own_reb X7 lq7 yq7 zq7
  obtain ⟨rfl, Nq7, Kq7, fE7, fC7, t7, kt7, u17, u27, u37, fV7, fK7⟩ := hQ7
  have N7 := Fr.app N5 Nq7
  have ne_b1_t7 : b1 ≠ t7 := Nat.ne_of_lt (Nat.lt_of_lt_of_le c8.lt u27)
  have ne_b3_t7 : b3 ≠ t7 := Nat.ne_of_lt (Nat.lt_of_lt_of_le Vn5.lt u27)
  have sz_t7 : h0.size ≤ t7 := Nat.le_trans K5.1 u27
  have c12 := (Safe.wr W5 (Safe.exa hZ.alike AX3 (by decide) (by decide)) hCe4 (Safe.ext E3 hCe2 sf1))
  have Re13 := Re6.trans (CHr.keep Kq7 (allS c12 all0) hCe6)
  have hCe13 := Re13.1
  have sf7 := Safe.keep Kq7 (allS c12 all0) hCe6 (Safe.new u27)
  have K7 : Keep h0 T7.heap [] := K5.trans Kq7 (allS (Or.inr sz_b1) all0)
  have Z7 : n0 ≤ T7.heap.size := Nat.le_trans Z5 Kq7.1
  have hk7 : _ ≤ T7.heap.size := Nat.le_trans hk5 Kq7.1
  obtain ⟨fs, hr, hrun, hended, en1, en2, en3, en4⟩ := X7.leaveW hS0 (own_hk rfl hk7) (v := some (.ref b1)) (fun h => by rw [Bd.returns] at h; cases h)
  refine ⟨_, _, pre0 _ ?_, hrun, hended, _, _, rfl, ?_, own_chr (T := T7) hh rfl (Re13.trans (CHv.at X7 hZ (own_EW hw) hCe13)), en1, en2, en3, en4.mono (by decide) (by decide)⟩
  · show SS p e below s₁ (mkF m 0 #[vi (1 : Int32), vi p1, vi p2, vi p3] []) _
    refine XS.iloadN X0.here hx rfl (hb hby d1_0) rfl ?_
    show SS p e below s₁ (mkF m 1 #[vi (1 : Int32), vi p1, vi p2, vi p3] [(vI 1)]) _
    refine XS.ifYes X0.here hx rfl (pc0 := 1) (pc' := 15) rfl (hb hby d1_1) rfl ((if0 _ _).trans (feq (by decide : ¬ ((1 : Int32) = (0 : Int32)))).2) (by decide) (by decide) ?_
    refine XS.iloadN X0.here hx rfl (hb hby d1_15) rfl ?_
    refine XS.iconst X0.here hx rfl (hb hby d1_16) ?_
    show SS p e below s₁ (mkF m 17 #[vi (1 : Int32), vi p1, vi p2, vi p3] [(vI 1), (vI 1)]) _
    refine XS.icmpNo X0.here hx rfl (hb hby d1_17) rfl (teq (by decide : (1 : Int32) = (1 : Int32))).2 ?_
    refine st1 _ ?_
    refine XS.dup X1.here hx rfl (hb hby d1_23) rfl rfl ?_
    refine XS.iconst X1.here hx rfl (hb hby d1_24) ?_
    refine st3 _ ?_
    refine XS.dup X3.here hx rfl (hb hby d1_27) rfl rfl ?_
    refine XS.iconst X3.here hx rfl (hb hby d1_28) ?_
    refine XS.iloadN X3.here hx rfl (hb hby d1_29) rfl ?_
    refine st5 _ ?_
    show SS p e below T5 (mkF m 31 #[vi (1 : Int32), vi p1, vi p2, vi p3] [(.ref b3), (.ref b1), (.ref b1)]) _
    refine st7.trans ?_
    exact retOut X7 hx Bd.returns rfl (Or.inr (Or.inr (Or.inr (Or.inr ⟨rfl, rfl, rfl⟩)))) (hb hby d1_34) hr
  · show Q_rmR1 Z p1 p2 p3 zc h0 n0 _ T7.heap _
    exact ⟨b1, t7, kt7, rfl, N7, K7, sz_b1, fE7, fC7, fV7, fK7⟩
theorem ef_27 (m : MethodId) (x1 : Int32) (x2 : Int32) (x3 : Int32) : entryFrame m #[(vI 1), (.int x1), (.int x2), (.int x3)] 4 = mkF m 0 #[vi (1 : Int32), vi x1, vi x2, vi x3] [] := by first | (simp [entryFrame, mkF, argsToLocals, Value.category]; done) | rfl
theorem d5_166 : decode method_3_code 166 = .ok (.iload_n 0, 1) := by decide +kernel
theorem d5_167 : decode method_3_code 167 = .ok (.iconst 1, 1) := by decide +kernel
theorem d5_168 : decode method_3_code 168 = .ok (.if_icmp .ne 170, 3) := by decide +kernel
theorem d5_171 : decode method_3_code 171 = .ok (.new 7, 3) := by decide +kernel
theorem d5_174 : decode method_3_code 174 = .ok (.dup, 1) := by decide +kernel
theorem d5_175 : decode method_3_code 175 = .ok (.bipush 27, 2) := by decide +kernel
theorem d5_177 : decode method_3_code 177 = .ok (.newarray .char, 2) := by decide +kernel
theorem d5_179 : decode method_3_code 179 = .ok (.dup, 1) := by decide +kernel
theorem d5_180 : decode method_3_code 180 = .ok (.iconst 0, 1) := by decide +kernel
theorem d5_181 : decode method_3_code 181 = .ok (.bipush 73, 2) := by decide +kernel
theorem d5_183 : decode method_3_code 183 = .ok (.castore, 1) := by decide +kernel
theorem d5_184 : decode method_3_code 184 = .ok (.dup, 1) := by decide +kernel
theorem d5_185 : decode method_3_code 185 = .ok (.iconst 1, 1) := by decide +kernel
theorem d5_186 : decode method_3_code 186 = .ok (.bipush 110, 2) := by decide +kernel
theorem d5_188 : decode method_3_code 188 = .ok (.castore, 1) := by decide +kernel
theorem d5_189 : decode method_3_code 189 = .ok (.dup, 1) := by decide +kernel
theorem d5_190 : decode method_3_code 190 = .ok (.iconst 2, 1) := by decide +kernel
theorem d5_191 : decode method_3_code 191 = .ok (.bipush 115, 2) := by decide +kernel
theorem d5_193 : decode method_3_code 193 = .ok (.castore, 1) := by decide +kernel
theorem d5_194 : decode method_3_code 194 = .ok (.dup, 1) := by decide +kernel
theorem d5_195 : decode method_3_code 195 = .ok (.iconst 3, 1) := by decide +kernel
theorem d5_196 : decode method_3_code 196 = .ok (.bipush 117, 2) := by decide +kernel
theorem d5_198 : decode method_3_code 198 = .ok (.castore, 1) := by decide +kernel
theorem d5_199 : decode method_3_code 199 = .ok (.dup, 1) := by decide +kernel
theorem d5_200 : decode method_3_code 200 = .ok (.iconst 4, 1) := by decide +kernel
theorem d5_201 : decode method_3_code 201 = .ok (.bipush 102, 2) := by decide +kernel
theorem d5_203 : decode method_3_code 203 = .ok (.castore, 1) := by decide +kernel
theorem d5_204 : decode method_3_code 204 = .ok (.dup, 1) := by decide +kernel
theorem d5_205 : decode method_3_code 205 = .ok (.iconst 5, 1) := by decide +kernel
theorem d5_206 : decode method_3_code 206 = .ok (.bipush 102, 2) := by decide +kernel
theorem d5_208 : decode method_3_code 208 = .ok (.castore, 1) := by decide +kernel
theorem d5_209 : decode method_3_code 209 = .ok (.dup, 1) := by decide +kernel
theorem d5_210 : decode method_3_code 210 = .ok (.bipush 6, 2) := by decide +kernel
theorem d5_212 : decode method_3_code 212 = .ok (.bipush 105, 2) := by decide +kernel
theorem d5_214 : decode method_3_code 214 = .ok (.castore, 1) := by decide +kernel
theorem d5_215 : decode method_3_code 215 = .ok (.dup, 1) := by decide +kernel
theorem d5_216 : decode method_3_code 216 = .ok (.bipush 7, 2) := by decide +kernel
theorem d5_218 : decode method_3_code 218 = .ok (.bipush 99, 2) := by decide +kernel
theorem d5_220 : decode method_3_code 220 = .ok (.castore, 1) := by decide +kernel
theorem d5_221 : decode method_3_code 221 = .ok (.dup, 1) := by decide +kernel
theorem d5_222 : decode method_3_code 222 = .ok (.bipush 8, 2) := by decide +kernel
theorem d5_224 : decode method_3_code 224 = .ok (.bipush 105, 2) := by decide +kernel
theorem d5_226 : decode method_3_code 226 = .ok (.castore, 1) := by decide +kernel
theorem d5_227 : decode method_3_code 227 = .ok (.dup, 1) := by decide +kernel
theorem d5_228 : decode method_3_code 228 = .ok (.bipush 9, 2) := by decide +kernel
theorem d5_230 : decode method_3_code 230 = .ok (.bipush 101, 2) := by decide +kernel
theorem d5_232 : decode method_3_code 232 = .ok (.castore, 1) := by decide +kernel
theorem d5_233 : decode method_3_code 233 = .ok (.dup, 1) := by decide +kernel
theorem d5_234 : decode method_3_code 234 = .ok (.bipush 10, 2) := by decide +kernel
theorem d5_236 : decode method_3_code 236 = .ok (.bipush 110, 2) := by decide +kernel
theorem d5_238 : decode method_3_code 238 = .ok (.castore, 1) := by decide +kernel
theorem d5_239 : decode method_3_code 239 = .ok (.dup, 1) := by decide +kernel
theorem d5_240 : decode method_3_code 240 = .ok (.bipush 11, 2) := by decide +kernel
theorem d5_242 : decode method_3_code 242 = .ok (.bipush 116, 2) := by decide +kernel
theorem d5_244 : decode method_3_code 244 = .ok (.castore, 1) := by decide +kernel
theorem d5_245 : decode method_3_code 245 = .ok (.dup, 1) := by decide +kernel
theorem d5_246 : decode method_3_code 246 = .ok (.bipush 12, 2) := by decide +kernel
theorem d5_248 : decode method_3_code 248 = .ok (.bipush 32, 2) := by decide +kernel
theorem d5_250 : decode method_3_code 250 = .ok (.castore, 1) := by decide +kernel
theorem d5_251 : decode method_3_code 251 = .ok (.dup, 1) := by decide +kernel
theorem d5_252 : decode method_3_code 252 = .ok (.bipush 13, 2) := by decide +kernel
theorem d5_254 : decode method_3_code 254 = .ok (.bipush 112, 2) := by decide +kernel
theorem d5_256 : decode method_3_code 256 = .ok (.castore, 1) := by decide +kernel
theorem d5_257 : decode method_3_code 257 = .ok (.dup, 1) := by decide +kernel
theorem d5_258 : decode method_3_code 258 = .ok (.bipush 14, 2) := by decide +kernel
theorem d5_260 : decode method_3_code 260 = .ok (.bipush 101, 2) := by decide +kernel
theorem d5_262 : decode method_3_code 262 = .ok (.castore, 1) := by decide +kernel
theorem d5_263 : decode method_3_code 263 = .ok (.dup, 1) := by decide +kernel
theorem d5_264 : decode method_3_code 264 = .ok (.bipush 15, 2) := by decide +kernel
theorem d5_266 : decode method_3_code 266 = .ok (.bipush 114, 2) := by decide +kernel
theorem d5_268 : decode method_3_code 268 = .ok (.castore, 1) := by decide +kernel
theorem d5_269 : decode method_3_code 269 = .ok (.dup, 1) := by decide +kernel
theorem d5_270 : decode method_3_code 270 = .ok (.bipush 16, 2) := by decide +kernel
theorem d5_272 : decode method_3_code 272 = .ok (.bipush 109, 2) := by decide +kernel
theorem d5_274 : decode method_3_code 274 = .ok (.castore, 1) := by decide +kernel
theorem d5_275 : decode method_3_code 275 = .ok (.dup, 1) := by decide +kernel
theorem d5_276 : decode method_3_code 276 = .ok (.bipush 17, 2) := by decide +kernel
theorem d5_278 : decode method_3_code 278 = .ok (.bipush 105, 2) := by decide +kernel
theorem d5_280 : decode method_3_code 280 = .ok (.castore, 1) := by decide +kernel
theorem d5_281 : decode method_3_code 281 = .ok (.dup, 1) := by decide +kernel
theorem d5_282 : decode method_3_code 282 = .ok (.bipush 18, 2) := by decide +kernel
theorem d5_284 : decode method_3_code 284 = .ok (.bipush 115, 2) := by decide +kernel
theorem d5_286 : decode method_3_code 286 = .ok (.castore, 1) := by decide +kernel
theorem d5_287 : decode method_3_code 287 = .ok (.dup, 1) := by decide +kernel
theorem d5_288 : decode method_3_code 288 = .ok (.bipush 19, 2) := by decide +kernel
theorem d5_290 : decode method_3_code 290 = .ok (.bipush 115, 2) := by decide +kernel
theorem d5_292 : decode method_3_code 292 = .ok (.castore, 1) := by decide +kernel
theorem d5_293 : decode method_3_code 293 = .ok (.dup, 1) := by decide +kernel
theorem d5_294 : decode method_3_code 294 = .ok (.bipush 20, 2) := by decide +kernel
theorem d5_296 : decode method_3_code 296 = .ok (.bipush 105, 2) := by decide +kernel
theorem d5_298 : decode method_3_code 298 = .ok (.castore, 1) := by decide +kernel
theorem d5_299 : decode method_3_code 299 = .ok (.dup, 1) := by decide +kernel
theorem d5_300 : decode method_3_code 300 = .ok (.bipush 21, 2) := by decide +kernel
theorem d5_302 : decode method_3_code 302 = .ok (.bipush 111, 2) := by decide +kernel
theorem d5_304 : decode method_3_code 304 = .ok (.castore, 1) := by decide +kernel
theorem d5_305 : decode method_3_code 305 = .ok (.dup, 1) := by decide +kernel
theorem d5_306 : decode method_3_code 306 = .ok (.bipush 22, 2) := by decide +kernel
theorem d5_308 : decode method_3_code 308 = .ok (.bipush 110, 2) := by decide +kernel
theorem d5_310 : decode method_3_code 310 = .ok (.castore, 1) := by decide +kernel
theorem d5_311 : decode method_3_code 311 = .ok (.dup, 1) := by decide +kernel
theorem d5_312 : decode method_3_code 312 = .ok (.bipush 23, 2) := by decide +kernel
theorem d5_314 : decode method_3_code 314 = .ok (.bipush 115, 2) := by decide +kernel
theorem d5_316 : decode method_3_code 316 = .ok (.castore, 1) := by decide +kernel
theorem d5_317 : decode method_3_code 317 = .ok (.dup, 1) := by decide +kernel
theorem d5_318 : decode method_3_code 318 = .ok (.bipush 24, 2) := by decide +kernel
theorem d5_320 : decode method_3_code 320 = .ok (.bipush 58, 2) := by decide +kernel
theorem d5_322 : decode method_3_code 322 = .ok (.castore, 1) := by decide +kernel
theorem d5_323 : decode method_3_code 323 = .ok (.dup, 1) := by decide +kernel
theorem d5_324 : decode method_3_code 324 = .ok (.bipush 25, 2) := by decide +kernel
theorem d5_326 : decode method_3_code 326 = .ok (.bipush 32, 2) := by decide +kernel
theorem d5_328 : decode method_3_code 328 = .ok (.castore, 1) := by decide +kernel
theorem d5_329 : decode method_3_code 329 = .ok (.dup, 1) := by decide +kernel
theorem d5_330 : decode method_3_code 330 = .ok (.bipush 26, 2) := by decide +kernel
theorem d5_332 : decode method_3_code 332 = .ok (.iload_n 1, 1) := by decide +kernel
theorem d5_333 : decode method_3_code 333 = .ok (.castore, 1) := by decide +kernel
theorem d5_334 : decode method_3_code 334 = .ok (.invokespecial 9, 3) := by decide +kernel
theorem d5_337 : decode method_3_code 337 = .ok (.areturn, 1) := by decide +kernel
def Q_rmE1 (Z : State) (p1 : Int32) (p2 : Int32) (p3 : Int32) (zc : Int32) (h0 : Heap) (n0 : Nat) (v : Option Value) (h : Heap) (L : List Loc) : Prop := ∃ (nx : Addr), ∃ (nt : Addr), ∃ (nk : ClassId), (v = some (.ref nx) ∧ Fr n0 L ∧ Keep h0 h [] ∧ h0.size ≤ nx ∧ Exa Z h nx "java/lang/String" ∧ Fld Z h nx "java/lang/String" "coder" "B" z0 ∧ Fld Z h nx "java/lang/String" "value" "[B" (.ref nt) ∧ Arv Z h nt nk .byte (27 : Int32) ((([73, 110, 115, 117, 102, 102, 105, 99, 105, 101, 110, 116, 32, 112, 101, 114, 109, 105, 115, 115, 105, 111, 110, 115, 58, 32, p1] : List Int32).map (fun c => c.toInt8.toInt32)).map Value.int) z0)
set_option maxRecDepth 65536 in
set_option maxHeartbeats 40000000 in
theorem rmE1 (l : Launch) (Z : State) (a0 : Array Value) (hw : ∀ d ∈ tables_1, d.before a0 Z = true) (ws : List Jvm.Cond) (p1 : Int32) (p2 : Int32) (p3 : Int32) (zc : Int32) (h0 : Heap) (n0 : Nat) (Z0 : n0 ≤ h0.size) (uO : Old Z n0 h0) (uS : Sta Z Z.heap "java/lang/String" "COMPACT_STRINGS" "Z" (.int zc)) (uP : ¬ zc = 0) (ub_p1 : ¬ p1 < 0 ∧ ¬ (255 : Int32) < p1) (ub_p2 : ¬ p2 < 0 ∧ ¬ (255 : Int32) < p2) (ub_p3 : ¬ p3 < 0 ∧ ¬ (255 : Int32) < p3) :
    MetFree l M25 (head1 (Jvm.Cond.code M25 method_3_code 4 (some (.object "java/lang/String")) :: ws) ({ frames := 4, cells := 3, slots := 58, locals := 66 } : Room)) (fun a U => a = #[(vI 1), (.int p1), (.int p2), (.int p3)] ∧ Z.Warmed39 U.vm ∧ U.heap = h0 ∧ CHv Z own_EL U.vm h0) (fun _ _ _ _ _ => True) (fun _ U o U' => ∃ v L, o = .returned v ∧ Q_rmE1 Z p1 p2 p3 zc h0 n0 v U'.heap L ∧ CHr Z own_EL U.vm U.heap U'.vm U'.heap ∧ ReturnedEndW U o U' L ({ frames := 4, cells := 3, slots := 58, locals := 66 } : Room).cells ({ frames := 4, cells := 3, slots := 58, locals := 66 } : Room).slots) := by
  refine MetFree.of_bodySF (plainFor_of_name pn_4) hisR ?_
  intro p e s m args below meth c s₁ Bd hml0 hP hK
  obtain ⟨rfl, hZ, hh, hC0⟩ := hP
  have hx := Bd.exec
  have hby := Bd.bytes
  have hml : c.maxLocals = 4 := hml0
  have hown : s.vm.findClass "com/example/plain_hub/plainhub/HubExceptionForbiddenPinLaw" = some m.cls := findClass_of_methodNamed Bd.named
  have hnm := (name_of_methodNamed Bd.named Bd.method).1
  have X0 : Stand p l e ({ frames := 4, cells := 3, slots := 58, locals := 66 } : Room) (s.setVm s.vm) m #[(vI 1), (.int p1), (.int p2), (.int p3)] below meth c s₁ [] 0 0 := Stand.of_body Bd
  have e0 : s₁.heap = h0 := by rw [← hh, Bd.state]; rfl
  have N0 := Fr.nil n0
  have pre0 : ∀ t, Steps p.tables e below (s₁.setTop (mkF m 0 #[vi (1 : Int32), vi p1, vi p2, vi p3] [])) t → Steps p.tables e below (s₁.setTop (entryFrame m #[(vI 1), (.int p1), (.int p2), (.int p3)] 4)) t := fun t k => castTop (ef_27 m p1 p2 p3) k
  have hS0 : s.Since s.vm 0 := (State.WarmedH.refl s).since _
  have hk0 : 0 ≤ h0.size := Nat.zero_le _
  have R0 := CHr.refl hC0
  have own_hp : ∀ c ∈ ([73, 110, 115, 117, 102, 102, 105, 99, 105, 101, 110, 116, 32, 112, 101, 114, 109, 105, 115, 115, 105, 111, 110, 115, 58, 32, p1] : List Int32), ¬ c < 0 ∧ ¬ (255 : Int32) < c := by
    intro c hc
    simp only [List.mem_cons, List.not_mem_nil, or_false] at hc
    rcases hc with rfl | rfl | rfl | rfl | rfl | rfl | rfl | rfl | rfl | rfl | rfl | rfl | rfl | rfl | rfl | rfl | rfl | rfl | rfl | rfl | rfl | rfl | rfl | rfl | rfl | rfl | rfl
    · exact ⟨by decide, by decide⟩
    · exact ⟨by decide, by decide⟩
    · exact ⟨by decide, by decide⟩
    · exact ⟨by decide, by decide⟩
    · exact ⟨by decide, by decide⟩
    · exact ⟨by decide, by decide⟩
    · exact ⟨by decide, by decide⟩
    · exact ⟨by decide, by decide⟩
    · exact ⟨by decide, by decide⟩
    · exact ⟨by decide, by decide⟩
    · exact ⟨by decide, by decide⟩
    · exact ⟨by decide, by decide⟩
    · exact ⟨by decide, by decide⟩
    · exact ⟨by decide, by decide⟩
    · exact ⟨by decide, by decide⟩
    · exact ⟨by decide, by decide⟩
    · exact ⟨by decide, by decide⟩
    · exact ⟨by decide, by decide⟩
    · exact ⟨by decide, by decide⟩
    · exact ⟨by decide, by decide⟩
    · exact ⟨by decide, by decide⟩
    · exact ⟨by decide, by decide⟩
    · exact ⟨by decide, by decide⟩
    · exact ⟨by decide, by decide⟩
    · exact ⟨by decide, by decide⟩
    · exact ⟨by decide, by decide⟩
    · exact ub_p1
  obtain ⟨T1, h1, X1, e1, E1, A1, D1, Un1, st1⟩ := newO X0 hx hZ hown (wd hw 4 rfl) (wd hw 5 rfl) (wd hw 6 rfl) e0 (g := (mkF m 171 #[vi (1 : Int32), vi p1, vi p2, vi p3] [])) rfl (hb hby d5_171) (by decide) (by decide)
  obtain ⟨b1, g1⟩ : ∃ z, z = h0.size := ⟨_, rfl⟩
  rw [← g1] at A1 D1 Un1 st1
  have Re2 := R0.trans (CHr.ext E1 hC0)
  have hCe2 := Re2.1
  have sf1 := Safe.ext E1 hC0 (Safe.new (Nat.le_of_eq g1.symm))
  have F1_value : Fld Z h1 b1 "java/lang/String" "value" "[B" .null := D1 (Or.inr (wd hw 20 rfl)) (ty := (.array .byte)) (by decide)
  have F1_coder : Fld Z h1 b1 "java/lang/String" "coder" "B" z0 := D1 (Or.inr (wd hw 21 rfl)) (ty := .byte) (by decide)
  have g_b1 : n0 ≤ b1 := Nat.le_trans Z0 (Nat.le_of_eq g1.symm)
  have sz_b1 : h0.size ≤ b1 := Nat.le_trans (Keep.refl h0 []).1 (Nat.le_of_eq g1.symm)
  have K1 : Keep h0 h1 [] := (Keep.refl h0 []).ext E1
  have Z1 : n0 ≤ h1.size := Nat.le_trans Z0 E1.1
  have hk1 : _ ≤ h1.size := Nat.le_trans hk0 E1.1
  obtain ⟨T3, h3, k3, X3, e3, E3, A3, AX3, st3⟩ := newPE X1 hx hZ (wd hw 7 rfl) e1 (g := (mkF m 177 #[vi (1 : Int32), vi p1, vi p2, vi p3] [(vI 27), (.ref b1), (.ref b1)])) rfl (hb hby d5_177) rfl (by decide) (cap := 27) (by decide) (by decide) (by decide) (by decide) (ad := "[C") (by decide)
  obtain ⟨b3, g3⟩ : ∃ z, z = h1.size := ⟨_, rfl⟩
  rw [← g3] at A3 AX3 st3
  have ne_b1_b3 : b1 ≠ b3 := Nat.ne_of_lt (Nat.lt_of_lt_of_le A1.lt (Nat.le_of_eq g3.symm))
  have Re4 := Re2.trans (CHr.ext E3 hCe2)
  have hCe4 := Re4.1
  have V3 : Arv Z h3 b3 k3 .char (27 : Int32) [z0, z0, z0, z0, z0, z0, z0, z0, z0, z0, z0, z0, z0, z0, z0, z0, z0, z0, z0, z0, z0, z0, z0, z0, z0, z0, z0] z0 := (Arv.new A3 (by decide)).pad (pad_rep [] z0 27)
  have g_b3 : n0 ≤ b3 := Nat.le_trans Z1 (Nat.le_of_eq g3.symm)
  have sz_b3 : h0.size ≤ b3 := Nat.le_trans K1.1 (Nat.le_of_eq g3.symm)
  have K3 : Keep h0 h3 [] := K1.ext E3
  have Z3 : n0 ≤ h3.size := Nat.le_trans Z1 E3.1
  have hk3 : _ ≤ h3.size := Nat.le_trans hk1 E3.1
  obtain ⟨cl5, Ar5, q5, S5, Nn5, H5, G5⟩ := (id V3)
  have hin5 : ¬ ((0 : Int32) < 0 ∨ cl5.slots.size ≤ ((0 : Int32)).toNatClampNeg) := inb_of S5 ⟨by decide, by decide⟩
  obtain ⟨T5, h5, X5, e5, W5, st5⟩ := stC X3 hx hZ e3 Ar5 (j := (0 : Int32)) hin5 (g := (mkF m 183 #[vi (1 : Int32), vi p1, vi p2, vi p3] [(vI 73), z0, (.ref b3), (.ref b3), (.ref b1), (.ref b1)])) rfl rfl (hb hby d5_183)
  have Re6 := Re4.trans (CHr.wr W5 (Safe.exa hZ.alike AX3 (by decide) (by decide)) hCe4)
  have hCe6 := Re6.1
  have V5 := Arv.set Ar5 q5 S5 Nn5 H5 G5 (fits_nar_char _) W5 0 rfl (Nat.le_of_ble_eq_true rfl)
  have N5 := Fr.snoc X5 N0 g_b3
  have K5 : Keep h0 h5 [] := K3.wr W5 (Or.inr sz_b3)
  have Z5 : n0 ≤ h5.size := by rw [W5.size]; exact Z3
  have hk5 := own_szW W5 hk3
  obtain ⟨cl7, Ar7, q7, S7, Nn7, H7, G7⟩ := (id V5)
  have hin7 : ¬ ((1 : Int32) < 0 ∨ cl7.slots.size ≤ ((1 : Int32)).toNatClampNeg) := inb_of S7 ⟨by decide, by decide⟩
  obtain ⟨T7, h7, X7, e7, W7, st7⟩ := stC X5 hx hZ e5 Ar7 (j := (1 : Int32)) hin7 (g := (mkF m 188 #[vi (1 : Int32), vi p1, vi p2, vi p3] [(vI 110), (vI 1), (.ref b3), (.ref b3), (.ref b1), (.ref b1)])) rfl rfl (hb hby d5_188)
  have c8 := (AX3.wr W5)
  have Re9 := Re6.trans (CHr.wr W7 (Safe.exa hZ.alike c8 (by decide) (by decide)) hCe6)
  have hCe9 := Re9.1
  have V7 := Arv.set Ar7 q7 S7 Nn7 H7 G7 (fits_nar_char _) W7 1 rfl (Nat.le_of_ble_eq_true rfl)
  have N7 := Fr.snoc X7 N5 g_b3
  have K7 : Keep h0 h7 [] := K5.wr W7 (Or.inr sz_b3)
  have Z7 : n0 ≤ h7.size := by rw [W7.size]; exact Z5
  have hk7 := own_szW W7 hk5
  obtain ⟨cl10, Ar10, q10, S10, Nn10, H10, G10⟩ := (id V7)
  have hin10 : ¬ ((2 : Int32) < 0 ∨ cl10.slots.size ≤ ((2 : Int32)).toNatClampNeg) := inb_of S10 ⟨by decide, by decide⟩
  obtain ⟨T10, h10, X10, e10, W10, st10⟩ := stC X7 hx hZ e7 Ar10 (j := (2 : Int32)) hin10 (g := (mkF m 193 #[vi (1 : Int32), vi p1, vi p2, vi p3] [(vI 115), (vI 2), (.ref b3), (.ref b3), (.ref b1), (.ref b1)])) rfl rfl (hb hby d5_193)
  have c11 := (c8.wr W7)
  have Re12 := Re9.trans (CHr.wr W10 (Safe.exa hZ.alike c11 (by decide) (by decide)) hCe9)
  have hCe12 := Re12.1
  have V10 := Arv.set Ar10 q10 S10 Nn10 H10 G10 (fits_nar_char _) W10 2 rfl (Nat.le_of_ble_eq_true rfl)
  have N10 := Fr.snoc X10 N7 g_b3
  have K10 : Keep h0 h10 [] := K7.wr W10 (Or.inr sz_b3)
  have Z10 : n0 ≤ h10.size := by rw [W10.size]; exact Z7
  have hk10 := own_szW W10 hk7
  obtain ⟨cl13, Ar13, q13, S13, Nn13, H13, G13⟩ := (id V10)
  have hin13 : ¬ ((3 : Int32) < 0 ∨ cl13.slots.size ≤ ((3 : Int32)).toNatClampNeg) := inb_of S13 ⟨by decide, by decide⟩
  obtain ⟨T13, h13, X13, e13, W13, st13⟩ := stC X10 hx hZ e10 Ar13 (j := (3 : Int32)) hin13 (g := (mkF m 198 #[vi (1 : Int32), vi p1, vi p2, vi p3] [(vI 117), (vI 3), (.ref b3), (.ref b3), (.ref b1), (.ref b1)])) rfl rfl (hb hby d5_198)
  have c14 := (c11.wr W10)
  have Re15 := Re12.trans (CHr.wr W13 (Safe.exa hZ.alike c14 (by decide) (by decide)) hCe12)
  have hCe15 := Re15.1
  have V13 := Arv.set Ar13 q13 S13 Nn13 H13 G13 (fits_nar_char _) W13 3 rfl (Nat.le_of_ble_eq_true rfl)
  have N13 := Fr.snoc X13 N10 g_b3
  have K13 : Keep h0 h13 [] := K10.wr W13 (Or.inr sz_b3)
  have Z13 : n0 ≤ h13.size := by rw [W13.size]; exact Z10
  have hk13 := own_szW W13 hk10
  obtain ⟨cl16, Ar16, q16, S16, Nn16, H16, G16⟩ := (id V13)
  have hin16 : ¬ ((4 : Int32) < 0 ∨ cl16.slots.size ≤ ((4 : Int32)).toNatClampNeg) := inb_of S16 ⟨by decide, by decide⟩
  obtain ⟨T16, h16, X16, e16, W16, st16⟩ := stC X13 hx hZ e13 Ar16 (j := (4 : Int32)) hin16 (g := (mkF m 203 #[vi (1 : Int32), vi p1, vi p2, vi p3] [(vI 102), (vI 4), (.ref b3), (.ref b3), (.ref b1), (.ref b1)])) rfl rfl (hb hby d5_203)
  have c17 := (c14.wr W13)
  have Re18 := Re15.trans (CHr.wr W16 (Safe.exa hZ.alike c17 (by decide) (by decide)) hCe15)
  have hCe18 := Re18.1
  have V16 := Arv.set Ar16 q16 S16 Nn16 H16 G16 (fits_nar_char _) W16 4 rfl (Nat.le_of_ble_eq_true rfl)
  have N16 := Fr.snoc X16 N13 g_b3
  have K16 : Keep h0 h16 [] := K13.wr W16 (Or.inr sz_b3)
  have Z16 : n0 ≤ h16.size := by rw [W16.size]; exact Z13
  have hk16 := own_szW W16 hk13
  obtain ⟨cl19, Ar19, q19, S19, Nn19, H19, G19⟩ := (id V16)
  have hin19 : ¬ ((5 : Int32) < 0 ∨ cl19.slots.size ≤ ((5 : Int32)).toNatClampNeg) := inb_of S19 ⟨by decide, by decide⟩
  obtain ⟨T19, h19, X19, e19, W19, st19⟩ := stC X16 hx hZ e16 Ar19 (j := (5 : Int32)) hin19 (g := (mkF m 208 #[vi (1 : Int32), vi p1, vi p2, vi p3] [(vI 102), (vI 5), (.ref b3), (.ref b3), (.ref b1), (.ref b1)])) rfl rfl (hb hby d5_208)
  have c20 := (c17.wr W16)
  have Re21 := Re18.trans (CHr.wr W19 (Safe.exa hZ.alike c20 (by decide) (by decide)) hCe18)
  have hCe21 := Re21.1
  have V19 := Arv.set Ar19 q19 S19 Nn19 H19 G19 (fits_nar_char _) W19 5 rfl (Nat.le_of_ble_eq_true rfl)
  have N19 := Fr.snoc X19 N16 g_b3
  have K19 : Keep h0 h19 [] := K16.wr W19 (Or.inr sz_b3)
  have Z19 : n0 ≤ h19.size := by rw [W19.size]; exact Z16
  have hk19 := own_szW W19 hk16
  obtain ⟨cl22, Ar22, q22, S22, Nn22, H22, G22⟩ := (id V19)
  have hin22 : ¬ ((6 : Int32) < 0 ∨ cl22.slots.size ≤ ((6 : Int32)).toNatClampNeg) := inb_of S22 ⟨by decide, by decide⟩
  obtain ⟨T22, h22, X22, e22, W22, st22⟩ := stC X19 hx hZ e19 Ar22 (j := (6 : Int32)) hin22 (g := (mkF m 214 #[vi (1 : Int32), vi p1, vi p2, vi p3] [(vI 105), (vI 6), (.ref b3), (.ref b3), (.ref b1), (.ref b1)])) rfl rfl (hb hby d5_214)
  have c23 := (c20.wr W19)
  have Re24 := Re21.trans (CHr.wr W22 (Safe.exa hZ.alike c23 (by decide) (by decide)) hCe21)
  have hCe24 := Re24.1
  have V22 := Arv.set Ar22 q22 S22 Nn22 H22 G22 (fits_nar_char _) W22 6 rfl (Nat.le_of_ble_eq_true rfl)
  have N22 := Fr.snoc X22 N19 g_b3
  have K22 : Keep h0 h22 [] := K19.wr W22 (Or.inr sz_b3)
  have Z22 : n0 ≤ h22.size := by rw [W22.size]; exact Z19
  have hk22 := own_szW W22 hk19
  obtain ⟨cl25, Ar25, q25, S25, Nn25, H25, G25⟩ := (id V22)
  have hin25 : ¬ ((7 : Int32) < 0 ∨ cl25.slots.size ≤ ((7 : Int32)).toNatClampNeg) := inb_of S25 ⟨by decide, by decide⟩
  obtain ⟨T25, h25, X25, e25, W25, st25⟩ := stC X22 hx hZ e22 Ar25 (j := (7 : Int32)) hin25 (g := (mkF m 220 #[vi (1 : Int32), vi p1, vi p2, vi p3] [(vI 99), (vI 7), (.ref b3), (.ref b3), (.ref b1), (.ref b1)])) rfl rfl (hb hby d5_220)
  have c26 := (c23.wr W22)
  have Re27 := Re24.trans (CHr.wr W25 (Safe.exa hZ.alike c26 (by decide) (by decide)) hCe24)
  have hCe27 := Re27.1
  have V25 := Arv.set Ar25 q25 S25 Nn25 H25 G25 (fits_nar_char _) W25 7 rfl (Nat.le_of_ble_eq_true rfl)
  have N25 := Fr.snoc X25 N22 g_b3
  have K25 : Keep h0 h25 [] := K22.wr W25 (Or.inr sz_b3)
  have Z25 : n0 ≤ h25.size := by rw [W25.size]; exact Z22
  have hk25 := own_szW W25 hk22
  obtain ⟨cl28, Ar28, q28, S28, Nn28, H28, G28⟩ := (id V25)
  have hin28 : ¬ ((8 : Int32) < 0 ∨ cl28.slots.size ≤ ((8 : Int32)).toNatClampNeg) := inb_of S28 ⟨by decide, by decide⟩
  obtain ⟨T28, h28, X28, e28, W28, st28⟩ := stC X25 hx hZ e25 Ar28 (j := (8 : Int32)) hin28 (g := (mkF m 226 #[vi (1 : Int32), vi p1, vi p2, vi p3] [(vI 105), (vI 8), (.ref b3), (.ref b3), (.ref b1), (.ref b1)])) rfl rfl (hb hby d5_226)
  have c29 := (c26.wr W25)
  have Re30 := Re27.trans (CHr.wr W28 (Safe.exa hZ.alike c29 (by decide) (by decide)) hCe27)
  have hCe30 := Re30.1
  have V28 := Arv.set Ar28 q28 S28 Nn28 H28 G28 (fits_nar_char _) W28 8 rfl (Nat.le_of_ble_eq_true rfl)
  have N28 := Fr.snoc X28 N25 g_b3
  have K28 : Keep h0 h28 [] := K25.wr W28 (Or.inr sz_b3)
  have Z28 : n0 ≤ h28.size := by rw [W28.size]; exact Z25
  have hk28 := own_szW W28 hk25
  obtain ⟨cl31, Ar31, q31, S31, Nn31, H31, G31⟩ := (id V28)
  have hin31 : ¬ ((9 : Int32) < 0 ∨ cl31.slots.size ≤ ((9 : Int32)).toNatClampNeg) := inb_of S31 ⟨by decide, by decide⟩
  obtain ⟨T31, h31, X31, e31, W31, st31⟩ := stC X28 hx hZ e28 Ar31 (j := (9 : Int32)) hin31 (g := (mkF m 232 #[vi (1 : Int32), vi p1, vi p2, vi p3] [(vI 101), (vI 9), (.ref b3), (.ref b3), (.ref b1), (.ref b1)])) rfl rfl (hb hby d5_232)
  have c32 := (c29.wr W28)
  have Re33 := Re30.trans (CHr.wr W31 (Safe.exa hZ.alike c32 (by decide) (by decide)) hCe30)
  have hCe33 := Re33.1
  have V31 := Arv.set Ar31 q31 S31 Nn31 H31 G31 (fits_nar_char _) W31 9 rfl (Nat.le_of_ble_eq_true rfl)
  have N31 := Fr.snoc X31 N28 g_b3
  have K31 : Keep h0 h31 [] := K28.wr W31 (Or.inr sz_b3)
  have Z31 : n0 ≤ h31.size := by rw [W31.size]; exact Z28
  have hk31 := own_szW W31 hk28
  obtain ⟨cl34, Ar34, q34, S34, Nn34, H34, G34⟩ := (id V31)
  have hin34 : ¬ ((10 : Int32) < 0 ∨ cl34.slots.size ≤ ((10 : Int32)).toNatClampNeg) := inb_of S34 ⟨by decide, by decide⟩
  obtain ⟨T34, h34, X34, e34, W34, st34⟩ := stC X31 hx hZ e31 Ar34 (j := (10 : Int32)) hin34 (g := (mkF m 238 #[vi (1 : Int32), vi p1, vi p2, vi p3] [(vI 110), (vI 10), (.ref b3), (.ref b3), (.ref b1), (.ref b1)])) rfl rfl (hb hby d5_238)
  have c35 := (c32.wr W31)
  have Re36 := Re33.trans (CHr.wr W34 (Safe.exa hZ.alike c35 (by decide) (by decide)) hCe33)
  have hCe36 := Re36.1
  have V34 := Arv.set Ar34 q34 S34 Nn34 H34 G34 (fits_nar_char _) W34 10 rfl (Nat.le_of_ble_eq_true rfl)
  have N34 := Fr.snoc X34 N31 g_b3
  have K34 : Keep h0 h34 [] := K31.wr W34 (Or.inr sz_b3)
  have Z34 : n0 ≤ h34.size := by rw [W34.size]; exact Z31
  have hk34 := own_szW W34 hk31
  obtain ⟨cl37, Ar37, q37, S37, Nn37, H37, G37⟩ := (id V34)
  have hin37 : ¬ ((11 : Int32) < 0 ∨ cl37.slots.size ≤ ((11 : Int32)).toNatClampNeg) := inb_of S37 ⟨by decide, by decide⟩
  obtain ⟨T37, h37, X37, e37, W37, st37⟩ := stC X34 hx hZ e34 Ar37 (j := (11 : Int32)) hin37 (g := (mkF m 244 #[vi (1 : Int32), vi p1, vi p2, vi p3] [(vI 116), (vI 11), (.ref b3), (.ref b3), (.ref b1), (.ref b1)])) rfl rfl (hb hby d5_244)
  have c38 := (c35.wr W34)
  have Re39 := Re36.trans (CHr.wr W37 (Safe.exa hZ.alike c38 (by decide) (by decide)) hCe36)
  have hCe39 := Re39.1
  have V37 := Arv.set Ar37 q37 S37 Nn37 H37 G37 (fits_nar_char _) W37 11 rfl (Nat.le_of_ble_eq_true rfl)
  have N37 := Fr.snoc X37 N34 g_b3
  have K37 : Keep h0 h37 [] := K34.wr W37 (Or.inr sz_b3)
  have Z37 : n0 ≤ h37.size := by rw [W37.size]; exact Z34
  have hk37 := own_szW W37 hk34
  obtain ⟨cl40, Ar40, q40, S40, Nn40, H40, G40⟩ := (id V37)
  have hin40 : ¬ ((12 : Int32) < 0 ∨ cl40.slots.size ≤ ((12 : Int32)).toNatClampNeg) := inb_of S40 ⟨by decide, by decide⟩
  obtain ⟨T40, h40, X40, e40, W40, st40⟩ := stC X37 hx hZ e37 Ar40 (j := (12 : Int32)) hin40 (g := (mkF m 250 #[vi (1 : Int32), vi p1, vi p2, vi p3] [(vI 32), (vI 12), (.ref b3), (.ref b3), (.ref b1), (.ref b1)])) rfl rfl (hb hby d5_250)
  have c41 := (c38.wr W37)
  have Re42 := Re39.trans (CHr.wr W40 (Safe.exa hZ.alike c41 (by decide) (by decide)) hCe39)
  have hCe42 := Re42.1
  have V40 := Arv.set Ar40 q40 S40 Nn40 H40 G40 (fits_nar_char _) W40 12 rfl (Nat.le_of_ble_eq_true rfl)
  have N40 := Fr.snoc X40 N37 g_b3
  have K40 : Keep h0 h40 [] := K37.wr W40 (Or.inr sz_b3)
  have Z40 : n0 ≤ h40.size := by rw [W40.size]; exact Z37
  have hk40 := own_szW W40 hk37
  obtain ⟨cl43, Ar43, q43, S43, Nn43, H43, G43⟩ := (id V40)
  have hin43 : ¬ ((13 : Int32) < 0 ∨ cl43.slots.size ≤ ((13 : Int32)).toNatClampNeg) := inb_of S43 ⟨by decide, by decide⟩
  obtain ⟨T43, h43, X43, e43, W43, st43⟩ := stC X40 hx hZ e40 Ar43 (j := (13 : Int32)) hin43 (g := (mkF m 256 #[vi (1 : Int32), vi p1, vi p2, vi p3] [(vI 112), (vI 13), (.ref b3), (.ref b3), (.ref b1), (.ref b1)])) rfl rfl (hb hby d5_256)
  have c44 := (c41.wr W40)
  have Re45 := Re42.trans (CHr.wr W43 (Safe.exa hZ.alike c44 (by decide) (by decide)) hCe42)
  have hCe45 := Re45.1
  have V43 := Arv.set Ar43 q43 S43 Nn43 H43 G43 (fits_nar_char _) W43 13 rfl (Nat.le_of_ble_eq_true rfl)
  have N43 := Fr.snoc X43 N40 g_b3
  have K43 : Keep h0 h43 [] := K40.wr W43 (Or.inr sz_b3)
  have Z43 : n0 ≤ h43.size := by rw [W43.size]; exact Z40
  have hk43 := own_szW W43 hk40
  obtain ⟨cl46, Ar46, q46, S46, Nn46, H46, G46⟩ := (id V43)
  have hin46 : ¬ ((14 : Int32) < 0 ∨ cl46.slots.size ≤ ((14 : Int32)).toNatClampNeg) := inb_of S46 ⟨by decide, by decide⟩
  obtain ⟨T46, h46, X46, e46, W46, st46⟩ := stC X43 hx hZ e43 Ar46 (j := (14 : Int32)) hin46 (g := (mkF m 262 #[vi (1 : Int32), vi p1, vi p2, vi p3] [(vI 101), (vI 14), (.ref b3), (.ref b3), (.ref b1), (.ref b1)])) rfl rfl (hb hby d5_262)
  have c47 := (c44.wr W43)
  have Re48 := Re45.trans (CHr.wr W46 (Safe.exa hZ.alike c47 (by decide) (by decide)) hCe45)
  have hCe48 := Re48.1
  have V46 := Arv.set Ar46 q46 S46 Nn46 H46 G46 (fits_nar_char _) W46 14 rfl (Nat.le_of_ble_eq_true rfl)
  have N46 := Fr.snoc X46 N43 g_b3
  have K46 : Keep h0 h46 [] := K43.wr W46 (Or.inr sz_b3)
  have Z46 : n0 ≤ h46.size := by rw [W46.size]; exact Z43
  have hk46 := own_szW W46 hk43
  obtain ⟨cl49, Ar49, q49, S49, Nn49, H49, G49⟩ := (id V46)
  have hin49 : ¬ ((15 : Int32) < 0 ∨ cl49.slots.size ≤ ((15 : Int32)).toNatClampNeg) := inb_of S49 ⟨by decide, by decide⟩
  obtain ⟨T49, h49, X49, e49, W49, st49⟩ := stC X46 hx hZ e46 Ar49 (j := (15 : Int32)) hin49 (g := (mkF m 268 #[vi (1 : Int32), vi p1, vi p2, vi p3] [(vI 114), (vI 15), (.ref b3), (.ref b3), (.ref b1), (.ref b1)])) rfl rfl (hb hby d5_268)
  have c50 := (c47.wr W46)
  have Re51 := Re48.trans (CHr.wr W49 (Safe.exa hZ.alike c50 (by decide) (by decide)) hCe48)
  have hCe51 := Re51.1
  have V49 := Arv.set Ar49 q49 S49 Nn49 H49 G49 (fits_nar_char _) W49 15 rfl (Nat.le_of_ble_eq_true rfl)
  have N49 := Fr.snoc X49 N46 g_b3
  have K49 : Keep h0 h49 [] := K46.wr W49 (Or.inr sz_b3)
  have Z49 : n0 ≤ h49.size := by rw [W49.size]; exact Z46
  have hk49 := own_szW W49 hk46
  obtain ⟨cl52, Ar52, q52, S52, Nn52, H52, G52⟩ := (id V49)
  have hin52 : ¬ ((16 : Int32) < 0 ∨ cl52.slots.size ≤ ((16 : Int32)).toNatClampNeg) := inb_of S52 ⟨by decide, by decide⟩
  obtain ⟨T52, h52, X52, e52, W52, st52⟩ := stC X49 hx hZ e49 Ar52 (j := (16 : Int32)) hin52 (g := (mkF m 274 #[vi (1 : Int32), vi p1, vi p2, vi p3] [(vI 109), (vI 16), (.ref b3), (.ref b3), (.ref b1), (.ref b1)])) rfl rfl (hb hby d5_274)
  have c53 := (c50.wr W49)
  have Re54 := Re51.trans (CHr.wr W52 (Safe.exa hZ.alike c53 (by decide) (by decide)) hCe51)
  have hCe54 := Re54.1
  have V52 := Arv.set Ar52 q52 S52 Nn52 H52 G52 (fits_nar_char _) W52 16 rfl (Nat.le_of_ble_eq_true rfl)
  have N52 := Fr.snoc X52 N49 g_b3
  have K52 : Keep h0 h52 [] := K49.wr W52 (Or.inr sz_b3)
  have Z52 : n0 ≤ h52.size := by rw [W52.size]; exact Z49
  have hk52 := own_szW W52 hk49
  obtain ⟨cl55, Ar55, q55, S55, Nn55, H55, G55⟩ := (id V52)
  have hin55 : ¬ ((17 : Int32) < 0 ∨ cl55.slots.size ≤ ((17 : Int32)).toNatClampNeg) := inb_of S55 ⟨by decide, by decide⟩
  obtain ⟨T55, h55, X55, e55, W55, st55⟩ := stC X52 hx hZ e52 Ar55 (j := (17 : Int32)) hin55 (g := (mkF m 280 #[vi (1 : Int32), vi p1, vi p2, vi p3] [(vI 105), (vI 17), (.ref b3), (.ref b3), (.ref b1), (.ref b1)])) rfl rfl (hb hby d5_280)
  have c56 := (c53.wr W52)
  have Re57 := Re54.trans (CHr.wr W55 (Safe.exa hZ.alike c56 (by decide) (by decide)) hCe54)
  have hCe57 := Re57.1
  have V55 := Arv.set Ar55 q55 S55 Nn55 H55 G55 (fits_nar_char _) W55 17 rfl (Nat.le_of_ble_eq_true rfl)
  have N55 := Fr.snoc X55 N52 g_b3
  have K55 : Keep h0 h55 [] := K52.wr W55 (Or.inr sz_b3)
  have Z55 : n0 ≤ h55.size := by rw [W55.size]; exact Z52
  have hk55 := own_szW W55 hk52
  obtain ⟨cl58, Ar58, q58, S58, Nn58, H58, G58⟩ := (id V55)
  have hin58 : ¬ ((18 : Int32) < 0 ∨ cl58.slots.size ≤ ((18 : Int32)).toNatClampNeg) := inb_of S58 ⟨by decide, by decide⟩
  obtain ⟨T58, h58, X58, e58, W58, st58⟩ := stC X55 hx hZ e55 Ar58 (j := (18 : Int32)) hin58 (g := (mkF m 286 #[vi (1 : Int32), vi p1, vi p2, vi p3] [(vI 115), (vI 18), (.ref b3), (.ref b3), (.ref b1), (.ref b1)])) rfl rfl (hb hby d5_286)
  have c59 := (c56.wr W55)
  have Re60 := Re57.trans (CHr.wr W58 (Safe.exa hZ.alike c59 (by decide) (by decide)) hCe57)
  have hCe60 := Re60.1
  have V58 := Arv.set Ar58 q58 S58 Nn58 H58 G58 (fits_nar_char _) W58 18 rfl (Nat.le_of_ble_eq_true rfl)
  have N58 := Fr.snoc X58 N55 g_b3
  have K58 : Keep h0 h58 [] := K55.wr W58 (Or.inr sz_b3)
  have Z58 : n0 ≤ h58.size := by rw [W58.size]; exact Z55
  have hk58 := own_szW W58 hk55
  obtain ⟨cl61, Ar61, q61, S61, Nn61, H61, G61⟩ := (id V58)
  have hin61 : ¬ ((19 : Int32) < 0 ∨ cl61.slots.size ≤ ((19 : Int32)).toNatClampNeg) := inb_of S61 ⟨by decide, by decide⟩
  obtain ⟨T61, h61, X61, e61, W61, st61⟩ := stC X58 hx hZ e58 Ar61 (j := (19 : Int32)) hin61 (g := (mkF m 292 #[vi (1 : Int32), vi p1, vi p2, vi p3] [(vI 115), (vI 19), (.ref b3), (.ref b3), (.ref b1), (.ref b1)])) rfl rfl (hb hby d5_292)
  have c62 := (c59.wr W58)
  have Re63 := Re60.trans (CHr.wr W61 (Safe.exa hZ.alike c62 (by decide) (by decide)) hCe60)
  have hCe63 := Re63.1
  have V61 := Arv.set Ar61 q61 S61 Nn61 H61 G61 (fits_nar_char _) W61 19 rfl (Nat.le_of_ble_eq_true rfl)
  have N61 := Fr.snoc X61 N58 g_b3
  have K61 : Keep h0 h61 [] := K58.wr W61 (Or.inr sz_b3)
  have Z61 : n0 ≤ h61.size := by rw [W61.size]; exact Z58
  have hk61 := own_szW W61 hk58
  obtain ⟨cl64, Ar64, q64, S64, Nn64, H64, G64⟩ := (id V61)
  have hin64 : ¬ ((20 : Int32) < 0 ∨ cl64.slots.size ≤ ((20 : Int32)).toNatClampNeg) := inb_of S64 ⟨by decide, by decide⟩
  obtain ⟨T64, h64, X64, e64, W64, st64⟩ := stC X61 hx hZ e61 Ar64 (j := (20 : Int32)) hin64 (g := (mkF m 298 #[vi (1 : Int32), vi p1, vi p2, vi p3] [(vI 105), (vI 20), (.ref b3), (.ref b3), (.ref b1), (.ref b1)])) rfl rfl (hb hby d5_298)
  have c65 := (c62.wr W61)
  have Re66 := Re63.trans (CHr.wr W64 (Safe.exa hZ.alike c65 (by decide) (by decide)) hCe63)
  have hCe66 := Re66.1
  have V64 := Arv.set Ar64 q64 S64 Nn64 H64 G64 (fits_nar_char _) W64 20 rfl (Nat.le_of_ble_eq_true rfl)
  have N64 := Fr.snoc X64 N61 g_b3
  have K64 : Keep h0 h64 [] := K61.wr W64 (Or.inr sz_b3)
  have Z64 : n0 ≤ h64.size := by rw [W64.size]; exact Z61
  have hk64 := own_szW W64 hk61
  obtain ⟨cl67, Ar67, q67, S67, Nn67, H67, G67⟩ := (id V64)
  have hin67 : ¬ ((21 : Int32) < 0 ∨ cl67.slots.size ≤ ((21 : Int32)).toNatClampNeg) := inb_of S67 ⟨by decide, by decide⟩
  obtain ⟨T67, h67, X67, e67, W67, st67⟩ := stC X64 hx hZ e64 Ar67 (j := (21 : Int32)) hin67 (g := (mkF m 304 #[vi (1 : Int32), vi p1, vi p2, vi p3] [(vI 111), (vI 21), (.ref b3), (.ref b3), (.ref b1), (.ref b1)])) rfl rfl (hb hby d5_304)
  have c68 := (c65.wr W64)
  have Re69 := Re66.trans (CHr.wr W67 (Safe.exa hZ.alike c68 (by decide) (by decide)) hCe66)
  have hCe69 := Re69.1
  have V67 := Arv.set Ar67 q67 S67 Nn67 H67 G67 (fits_nar_char _) W67 21 rfl (Nat.le_of_ble_eq_true rfl)
  have N67 := Fr.snoc X67 N64 g_b3
  have K67 : Keep h0 h67 [] := K64.wr W67 (Or.inr sz_b3)
  have Z67 : n0 ≤ h67.size := by rw [W67.size]; exact Z64
  have hk67 := own_szW W67 hk64
  obtain ⟨cl70, Ar70, q70, S70, Nn70, H70, G70⟩ := (id V67)
  have hin70 : ¬ ((22 : Int32) < 0 ∨ cl70.slots.size ≤ ((22 : Int32)).toNatClampNeg) := inb_of S70 ⟨by decide, by decide⟩
  obtain ⟨T70, h70, X70, e70, W70, st70⟩ := stC X67 hx hZ e67 Ar70 (j := (22 : Int32)) hin70 (g := (mkF m 310 #[vi (1 : Int32), vi p1, vi p2, vi p3] [(vI 110), (vI 22), (.ref b3), (.ref b3), (.ref b1), (.ref b1)])) rfl rfl (hb hby d5_310)
  have c71 := (c68.wr W67)
  have Re72 := Re69.trans (CHr.wr W70 (Safe.exa hZ.alike c71 (by decide) (by decide)) hCe69)
  have hCe72 := Re72.1
  have V70 := Arv.set Ar70 q70 S70 Nn70 H70 G70 (fits_nar_char _) W70 22 rfl (Nat.le_of_ble_eq_true rfl)
  have N70 := Fr.snoc X70 N67 g_b3
  have K70 : Keep h0 h70 [] := K67.wr W70 (Or.inr sz_b3)
  have Z70 : n0 ≤ h70.size := by rw [W70.size]; exact Z67
  have hk70 := own_szW W70 hk67
  obtain ⟨cl73, Ar73, q73, S73, Nn73, H73, G73⟩ := (id V70)
  have hin73 : ¬ ((23 : Int32) < 0 ∨ cl73.slots.size ≤ ((23 : Int32)).toNatClampNeg) := inb_of S73 ⟨by decide, by decide⟩
  obtain ⟨T73, h73, X73, e73, W73, st73⟩ := stC X70 hx hZ e70 Ar73 (j := (23 : Int32)) hin73 (g := (mkF m 316 #[vi (1 : Int32), vi p1, vi p2, vi p3] [(vI 115), (vI 23), (.ref b3), (.ref b3), (.ref b1), (.ref b1)])) rfl rfl (hb hby d5_316)
  have c74 := (c71.wr W70)
  have Re75 := Re72.trans (CHr.wr W73 (Safe.exa hZ.alike c74 (by decide) (by decide)) hCe72)
  have hCe75 := Re75.1
  have V73 := Arv.set Ar73 q73 S73 Nn73 H73 G73 (fits_nar_char _) W73 23 rfl (Nat.le_of_ble_eq_true rfl)
  have N73 := Fr.snoc X73 N70 g_b3
  have K73 : Keep h0 h73 [] := K70.wr W73 (Or.inr sz_b3)
  have Z73 : n0 ≤ h73.size := by rw [W73.size]; exact Z70
  have hk73 := own_szW W73 hk70
  obtain ⟨cl76, Ar76, q76, S76, Nn76, H76, G76⟩ := (id V73)
  have hin76 : ¬ ((24 : Int32) < 0 ∨ cl76.slots.size ≤ ((24 : Int32)).toNatClampNeg) := inb_of S76 ⟨by decide, by decide⟩
  obtain ⟨T76, h76, X76, e76, W76, st76⟩ := stC X73 hx hZ e73 Ar76 (j := (24 : Int32)) hin76 (g := (mkF m 322 #[vi (1 : Int32), vi p1, vi p2, vi p3] [(vI 58), (vI 24), (.ref b3), (.ref b3), (.ref b1), (.ref b1)])) rfl rfl (hb hby d5_322)
  have c77 := (c74.wr W73)
  have Re78 := Re75.trans (CHr.wr W76 (Safe.exa hZ.alike c77 (by decide) (by decide)) hCe75)
  have hCe78 := Re78.1
  have V76 := Arv.set Ar76 q76 S76 Nn76 H76 G76 (fits_nar_char _) W76 24 rfl (Nat.le_of_ble_eq_true rfl)
  have N76 := Fr.snoc X76 N73 g_b3
  have K76 : Keep h0 h76 [] := K73.wr W76 (Or.inr sz_b3)
  have Z76 : n0 ≤ h76.size := by rw [W76.size]; exact Z73
  have hk76 := own_szW W76 hk73
  obtain ⟨cl79, Ar79, q79, S79, Nn79, H79, G79⟩ := (id V76)
  have hin79 : ¬ ((25 : Int32) < 0 ∨ cl79.slots.size ≤ ((25 : Int32)).toNatClampNeg) := inb_of S79 ⟨by decide, by decide⟩
  obtain ⟨T79, h79, X79, e79, W79, st79⟩ := stC X76 hx hZ e76 Ar79 (j := (25 : Int32)) hin79 (g := (mkF m 328 #[vi (1 : Int32), vi p1, vi p2, vi p3] [(vI 32), (vI 25), (.ref b3), (.ref b3), (.ref b1), (.ref b1)])) rfl rfl (hb hby d5_328)
  have c80 := (c77.wr W76)
  have Re81 := Re78.trans (CHr.wr W79 (Safe.exa hZ.alike c80 (by decide) (by decide)) hCe78)
  have hCe81 := Re81.1
  have V79 := Arv.set Ar79 q79 S79 Nn79 H79 G79 (fits_nar_char _) W79 25 rfl (Nat.le_of_ble_eq_true rfl)
  have N79 := Fr.snoc X79 N76 g_b3
  have K79 : Keep h0 h79 [] := K76.wr W79 (Or.inr sz_b3)
  have Z79 : n0 ≤ h79.size := by rw [W79.size]; exact Z76
  have hk79 := own_szW W79 hk76
  obtain ⟨cl82, Ar82, q82, S82, Nn82, H82, G82⟩ := (id V79)
  have hin82 : ¬ ((26 : Int32) < 0 ∨ cl82.slots.size ≤ ((26 : Int32)).toNatClampNeg) := inb_of S82 ⟨by decide, by decide⟩
  obtain ⟨T82, h82, X82, e82, W82, st82⟩ := stC X79 hx hZ e79 Ar82 (j := (26 : Int32)) hin82 (g := (mkF m 333 #[vi (1 : Int32), vi p1, vi p2, vi p3] [(.int p1), (vI 26), (.ref b3), (.ref b3), (.ref b1), (.ref b1)])) rfl rfl (hb hby d5_333)
  have c83 := (c80.wr W79)
  have Re84 := Re81.trans (CHr.wr W82 (Safe.exa hZ.alike c83 (by decide) (by decide)) hCe81)
  have hCe84 := Re84.1
  have V82 : Arv Z h82 b3 k3 .char (27 : Int32) [(vI 73), (vI 110), (vI 115), (vI 117), (vI 102), (vI 102), (vI 105), (vI 99), (vI 105), (vI 101), (vI 110), (vI 116), (vI 32), (vI 112), (vI 101), (vI 114), (vI 109), (vI 105), (vI 115), (vI 115), (vI 105), (vI 111), (vI 110), (vI 115), (vI 58), (vI 32), (.int (nar .char p1))] z0 := Arv.set Ar82 q82 S82 Nn82 H82 G82 (fits_nar_char _) W82 26 rfl (Nat.le_of_ble_eq_true rfl)
  have Vn82 : Arv Z h82 b3 k3 .char (27 : Int32) [(vI 73), (vI 110), (vI 115), (vI 117), (vI 102), (vI 102), (vI 105), (vI 99), (vI 105), (vI 101), (vI 110), (vI 116), (vI 32), (vI 112), (vI 101), (vI 114), (vI 109), (vI 105), (vI 115), (vI 115), (vI 105), (vI 111), (vI 110), (vI 115), (vI 58), (vI 32), (.int p1)] z0 := by have q := V82; rw [(own_ne ub_p1)] at q; exact q
  have N82 := Fr.snoc X82 N79 g_b3
  have K82 : Keep h0 h82 [] := K79.wr W82 (Or.inr sz_b3)
  have Z82 : n0 ≤ h82.size := by rw [W82.size]; exact Z79
  have hk82 := own_szW W82 hk79
  have c86 := ((((((((((((((((((((((((((((A1.ext E3).wr W5).wr W7).wr W10).wr W13).wr W16).wr W19).wr W22).wr W25).wr W28).wr W31).wr W34).wr W37).wr W40).wr W43).wr W46).wr W49).wr W52).wr W55).wr W58).wr W61).wr W64).wr W67).wr W70).wr W73).wr W76).wr W79).wr W82)
  have c87 := ((((((((((((((((((((((((((((F1_value.ext E3).other W5 (Or.inl ne_b1_b3)).other W7 (Or.inl ne_b1_b3)).other W10 (Or.inl ne_b1_b3)).other W13 (Or.inl ne_b1_b3)).other W16 (Or.inl ne_b1_b3)).other W19 (Or.inl ne_b1_b3)).other W22 (Or.inl ne_b1_b3)).other W25 (Or.inl ne_b1_b3)).other W28 (Or.inl ne_b1_b3)).other W31 (Or.inl ne_b1_b3)).other W34 (Or.inl ne_b1_b3)).other W37 (Or.inl ne_b1_b3)).other W40 (Or.inl ne_b1_b3)).other W43 (Or.inl ne_b1_b3)).other W46 (Or.inl ne_b1_b3)).other W49 (Or.inl ne_b1_b3)).other W52 (Or.inl ne_b1_b3)).other W55 (Or.inl ne_b1_b3)).other W58 (Or.inl ne_b1_b3)).other W61 (Or.inl ne_b1_b3)).other W64 (Or.inl ne_b1_b3)).other W67 (Or.inl ne_b1_b3)).other W70 (Or.inl ne_b1_b3)).other W73 (Or.inl ne_b1_b3)).other W76 (Or.inl ne_b1_b3)).other W79 (Or.inl ne_b1_b3)).other W82 (Or.inl ne_b1_b3))
  have c88 := ((((((((((((((((((((((((((((F1_coder.ext E3).other W5 (Or.inl ne_b1_b3)).other W7 (Or.inl ne_b1_b3)).other W10 (Or.inl ne_b1_b3)).other W13 (Or.inl ne_b1_b3)).other W16 (Or.inl ne_b1_b3)).other W19 (Or.inl ne_b1_b3)).other W22 (Or.inl ne_b1_b3)).other W25 (Or.inl ne_b1_b3)).other W28 (Or.inl ne_b1_b3)).other W31 (Or.inl ne_b1_b3)).other W34 (Or.inl ne_b1_b3)).other W37 (Or.inl ne_b1_b3)).other W40 (Or.inl ne_b1_b3)).other W43 (Or.inl ne_b1_b3)).other W46 (Or.inl ne_b1_b3)).other W49 (Or.inl ne_b1_b3)).other W52 (Or.inl ne_b1_b3)).other W55 (Or.inl ne_b1_b3)).other W58 (Or.inl ne_b1_b3)).other W61 (Or.inl ne_b1_b3)).other W64 (Or.inl ne_b1_b3)).other W67 (Or.inl ne_b1_b3)).other W70 (Or.inl ne_b1_b3)).other W73 (Or.inl ne_b1_b3)).other W76 (Or.inl ne_b1_b3)).other W79 (Or.inl ne_b1_b3)).other W82 (Or.inl ne_b1_b3))
  have c89 := (((((((((((((((((((((((((((((uO.ext E1).ext E3).wr W5 g_b3).wr W7 g_b3).wr W10 g_b3).wr W13 g_b3).wr W16 g_b3).wr W19 g_b3).wr W22 g_b3).wr W25 g_b3).wr W28 g_b3).wr W31 g_b3).wr W34 g_b3).wr W37 g_b3).wr W40 g_b3).wr W43 g_b3).wr W46 g_b3).wr W49 g_b3).wr W52 g_b3).wr W55 g_b3).wr W58 g_b3).wr W61 g_b3).wr W64 g_b3).wr W67 g_b3).wr W70 g_b3).wr W73 g_b3).wr W76 g_b3).wr W79 g_b3).wr W82 g_b3)
  obtain ⟨_, _, ⟨T85, Lw85, kw85, nw85⟩, -, X85, ⟨Lc85, hQ85, lq85, yq85, zq85⟩, st85⟩ := X82.specialBack hx (y := M23) rfl hown (mvT hZ (wd hw 8 rfl)) (mvT hZ (wd hw 9 rfl)) (mvT hZ (wd hw 10 rfl)) (by decide) (StrChars.Road.backV (W := 1) hZ (fun d hd => hw d (own_w_words d hd)) (kI := 4) (wd hw 5 rfl) (cs := ([73, 110, 115, 117, 102, 102, 105, 99, 105, 101, 110, 116, 32, 112, 101, 114, 109, 105, 115, 115, 105, 111, 110, 115, 58, 32, p1] : List Int32)) (bs := (([73, 110, 115, 117, 102, 102, 105, 99, 105, 101, 110, 116, 32, 112, 101, 114, 109, 105, 115, 115, 105, 111, 110, 115, 58, 32, p1] : List Int32).map (fun c => c.toInt8.toInt32))) (n := 27) g_b1 Z82 c86 c87 c88 Vn82 (uS.ext c89.2) uP rfl rfl (by decide) (by decide) own_hp rfl (by decide) (by decide)) (g := (mkF m 334 #[vi (1 : Int32), vi p1, vi p2, vi p3] [(.ref b3), (.ref b1), (.ref b1)])) rfl (by rw [hml]; rfl) (Steps.refl _) (a := b1) (argsL := [(.ref b3)]) (rest := [(.ref b1)]) (lenOf pd_15 rfl) rfl (by show 2 * 0 + _ ≤ _; exact Nat.le_of_eq rfl) (hb hby d5_334) (fun _ _ => ⟨rfl, e82, (by decide : 2 + 1 ≤ _), (by decide : 31 + 27 ≤ _)⟩)
  dsimp only [Pt.U, Pt.locs, Pt.cells, Pt.slots] at X85 lq85 yq85 zq85 st85 hQ85
  have X85 := own_reb X85 lq85 yq85 zq85
  obtain ⟨rfl, Nq85, Kq85, fE85, fC85, t85, kt85, u185, u285, u385, fV85, fK85⟩ := hQ85
  have N85 := Fr.app N82 Nq85
  have ne_b1_t85 : b1 ≠ t85 := Nat.ne_of_lt (Nat.lt_of_lt_of_le c86.lt u285)
  have ne_b3_t85 : b3 ≠ t85 := Nat.ne_of_lt (Nat.lt_of_lt_of_le Vn82.lt u285)
  have sz_t85 : h0.size ≤ t85 := Nat.le_trans K82.1 u285
  have c90 := (Safe.wr W82 (Safe.exa hZ.alike c83 (by decide) (by decide)) hCe81 (Safe.wr W79 (Safe.exa hZ.alike c80 (by decide) (by decide)) hCe78 (Safe.wr W76 (Safe.exa hZ.alike c77 (by decide) (by decide)) hCe75 (Safe.wr W73 (Safe.exa hZ.alike c74 (by decide) (by decide)) hCe72 (Safe.wr W70 (Safe.exa hZ.alike c71 (by decide) (by decide)) hCe69 (Safe.wr W67 (Safe.exa hZ.alike c68 (by decide) (by decide)) hCe66 (Safe.wr W64 (Safe.exa hZ.alike c65 (by decide) (by decide)) hCe63 (Safe.wr W61 (Safe.exa hZ.alike c62 (by decide) (by decide)) hCe60 (Safe.wr W58 (Safe.exa hZ.alike c59 (by decide) (by decide)) hCe57 (Safe.wr W55 (Safe.exa hZ.alike c56 (by decide) (by decide)) hCe54 (Safe.wr W52 (Safe.exa hZ.alike c53 (by decide) (by decide)) hCe51 (Safe.wr W49 (Safe.exa hZ.alike c50 (by decide) (by decide)) hCe48 (Safe.wr W46 (Safe.exa hZ.alike c47 (by decide) (by decide)) hCe45 (Safe.wr W43 (Safe.exa hZ.alike c44 (by decide) (by decide)) hCe42 (Safe.wr W40 (Safe.exa hZ.alike c41 (by decide) (by decide)) hCe39 (Safe.wr W37 (Safe.exa hZ.alike c38 (by decide) (by decide)) hCe36 (Safe.wr W34 (Safe.exa hZ.alike c35 (by decide) (by decide)) hCe33 (Safe.wr W31 (Safe.exa hZ.alike c32 (by decide) (by decide)) hCe30 (Safe.wr W28 (Safe.exa hZ.alike c29 (by decide) (by decide)) hCe27 (Safe.wr W25 (Safe.exa hZ.alike c26 (by decide) (by decide)) hCe24 (Safe.wr W22 (Safe.exa hZ.alike c23 (by decide) (by decide)) hCe21 (Safe.wr W19 (Safe.exa hZ.alike c20 (by decide) (by decide)) hCe18 (Safe.wr W16 (Safe.exa hZ.alike c17 (by decide) (by decide)) hCe15 (Safe.wr W13 (Safe.exa hZ.alike c14 (by decide) (by decide)) hCe12 (Safe.wr W10 (Safe.exa hZ.alike c11 (by decide) (by decide)) hCe9 (Safe.wr W7 (Safe.exa hZ.alike c8 (by decide) (by decide)) hCe6 (Safe.wr W5 (Safe.exa hZ.alike AX3 (by decide) (by decide)) hCe4 (Safe.ext E3 hCe2 sf1))))))))))))))))))))))))))))
  have Re91 := Re84.trans (CHr.keep Kq85 (allS c90 all0) hCe84)
  have hCe91 := Re91.1
  have sf85 := Safe.keep Kq85 (allS c90 all0) hCe84 (Safe.new u285)
  have K85 : Keep h0 T85.heap [] := K82.trans Kq85 (allS (Or.inr sz_b1) all0)
  have Z85 : n0 ≤ T85.heap.size := Nat.le_trans Z82 Kq85.1
  have hk85 : _ ≤ T85.heap.size := Nat.le_trans hk82 Kq85.1
  obtain ⟨fs, hr, hrun, hended, en1, en2, en3, en4⟩ := X85.leaveW hS0 (own_hk rfl hk85) (v := some (.ref b1)) (fun h => by rw [Bd.returns] at h; cases h)
  refine ⟨_, _, pre0 _ ?_, hrun, hended, _, _, rfl, ?_, own_chr (T := T85) hh rfl (Re91.trans (CHv.at X85 hZ (own_EW hw) hCe91)), en1, en2, en3, en4.mono (by decide) (by decide)⟩
  · show SS p e below s₁ (mkF m 0 #[vi (1 : Int32), vi p1, vi p2, vi p3] []) _
    refine XS.iloadN X0.here hx rfl (hb hby d5_0) rfl ?_
    show SS p e below s₁ (mkF m 1 #[vi (1 : Int32), vi p1, vi p2, vi p3] [(vI 1)]) _
    refine XS.ifYes X0.here hx rfl (pc0 := 1) (pc' := 166) rfl (hb hby d5_1) rfl ((if0 _ _).trans (feq (by decide : ¬ ((1 : Int32) = (0 : Int32)))).2) (by decide) (by decide) ?_
    refine XS.iloadN X0.here hx rfl (hb hby d5_166) rfl ?_
    refine XS.iconst X0.here hx rfl (hb hby d5_167) ?_
    show SS p e below s₁ (mkF m 168 #[vi (1 : Int32), vi p1, vi p2, vi p3] [(vI 1), (vI 1)]) _
    refine XS.icmpNo X0.here hx rfl (hb hby d5_168) rfl (teq (by decide : (1 : Int32) = (1 : Int32))).2 ?_
    refine st1 _ ?_
    refine XS.dup X1.here hx rfl (hb hby d5_174) rfl rfl ?_
    refine XS.bipush X1.here hx rfl (hb hby d5_175) ?_
    refine st3 _ ?_
    refine XS.dup X3.here hx rfl (hb hby d5_179) rfl rfl ?_
    refine XS.iconst X3.here hx rfl (hb hby d5_180) ?_
    refine XS.bipush X3.here hx rfl (hb hby d5_181) ?_
    refine st5 _ ?_
    refine XS.dup X5.here hx rfl (hb hby d5_184) rfl rfl ?_
    refine XS.iconst X5.here hx rfl (hb hby d5_185) ?_
    refine XS.bipush X5.here hx rfl (hb hby d5_186) ?_
    refine st7 _ ?_
    refine XS.dup X7.here hx rfl (hb hby d5_189) rfl rfl ?_
    refine XS.iconst X7.here hx rfl (hb hby d5_190) ?_
    refine XS.bipush X7.here hx rfl (hb hby d5_191) ?_
    refine st10 _ ?_
    refine XS.dup X10.here hx rfl (hb hby d5_194) rfl rfl ?_
    refine XS.iconst X10.here hx rfl (hb hby d5_195) ?_
    refine XS.bipush X10.here hx rfl (hb hby d5_196) ?_
    refine st13 _ ?_
    refine XS.dup X13.here hx rfl (hb hby d5_199) rfl rfl ?_
    refine XS.iconst X13.here hx rfl (hb hby d5_200) ?_
    refine XS.bipush X13.here hx rfl (hb hby d5_201) ?_
    refine st16 _ ?_
    refine XS.dup X16.here hx rfl (hb hby d5_204) rfl rfl ?_
    refine XS.iconst X16.here hx rfl (hb hby d5_205) ?_
    refine XS.bipush X16.here hx rfl (hb hby d5_206) ?_
    refine st19 _ ?_
    refine XS.dup X19.here hx rfl (hb hby d5_209) rfl rfl ?_
    refine XS.bipush X19.here hx rfl (hb hby d5_210) ?_
    refine XS.bipush X19.here hx rfl (hb hby d5_212) ?_
    refine st22 _ ?_
    refine XS.dup X22.here hx rfl (hb hby d5_215) rfl rfl ?_
    refine XS.bipush X22.here hx rfl (hb hby d5_216) ?_
    refine XS.bipush X22.here hx rfl (hb hby d5_218) ?_
    refine st25 _ ?_
    refine XS.dup X25.here hx rfl (hb hby d5_221) rfl rfl ?_
    refine XS.bipush X25.here hx rfl (hb hby d5_222) ?_
    refine XS.bipush X25.here hx rfl (hb hby d5_224) ?_
    refine st28 _ ?_
    refine XS.dup X28.here hx rfl (hb hby d5_227) rfl rfl ?_
    refine XS.bipush X28.here hx rfl (hb hby d5_228) ?_
    refine XS.bipush X28.here hx rfl (hb hby d5_230) ?_
    refine st31 _ ?_
    refine XS.dup X31.here hx rfl (hb hby d5_233) rfl rfl ?_
    refine XS.bipush X31.here hx rfl (hb hby d5_234) ?_
    refine XS.bipush X31.here hx rfl (hb hby d5_236) ?_
    refine st34 _ ?_
    refine XS.dup X34.here hx rfl (hb hby d5_239) rfl rfl ?_
    refine XS.bipush X34.here hx rfl (hb hby d5_240) ?_
    refine XS.bipush X34.here hx rfl (hb hby d5_242) ?_
    refine st37 _ ?_
    refine XS.dup X37.here hx rfl (hb hby d5_245) rfl rfl ?_
    refine XS.bipush X37.here hx rfl (hb hby d5_246) ?_
    refine XS.bipush X37.here hx rfl (hb hby d5_248) ?_
    refine st40 _ ?_
    refine XS.dup X40.here hx rfl (hb hby d5_251) rfl rfl ?_
    refine XS.bipush X40.here hx rfl (hb hby d5_252) ?_
    refine XS.bipush X40.here hx rfl (hb hby d5_254) ?_
    refine st43 _ ?_
    refine XS.dup X43.here hx rfl (hb hby d5_257) rfl rfl ?_
    refine XS.bipush X43.here hx rfl (hb hby d5_258) ?_
    refine XS.bipush X43.here hx rfl (hb hby d5_260) ?_
    refine st46 _ ?_
    refine XS.dup X46.here hx rfl (hb hby d5_263) rfl rfl ?_
    refine XS.bipush X46.here hx rfl (hb hby d5_264) ?_
    refine XS.bipush X46.here hx rfl (hb hby d5_266) ?_
    refine st49 _ ?_
    refine XS.dup X49.here hx rfl (hb hby d5_269) rfl rfl ?_
    refine XS.bipush X49.here hx rfl (hb hby d5_270) ?_
    refine XS.bipush X49.here hx rfl (hb hby d5_272) ?_
    refine st52 _ ?_
    refine XS.dup X52.here hx rfl (hb hby d5_275) rfl rfl ?_
    refine XS.bipush X52.here hx rfl (hb hby d5_276) ?_
    refine XS.bipush X52.here hx rfl (hb hby d5_278) ?_
    refine st55 _ ?_
    refine XS.dup X55.here hx rfl (hb hby d5_281) rfl rfl ?_
    refine XS.bipush X55.here hx rfl (hb hby d5_282) ?_
    refine XS.bipush X55.here hx rfl (hb hby d5_284) ?_
    refine st58 _ ?_
    refine XS.dup X58.here hx rfl (hb hby d5_287) rfl rfl ?_
    refine XS.bipush X58.here hx rfl (hb hby d5_288) ?_
    refine XS.bipush X58.here hx rfl (hb hby d5_290) ?_
    refine st61 _ ?_
    refine XS.dup X61.here hx rfl (hb hby d5_293) rfl rfl ?_
    refine XS.bipush X61.here hx rfl (hb hby d5_294) ?_
    refine XS.bipush X61.here hx rfl (hb hby d5_296) ?_
    refine st64 _ ?_
    refine XS.dup X64.here hx rfl (hb hby d5_299) rfl rfl ?_
    refine XS.bipush X64.here hx rfl (hb hby d5_300) ?_
    refine XS.bipush X64.here hx rfl (hb hby d5_302) ?_
    refine st67 _ ?_
    refine XS.dup X67.here hx rfl (hb hby d5_305) rfl rfl ?_
    refine XS.bipush X67.here hx rfl (hb hby d5_306) ?_
    refine XS.bipush X67.here hx rfl (hb hby d5_308) ?_
    refine st70 _ ?_
    refine XS.dup X70.here hx rfl (hb hby d5_311) rfl rfl ?_
    refine XS.bipush X70.here hx rfl (hb hby d5_312) ?_
    refine XS.bipush X70.here hx rfl (hb hby d5_314) ?_
    refine st73 _ ?_
    refine XS.dup X73.here hx rfl (hb hby d5_317) rfl rfl ?_
    refine XS.bipush X73.here hx rfl (hb hby d5_318) ?_
    refine XS.bipush X73.here hx rfl (hb hby d5_320) ?_
    refine st76 _ ?_
    refine XS.dup X76.here hx rfl (hb hby d5_323) rfl rfl ?_
    refine XS.bipush X76.here hx rfl (hb hby d5_324) ?_
    refine XS.bipush X76.here hx rfl (hb hby d5_326) ?_
    refine st79 _ ?_
    refine XS.dup X79.here hx rfl (hb hby d5_329) rfl rfl ?_
    refine XS.bipush X79.here hx rfl (hb hby d5_330) ?_
    refine XS.iloadN X79.here hx rfl (hb hby d5_332) rfl ?_
    refine st82 _ ?_
    show SS p e below T82 (mkF m 334 #[vi (1 : Int32), vi p1, vi p2, vi p3] [(.ref b3), (.ref b1), (.ref b1)]) _
    refine st85.trans ?_
    exact retOut X85 hx Bd.returns rfl (Or.inr (Or.inr (Or.inr (Or.inr ⟨rfl, rfl, rfl⟩)))) (hb hby d5_337) hr
  · show Q_rmE1 Z p1 p2 p3 zc h0 n0 _ T85.heap _
    exact ⟨b1, t85, kt85, rfl, N85, K85, sz_b1, fE85, fC85, fV85, fK85⟩
theorem ef_28 (m : MethodId) (x1 : Int32) (x2 : Int32) (x3 : Int32) : entryFrame m #[(vI 2), (.int x1), (.int x2), (.int x3)] 4 = mkF m 0 #[vi (2 : Int32), vi x1, vi x2, vi x3] [] := by first | (simp [entryFrame, mkF, argsToLocals, Value.category]; done) | rfl
theorem d1_35 : decode method_2_code 35 = .ok (.iload_n 0, 1) := by decide +kernel
theorem d1_36 : decode method_2_code 36 = .ok (.iconst 2, 1) := by decide +kernel
theorem d1_37 : decode method_2_code 37 = .ok (.if_icmp .ne 22, 3) := by decide +kernel
theorem d1_40 : decode method_2_code 40 = .ok (.new 7, 3) := by decide +kernel
theorem d1_43 : decode method_2_code 43 = .ok (.dup, 1) := by decide +kernel
theorem d1_44 : decode method_2_code 44 = .ok (.iconst 2, 1) := by decide +kernel
theorem d1_45 : decode method_2_code 45 = .ok (.newarray .char, 2) := by decide +kernel
theorem d1_47 : decode method_2_code 47 = .ok (.dup, 1) := by decide +kernel
theorem d1_48 : decode method_2_code 48 = .ok (.iconst 0, 1) := by decide +kernel
theorem d1_49 : decode method_2_code 49 = .ok (.iload_n 1, 1) := by decide +kernel
theorem d1_50 : decode method_2_code 50 = .ok (.castore, 1) := by decide +kernel
theorem d1_51 : decode method_2_code 51 = .ok (.dup, 1) := by decide +kernel
theorem d1_52 : decode method_2_code 52 = .ok (.iconst 1, 1) := by decide +kernel
theorem d1_53 : decode method_2_code 53 = .ok (.iload_n 2, 1) := by decide +kernel
theorem d1_54 : decode method_2_code 54 = .ok (.castore, 1) := by decide +kernel
theorem d1_55 : decode method_2_code 55 = .ok (.invokespecial 9, 3) := by decide +kernel
theorem d1_58 : decode method_2_code 58 = .ok (.areturn, 1) := by decide +kernel
def Q_rmR2 (Z : State) (p1 : Int32) (p2 : Int32) (p3 : Int32) (zc : Int32) (h0 : Heap) (n0 : Nat) (v : Option Value) (h : Heap) (L : List Loc) : Prop := ∃ (nx : Addr), ∃ (nt : Addr), ∃ (nk : ClassId), (v = some (.ref nx) ∧ Fr n0 L ∧ Keep h0 h [] ∧ h0.size ≤ nx ∧ Exa Z h nx "java/lang/String" ∧ Fld Z h nx "java/lang/String" "coder" "B" z0 ∧ Fld Z h nx "java/lang/String" "value" "[B" (.ref nt) ∧ Arv Z h nt nk .byte (2 : Int32) ((([p1, p2] : List Int32).map (fun c => c.toInt8.toInt32)).map Value.int) z0)
set_option maxRecDepth 65536 in
set_option maxHeartbeats 40000000 in
theorem rmR2 (l : Launch) (Z : State) (a0 : Array Value) (hw : ∀ d ∈ tables_1, d.before a0 Z = true) (ws : List Jvm.Cond) (p1 : Int32) (p2 : Int32) (p3 : Int32) (zc : Int32) (h0 : Heap) (n0 : Nat) (Z0 : n0 ≤ h0.size) (uO : Old Z n0 h0) (uS : Sta Z Z.heap "java/lang/String" "COMPACT_STRINGS" "Z" (.int zc)) (uP : ¬ zc = 0) (ub_p1 : ¬ p1 < 0 ∧ ¬ (255 : Int32) < p1) (ub_p2 : ¬ p2 < 0 ∧ ¬ (255 : Int32) < p2) (ub_p3 : ¬ p3 < 0 ∧ ¬ (255 : Int32) < p3) :
    MetFree l M24 (head1 (Jvm.Cond.code M24 method_2_code 4 (some (.object "java/lang/String")) :: ws) ({ frames := 4, cells := 3, slots := 8, locals := 66 } : Room)) (fun a U => a = #[(vI 2), (.int p1), (.int p2), (.int p3)] ∧ Z.Warmed39 U.vm ∧ U.heap = h0 ∧ CHv Z own_EL U.vm h0) (fun _ _ _ _ _ => True) (fun _ U o U' => ∃ v L, o = .returned v ∧ Q_rmR2 Z p1 p2 p3 zc h0 n0 v U'.heap L ∧ CHr Z own_EL U.vm U.heap U'.vm U'.heap ∧ ReturnedEndW U o U' L ({ frames := 4, cells := 3, slots := 8, locals := 66 } : Room).cells ({ frames := 4, cells := 3, slots := 8, locals := 66 } : Room).slots) := by
  refine MetFree.of_bodySF (plainFor_of_name pn_4) hisR ?_
  intro p e s m args below meth c s₁ Bd hml0 hP hK
  obtain ⟨rfl, hZ, hh, hC0⟩ := hP
  have hx := Bd.exec
  have hby := Bd.bytes
  have hml : c.maxLocals = 4 := hml0
  have hown : s.vm.findClass "com/example/plain_hub/plainhub/HubExceptionForbiddenPinLaw" = some m.cls := findClass_of_methodNamed Bd.named
  have hnm := (name_of_methodNamed Bd.named Bd.method).1
  have X0 : Stand p l e ({ frames := 4, cells := 3, slots := 8, locals := 66 } : Room) (s.setVm s.vm) m #[(vI 2), (.int p1), (.int p2), (.int p3)] below meth c s₁ [] 0 0 := Stand.of_body Bd
  have e0 : s₁.heap = h0 := by rw [← hh, Bd.state]; rfl
  have N0 := Fr.nil n0
  have pre0 : ∀ t, Steps p.tables e below (s₁.setTop (mkF m 0 #[vi (2 : Int32), vi p1, vi p2, vi p3] [])) t → Steps p.tables e below (s₁.setTop (entryFrame m #[(vI 2), (.int p1), (.int p2), (.int p3)] 4)) t := fun t k => castTop (ef_28 m p1 p2 p3) k
  have hS0 : s.Since s.vm 0 := (State.WarmedH.refl s).since _
  have hk0 : 0 ≤ h0.size := Nat.zero_le _
  have R0 := CHr.refl hC0
  have own_hp : ∀ c ∈ ([p1, p2] : List Int32), ¬ c < 0 ∧ ¬ (255 : Int32) < c := by
    intro c hc
    simp only [List.mem_cons, List.not_mem_nil, or_false] at hc
    rcases hc with rfl | rfl
    · exact ub_p1
    · exact ub_p2
  obtain ⟨T1, h1, X1, e1, E1, A1, D1, Un1, st1⟩ := newO X0 hx hZ hown (wd hw 4 rfl) (wd hw 5 rfl) (wd hw 6 rfl) e0 (g := (mkF m 40 #[vi (2 : Int32), vi p1, vi p2, vi p3] [])) rfl (hb hby d1_40) (by decide) (by decide)
  obtain ⟨b1, g1⟩ : ∃ z, z = h0.size := ⟨_, rfl⟩
  rw [← g1] at A1 D1 Un1 st1
  have Re2 := R0.trans (CHr.ext E1 hC0)
  have hCe2 := Re2.1
  have sf1 := Safe.ext E1 hC0 (Safe.new (Nat.le_of_eq g1.symm))
  have F1_value : Fld Z h1 b1 "java/lang/String" "value" "[B" .null := D1 (Or.inr (wd hw 20 rfl)) (ty := (.array .byte)) (by decide)
  have F1_coder : Fld Z h1 b1 "java/lang/String" "coder" "B" z0 := D1 (Or.inr (wd hw 21 rfl)) (ty := .byte) (by decide)
  have g_b1 : n0 ≤ b1 := Nat.le_trans Z0 (Nat.le_of_eq g1.symm)
  have sz_b1 : h0.size ≤ b1 := Nat.le_trans (Keep.refl h0 []).1 (Nat.le_of_eq g1.symm)
  have K1 : Keep h0 h1 [] := (Keep.refl h0 []).ext E1
  have Z1 : n0 ≤ h1.size := Nat.le_trans Z0 E1.1
  have hk1 : _ ≤ h1.size := Nat.le_trans hk0 E1.1
  obtain ⟨T3, h3, k3, X3, e3, E3, A3, AX3, st3⟩ := newPE X1 hx hZ (wd hw 7 rfl) e1 (g := (mkF m 45 #[vi (2 : Int32), vi p1, vi p2, vi p3] [(vI 2), (.ref b1), (.ref b1)])) rfl (hb hby d1_45) rfl (by decide) (cap := 2) (by decide) (by decide) (by decide) (by decide) (ad := "[C") (by decide)
  obtain ⟨b3, g3⟩ : ∃ z, z = h1.size := ⟨_, rfl⟩
  rw [← g3] at A3 AX3 st3
  have ne_b1_b3 : b1 ≠ b3 := Nat.ne_of_lt (Nat.lt_of_lt_of_le A1.lt (Nat.le_of_eq g3.symm))
  have Re4 := Re2.trans (CHr.ext E3 hCe2)
  have hCe4 := Re4.1
  have V3 : Arv Z h3 b3 k3 .char (2 : Int32) [z0, z0] z0 := (Arv.new A3 (by decide)).pad (pad_rep [] z0 2)
  have g_b3 : n0 ≤ b3 := Nat.le_trans Z1 (Nat.le_of_eq g3.symm)
  have sz_b3 : h0.size ≤ b3 := Nat.le_trans K1.1 (Nat.le_of_eq g3.symm)
  have K3 : Keep h0 h3 [] := K1.ext E3
  have Z3 : n0 ≤ h3.size := Nat.le_trans Z1 E3.1
  have hk3 : _ ≤ h3.size := Nat.le_trans hk1 E3.1
  obtain ⟨cl5, Ar5, q5, S5, Nn5, H5, G5⟩ := (id V3)
  have hin5 : ¬ ((0 : Int32) < 0 ∨ cl5.slots.size ≤ ((0 : Int32)).toNatClampNeg) := inb_of S5 ⟨by decide, by decide⟩
  obtain ⟨T5, h5, X5, e5, W5, st5⟩ := stC X3 hx hZ e3 Ar5 (j := (0 : Int32)) hin5 (g := (mkF m 50 #[vi (2 : Int32), vi p1, vi p2, vi p3] [(.int p1), z0, (.ref b3), (.ref b3), (.ref b1), (.ref b1)])) rfl rfl (hb hby d1_50)
  have Re6 := Re4.trans (CHr.wr W5 (Safe.exa hZ.alike AX3 (by decide) (by decide)) hCe4)
  have hCe6 := Re6.1
  have V5 : Arv Z h5 b3 k3 .char (2 : Int32) [(.int (nar .char p1)), z0] z0 := Arv.set Ar5 q5 S5 Nn5 H5 G5 (fits_nar_char _) W5 0 rfl (Nat.le_of_ble_eq_true rfl)
  have Vn5 : Arv Z h5 b3 k3 .char (2 : Int32) [(.int p1), z0] z0 := by have q := V5; rw [(own_ne ub_p1)] at q; exact q
  have N5 := Fr.snoc X5 N0 g_b3
  have K5 : Keep h0 h5 [] := K3.wr W5 (Or.inr sz_b3)
  have Z5 : n0 ≤ h5.size := by rw [W5.size]; exact Z3
  have hk5 := own_szW W5 hk3
  obtain ⟨cl7, Ar7, q7, S7, Nn7, H7, G7⟩ := (id Vn5)
  have hin7 : ¬ ((1 : Int32) < 0 ∨ cl7.slots.size ≤ ((1 : Int32)).toNatClampNeg) := inb_of S7 ⟨by decide, by decide⟩
  obtain ⟨T7, h7, X7, e7, W7, st7⟩ := stC X5 hx hZ e5 Ar7 (j := (1 : Int32)) hin7 (g := (mkF m 54 #[vi (2 : Int32), vi p1, vi p2, vi p3] [(.int p2), (vI 1), (.ref b3), (.ref b3), (.ref b1), (.ref b1)])) rfl rfl (hb hby d1_54)
  have c8 := (AX3.wr W5)
  have Re9 := Re6.trans (CHr.wr W7 (Safe.exa hZ.alike c8 (by decide) (by decide)) hCe6)
  have hCe9 := Re9.1
  have V7 : Arv Z h7 b3 k3 .char (2 : Int32) [(.int p1), (.int (nar .char p2))] z0 := Arv.set Ar7 q7 S7 Nn7 H7 G7 (fits_nar_char _) W7 1 rfl (Nat.le_of_ble_eq_true rfl)
  have Vn7 : Arv Z h7 b3 k3 .char (2 : Int32) [(.int p1), (.int p2)] z0 := by have q := V7; rw [(own_ne ub_p2)] at q; exact q
  have N7 := Fr.snoc X7 N5 g_b3
  have K7 : Keep h0 h7 [] := K5.wr W7 (Or.inr sz_b3)
  have Z7 : n0 ≤ h7.size := by rw [W7.size]; exact Z5
  have hk7 := own_szW W7 hk5
  have c11 := (((A1.ext E3).wr W5).wr W7)
  have c12 := (((F1_value.ext E3).other W5 (Or.inl ne_b1_b3)).other W7 (Or.inl ne_b1_b3))
  have c13 := (((F1_coder.ext E3).other W5 (Or.inl ne_b1_b3)).other W7 (Or.inl ne_b1_b3))
  have c14 := ((((uO.ext E1).ext E3).wr W5 g_b3).wr W7 g_b3)
  obtain ⟨_, _, ⟨T10, Lw10, kw10, nw10⟩, -, X10, ⟨Lc10, hQ10, lq10, yq10, zq10⟩, st10⟩ := X7.specialBack hx (y := M23) rfl hown (mvT hZ (wd hw 8 rfl)) (mvT hZ (wd hw 9 rfl)) (mvT hZ (wd hw 10 rfl)) (by decide) (StrChars.Road.backV (W := 1) hZ (fun d hd => hw d (own_w_words d hd)) (kI := 4) (wd hw 5 rfl) (cs := ([p1, p2] : List Int32)) (bs := (([p1, p2] : List Int32).map (fun c => c.toInt8.toInt32))) (n := 2) g_b1 Z7 c11 c12 c13 Vn7 (uS.ext c14.2) uP rfl rfl (by decide) (by decide) own_hp rfl (by decide) (by decide)) (g := (mkF m 55 #[vi (2 : Int32), vi p1, vi p2, vi p3] [(.ref b3), (.ref b1), (.ref b1)])) rfl (by rw [hml]; rfl) (Steps.refl _) (a := b1) (argsL := [(.ref b3)]) (rest := [(.ref b1)]) (lenOf pd_15 rfl) rfl (by show 2 * 0 + _ ≤ _; exact Nat.le_of_eq rfl) (hb hby d1_55) (fun _ _ => ⟨rfl, e7, (by decide : 2 + 1 ≤ _), (by decide : 6 + 2 ≤ _)⟩)
  dsimp only [Pt.U, Pt.locs, Pt.cells, Pt.slots] at X10 lq10 yq10 zq10 st10 hQ10
  have X10 := own_reb X10 lq10 yq10 zq10
  obtain ⟨rfl, Nq10, Kq10, fE10, fC10, t10, kt10, u110, u210, u310, fV10, fK10⟩ := hQ10
  have N10 := Fr.app N7 Nq10
  have ne_b1_t10 : b1 ≠ t10 := Nat.ne_of_lt (Nat.lt_of_lt_of_le c11.lt u210)
  have ne_b3_t10 : b3 ≠ t10 := Nat.ne_of_lt (Nat.lt_of_lt_of_le Vn7.lt u210)
  have sz_t10 : h0.size ≤ t10 := Nat.le_trans K7.1 u210
  have c15 := (Safe.wr W7 (Safe.exa hZ.alike c8 (by decide) (by decide)) hCe6 (Safe.wr W5 (Safe.exa hZ.alike AX3 (by decide) (by decide)) hCe4 (Safe.ext E3 hCe2 sf1)))
  have Re16 := Re9.trans (CHr.keep Kq10 (allS c15 all0) hCe9)
  have hCe16 := Re16.1
  have sf10 := Safe.keep Kq10 (allS c15 all0) hCe9 (Safe.new u210)
  have K10 : Keep h0 T10.heap [] := K7.trans Kq10 (allS (Or.inr sz_b1) all0)
  have Z10 : n0 ≤ T10.heap.size := Nat.le_trans Z7 Kq10.1
  have hk10 : _ ≤ T10.heap.size := Nat.le_trans hk7 Kq10.1
  obtain ⟨fs, hr, hrun, hended, en1, en2, en3, en4⟩ := X10.leaveW hS0 (own_hk rfl hk10) (v := some (.ref b1)) (fun h => by rw [Bd.returns] at h; cases h)
  refine ⟨_, _, pre0 _ ?_, hrun, hended, _, _, rfl, ?_, own_chr (T := T10) hh rfl (Re16.trans (CHv.at X10 hZ (own_EW hw) hCe16)), en1, en2, en3, en4.mono (by decide) (by decide)⟩
  · show SS p e below s₁ (mkF m 0 #[vi (2 : Int32), vi p1, vi p2, vi p3] []) _
    refine XS.iloadN X0.here hx rfl (hb hby d1_0) rfl ?_
    show SS p e below s₁ (mkF m 1 #[vi (2 : Int32), vi p1, vi p2, vi p3] [(vI 2)]) _
    refine XS.ifYes X0.here hx rfl (pc0 := 1) (pc' := 15) rfl (hb hby d1_1) rfl ((if0 _ _).trans (feq (by decide : ¬ ((2 : Int32) = (0 : Int32)))).2) (by decide) (by decide) ?_
    refine XS.iloadN X0.here hx rfl (hb hby d1_15) rfl ?_
    refine XS.iconst X0.here hx rfl (hb hby d1_16) ?_
    show SS p e below s₁ (mkF m 17 #[vi (2 : Int32), vi p1, vi p2, vi p3] [(vI 1), (vI 2)]) _
    refine XS.icmpYes X0.here hx rfl (pc0 := 17) (pc' := 35) rfl (hb hby d1_17) rfl (feq (by decide : ¬ ((2 : Int32) = (1 : Int32)))).2 (by decide) (by decide) ?_
    refine XS.iloadN X0.here hx rfl (hb hby d1_35) rfl ?_
    refine XS.iconst X0.here hx rfl (hb hby d1_36) ?_
    show SS p e below s₁ (mkF m 37 #[vi (2 : Int32), vi p1, vi p2, vi p3] [(vI 2), (vI 2)]) _
    refine XS.icmpNo X0.here hx rfl (hb hby d1_37) rfl (teq (by decide : (2 : Int32) = (2 : Int32))).2 ?_
    refine st1 _ ?_
    refine XS.dup X1.here hx rfl (hb hby d1_43) rfl rfl ?_
    refine XS.iconst X1.here hx rfl (hb hby d1_44) ?_
    refine st3 _ ?_
    refine XS.dup X3.here hx rfl (hb hby d1_47) rfl rfl ?_
    refine XS.iconst X3.here hx rfl (hb hby d1_48) ?_
    refine XS.iloadN X3.here hx rfl (hb hby d1_49) rfl ?_
    refine st5 _ ?_
    refine XS.dup X5.here hx rfl (hb hby d1_51) rfl rfl ?_
    refine XS.iconst X5.here hx rfl (hb hby d1_52) ?_
    refine XS.iloadN X5.here hx rfl (hb hby d1_53) rfl ?_
    refine st7 _ ?_
    show SS p e below T7 (mkF m 55 #[vi (2 : Int32), vi p1, vi p2, vi p3] [(.ref b3), (.ref b1), (.ref b1)]) _
    refine st10.trans ?_
    exact retOut X10 hx Bd.returns rfl (Or.inr (Or.inr (Or.inr (Or.inr ⟨rfl, rfl, rfl⟩)))) (hb hby d1_58) hr
  · show Q_rmR2 Z p1 p2 p3 zc h0 n0 _ T10.heap _
    exact ⟨b1, t10, kt10, rfl, N10, K10, sz_b1, fE10, fC10, fV10, fK10⟩
theorem ef_29 (m : MethodId) (x1 : Int32) (x2 : Int32) (x3 : Int32) : entryFrame m #[(vI 2), (.int x1), (.int x2), (.int x3)] 4 = mkF m 0 #[vi (2 : Int32), vi x1, vi x2, vi x3] [] := by first | (simp [entryFrame, mkF, argsToLocals, Value.category]; done) | rfl
theorem d5_338 : decode method_3_code 338 = .ok (.iload_n 0, 1) := by decide +kernel
theorem d5_339 : decode method_3_code 339 = .ok (.iconst 2, 1) := by decide +kernel
theorem d5_340 : decode method_3_code 340 = .ok (.if_icmp .ne 175, 3) := by decide +kernel
theorem d5_343 : decode method_3_code 343 = .ok (.new 7, 3) := by decide +kernel
theorem d5_346 : decode method_3_code 346 = .ok (.dup, 1) := by decide +kernel
theorem d5_347 : decode method_3_code 347 = .ok (.bipush 28, 2) := by decide +kernel
theorem d5_349 : decode method_3_code 349 = .ok (.newarray .char, 2) := by decide +kernel
theorem d5_351 : decode method_3_code 351 = .ok (.dup, 1) := by decide +kernel
theorem d5_352 : decode method_3_code 352 = .ok (.iconst 0, 1) := by decide +kernel
theorem d5_353 : decode method_3_code 353 = .ok (.bipush 73, 2) := by decide +kernel
theorem d5_355 : decode method_3_code 355 = .ok (.castore, 1) := by decide +kernel
theorem d5_356 : decode method_3_code 356 = .ok (.dup, 1) := by decide +kernel
theorem d5_357 : decode method_3_code 357 = .ok (.iconst 1, 1) := by decide +kernel
theorem d5_358 : decode method_3_code 358 = .ok (.bipush 110, 2) := by decide +kernel
theorem d5_360 : decode method_3_code 360 = .ok (.castore, 1) := by decide +kernel
theorem d5_361 : decode method_3_code 361 = .ok (.dup, 1) := by decide +kernel
theorem d5_362 : decode method_3_code 362 = .ok (.iconst 2, 1) := by decide +kernel
theorem d5_363 : decode method_3_code 363 = .ok (.bipush 115, 2) := by decide +kernel
theorem d5_365 : decode method_3_code 365 = .ok (.castore, 1) := by decide +kernel
theorem d5_366 : decode method_3_code 366 = .ok (.dup, 1) := by decide +kernel
theorem d5_367 : decode method_3_code 367 = .ok (.iconst 3, 1) := by decide +kernel
theorem d5_368 : decode method_3_code 368 = .ok (.bipush 117, 2) := by decide +kernel
theorem d5_370 : decode method_3_code 370 = .ok (.castore, 1) := by decide +kernel
theorem d5_371 : decode method_3_code 371 = .ok (.dup, 1) := by decide +kernel
theorem d5_372 : decode method_3_code 372 = .ok (.iconst 4, 1) := by decide +kernel
theorem d5_373 : decode method_3_code 373 = .ok (.bipush 102, 2) := by decide +kernel
theorem d5_375 : decode method_3_code 375 = .ok (.castore, 1) := by decide +kernel
theorem d5_376 : decode method_3_code 376 = .ok (.dup, 1) := by decide +kernel
theorem d5_377 : decode method_3_code 377 = .ok (.iconst 5, 1) := by decide +kernel
theorem d5_378 : decode method_3_code 378 = .ok (.bipush 102, 2) := by decide +kernel
theorem d5_380 : decode method_3_code 380 = .ok (.castore, 1) := by decide +kernel
theorem d5_381 : decode method_3_code 381 = .ok (.dup, 1) := by decide +kernel
theorem d5_382 : decode method_3_code 382 = .ok (.bipush 6, 2) := by decide +kernel
theorem d5_384 : decode method_3_code 384 = .ok (.bipush 105, 2) := by decide +kernel
theorem d5_386 : decode method_3_code 386 = .ok (.castore, 1) := by decide +kernel
theorem d5_387 : decode method_3_code 387 = .ok (.dup, 1) := by decide +kernel
theorem d5_388 : decode method_3_code 388 = .ok (.bipush 7, 2) := by decide +kernel
theorem d5_390 : decode method_3_code 390 = .ok (.bipush 99, 2) := by decide +kernel
theorem d5_392 : decode method_3_code 392 = .ok (.castore, 1) := by decide +kernel
theorem d5_393 : decode method_3_code 393 = .ok (.dup, 1) := by decide +kernel
theorem d5_394 : decode method_3_code 394 = .ok (.bipush 8, 2) := by decide +kernel
theorem d5_396 : decode method_3_code 396 = .ok (.bipush 105, 2) := by decide +kernel
theorem d5_398 : decode method_3_code 398 = .ok (.castore, 1) := by decide +kernel
theorem d5_399 : decode method_3_code 399 = .ok (.dup, 1) := by decide +kernel
theorem d5_400 : decode method_3_code 400 = .ok (.bipush 9, 2) := by decide +kernel
theorem d5_402 : decode method_3_code 402 = .ok (.bipush 101, 2) := by decide +kernel
theorem d5_404 : decode method_3_code 404 = .ok (.castore, 1) := by decide +kernel
theorem d5_405 : decode method_3_code 405 = .ok (.dup, 1) := by decide +kernel
theorem d5_406 : decode method_3_code 406 = .ok (.bipush 10, 2) := by decide +kernel
theorem d5_408 : decode method_3_code 408 = .ok (.bipush 110, 2) := by decide +kernel
theorem d5_410 : decode method_3_code 410 = .ok (.castore, 1) := by decide +kernel
theorem d5_411 : decode method_3_code 411 = .ok (.dup, 1) := by decide +kernel
theorem d5_412 : decode method_3_code 412 = .ok (.bipush 11, 2) := by decide +kernel
theorem d5_414 : decode method_3_code 414 = .ok (.bipush 116, 2) := by decide +kernel
theorem d5_416 : decode method_3_code 416 = .ok (.castore, 1) := by decide +kernel
theorem d5_417 : decode method_3_code 417 = .ok (.dup, 1) := by decide +kernel
theorem d5_418 : decode method_3_code 418 = .ok (.bipush 12, 2) := by decide +kernel
theorem d5_420 : decode method_3_code 420 = .ok (.bipush 32, 2) := by decide +kernel
theorem d5_422 : decode method_3_code 422 = .ok (.castore, 1) := by decide +kernel
theorem d5_423 : decode method_3_code 423 = .ok (.dup, 1) := by decide +kernel
theorem d5_424 : decode method_3_code 424 = .ok (.bipush 13, 2) := by decide +kernel
theorem d5_426 : decode method_3_code 426 = .ok (.bipush 112, 2) := by decide +kernel
theorem d5_428 : decode method_3_code 428 = .ok (.castore, 1) := by decide +kernel
theorem d5_429 : decode method_3_code 429 = .ok (.dup, 1) := by decide +kernel
theorem d5_430 : decode method_3_code 430 = .ok (.bipush 14, 2) := by decide +kernel
theorem d5_432 : decode method_3_code 432 = .ok (.bipush 101, 2) := by decide +kernel
theorem d5_434 : decode method_3_code 434 = .ok (.castore, 1) := by decide +kernel
theorem d5_435 : decode method_3_code 435 = .ok (.dup, 1) := by decide +kernel
theorem d5_436 : decode method_3_code 436 = .ok (.bipush 15, 2) := by decide +kernel
theorem d5_438 : decode method_3_code 438 = .ok (.bipush 114, 2) := by decide +kernel
theorem d5_440 : decode method_3_code 440 = .ok (.castore, 1) := by decide +kernel
theorem d5_441 : decode method_3_code 441 = .ok (.dup, 1) := by decide +kernel
theorem d5_442 : decode method_3_code 442 = .ok (.bipush 16, 2) := by decide +kernel
theorem d5_444 : decode method_3_code 444 = .ok (.bipush 109, 2) := by decide +kernel
theorem d5_446 : decode method_3_code 446 = .ok (.castore, 1) := by decide +kernel
theorem d5_447 : decode method_3_code 447 = .ok (.dup, 1) := by decide +kernel
theorem d5_448 : decode method_3_code 448 = .ok (.bipush 17, 2) := by decide +kernel
theorem d5_450 : decode method_3_code 450 = .ok (.bipush 105, 2) := by decide +kernel
theorem d5_452 : decode method_3_code 452 = .ok (.castore, 1) := by decide +kernel
theorem d5_453 : decode method_3_code 453 = .ok (.dup, 1) := by decide +kernel
theorem d5_454 : decode method_3_code 454 = .ok (.bipush 18, 2) := by decide +kernel
theorem d5_456 : decode method_3_code 456 = .ok (.bipush 115, 2) := by decide +kernel
theorem d5_458 : decode method_3_code 458 = .ok (.castore, 1) := by decide +kernel
theorem d5_459 : decode method_3_code 459 = .ok (.dup, 1) := by decide +kernel
theorem d5_460 : decode method_3_code 460 = .ok (.bipush 19, 2) := by decide +kernel
theorem d5_462 : decode method_3_code 462 = .ok (.bipush 115, 2) := by decide +kernel
theorem d5_464 : decode method_3_code 464 = .ok (.castore, 1) := by decide +kernel
theorem d5_465 : decode method_3_code 465 = .ok (.dup, 1) := by decide +kernel
theorem d5_466 : decode method_3_code 466 = .ok (.bipush 20, 2) := by decide +kernel
theorem d5_468 : decode method_3_code 468 = .ok (.bipush 105, 2) := by decide +kernel
theorem d5_470 : decode method_3_code 470 = .ok (.castore, 1) := by decide +kernel
theorem d5_471 : decode method_3_code 471 = .ok (.dup, 1) := by decide +kernel
theorem d5_472 : decode method_3_code 472 = .ok (.bipush 21, 2) := by decide +kernel
theorem d5_474 : decode method_3_code 474 = .ok (.bipush 111, 2) := by decide +kernel
theorem d5_476 : decode method_3_code 476 = .ok (.castore, 1) := by decide +kernel
theorem d5_477 : decode method_3_code 477 = .ok (.dup, 1) := by decide +kernel
theorem d5_478 : decode method_3_code 478 = .ok (.bipush 22, 2) := by decide +kernel
theorem d5_480 : decode method_3_code 480 = .ok (.bipush 110, 2) := by decide +kernel
theorem d5_482 : decode method_3_code 482 = .ok (.castore, 1) := by decide +kernel
theorem d5_483 : decode method_3_code 483 = .ok (.dup, 1) := by decide +kernel
theorem d5_484 : decode method_3_code 484 = .ok (.bipush 23, 2) := by decide +kernel
theorem d5_486 : decode method_3_code 486 = .ok (.bipush 115, 2) := by decide +kernel
theorem d5_488 : decode method_3_code 488 = .ok (.castore, 1) := by decide +kernel
theorem d5_489 : decode method_3_code 489 = .ok (.dup, 1) := by decide +kernel
theorem d5_490 : decode method_3_code 490 = .ok (.bipush 24, 2) := by decide +kernel
theorem d5_492 : decode method_3_code 492 = .ok (.bipush 58, 2) := by decide +kernel
theorem d5_494 : decode method_3_code 494 = .ok (.castore, 1) := by decide +kernel
theorem d5_495 : decode method_3_code 495 = .ok (.dup, 1) := by decide +kernel
theorem d5_496 : decode method_3_code 496 = .ok (.bipush 25, 2) := by decide +kernel
theorem d5_498 : decode method_3_code 498 = .ok (.bipush 32, 2) := by decide +kernel
theorem d5_500 : decode method_3_code 500 = .ok (.castore, 1) := by decide +kernel
theorem d5_501 : decode method_3_code 501 = .ok (.dup, 1) := by decide +kernel
theorem d5_502 : decode method_3_code 502 = .ok (.bipush 26, 2) := by decide +kernel
theorem d5_504 : decode method_3_code 504 = .ok (.iload_n 1, 1) := by decide +kernel
theorem d5_505 : decode method_3_code 505 = .ok (.castore, 1) := by decide +kernel
theorem d5_506 : decode method_3_code 506 = .ok (.dup, 1) := by decide +kernel
theorem d5_507 : decode method_3_code 507 = .ok (.bipush 27, 2) := by decide +kernel
theorem d5_509 : decode method_3_code 509 = .ok (.iload_n 2, 1) := by decide +kernel
theorem d5_510 : decode method_3_code 510 = .ok (.castore, 1) := by decide +kernel
theorem d5_511 : decode method_3_code 511 = .ok (.invokespecial 9, 3) := by decide +kernel
theorem d5_514 : decode method_3_code 514 = .ok (.areturn, 1) := by decide +kernel
def Q_rmE2 (Z : State) (p1 : Int32) (p2 : Int32) (p3 : Int32) (zc : Int32) (h0 : Heap) (n0 : Nat) (v : Option Value) (h : Heap) (L : List Loc) : Prop := ∃ (nx : Addr), ∃ (nt : Addr), ∃ (nk : ClassId), (v = some (.ref nx) ∧ Fr n0 L ∧ Keep h0 h [] ∧ h0.size ≤ nx ∧ Exa Z h nx "java/lang/String" ∧ Fld Z h nx "java/lang/String" "coder" "B" z0 ∧ Fld Z h nx "java/lang/String" "value" "[B" (.ref nt) ∧ Arv Z h nt nk .byte (28 : Int32) ((([73, 110, 115, 117, 102, 102, 105, 99, 105, 101, 110, 116, 32, 112, 101, 114, 109, 105, 115, 115, 105, 111, 110, 115, 58, 32, p1, p2] : List Int32).map (fun c => c.toInt8.toInt32)).map Value.int) z0)
set_option maxRecDepth 65536 in
set_option maxHeartbeats 40000000 in
theorem rmE2 (l : Launch) (Z : State) (a0 : Array Value) (hw : ∀ d ∈ tables_1, d.before a0 Z = true) (ws : List Jvm.Cond) (p1 : Int32) (p2 : Int32) (p3 : Int32) (zc : Int32) (h0 : Heap) (n0 : Nat) (Z0 : n0 ≤ h0.size) (uO : Old Z n0 h0) (uS : Sta Z Z.heap "java/lang/String" "COMPACT_STRINGS" "Z" (.int zc)) (uP : ¬ zc = 0) (ub_p1 : ¬ p1 < 0 ∧ ¬ (255 : Int32) < p1) (ub_p2 : ¬ p2 < 0 ∧ ¬ (255 : Int32) < p2) (ub_p3 : ¬ p3 < 0 ∧ ¬ (255 : Int32) < p3) :
    MetFree l M25 (head1 (Jvm.Cond.code M25 method_3_code 4 (some (.object "java/lang/String")) :: ws) ({ frames := 4, cells := 3, slots := 60, locals := 66 } : Room)) (fun a U => a = #[(vI 2), (.int p1), (.int p2), (.int p3)] ∧ Z.Warmed39 U.vm ∧ U.heap = h0 ∧ CHv Z own_EL U.vm h0) (fun _ _ _ _ _ => True) (fun _ U o U' => ∃ v L, o = .returned v ∧ Q_rmE2 Z p1 p2 p3 zc h0 n0 v U'.heap L ∧ CHr Z own_EL U.vm U.heap U'.vm U'.heap ∧ ReturnedEndW U o U' L ({ frames := 4, cells := 3, slots := 60, locals := 66 } : Room).cells ({ frames := 4, cells := 3, slots := 60, locals := 66 } : Room).slots) := by
  refine MetFree.of_bodySF (plainFor_of_name pn_4) hisR ?_
  intro p e s m args below meth c s₁ Bd hml0 hP hK
  obtain ⟨rfl, hZ, hh, hC0⟩ := hP
  have hx := Bd.exec
  have hby := Bd.bytes
  have hml : c.maxLocals = 4 := hml0
  have hown : s.vm.findClass "com/example/plain_hub/plainhub/HubExceptionForbiddenPinLaw" = some m.cls := findClass_of_methodNamed Bd.named
  have hnm := (name_of_methodNamed Bd.named Bd.method).1
  have X0 : Stand p l e ({ frames := 4, cells := 3, slots := 60, locals := 66 } : Room) (s.setVm s.vm) m #[(vI 2), (.int p1), (.int p2), (.int p3)] below meth c s₁ [] 0 0 := Stand.of_body Bd
  have e0 : s₁.heap = h0 := by rw [← hh, Bd.state]; rfl
  have N0 := Fr.nil n0
  have pre0 : ∀ t, Steps p.tables e below (s₁.setTop (mkF m 0 #[vi (2 : Int32), vi p1, vi p2, vi p3] [])) t → Steps p.tables e below (s₁.setTop (entryFrame m #[(vI 2), (.int p1), (.int p2), (.int p3)] 4)) t := fun t k => castTop (ef_29 m p1 p2 p3) k
  have hS0 : s.Since s.vm 0 := (State.WarmedH.refl s).since _
  have hk0 : 0 ≤ h0.size := Nat.zero_le _
  have R0 := CHr.refl hC0
  have own_hp : ∀ c ∈ ([73, 110, 115, 117, 102, 102, 105, 99, 105, 101, 110, 116, 32, 112, 101, 114, 109, 105, 115, 115, 105, 111, 110, 115, 58, 32, p1, p2] : List Int32), ¬ c < 0 ∧ ¬ (255 : Int32) < c := by
    intro c hc
    simp only [List.mem_cons, List.not_mem_nil, or_false] at hc
    rcases hc with rfl | rfl | rfl | rfl | rfl | rfl | rfl | rfl | rfl | rfl | rfl | rfl | rfl | rfl | rfl | rfl | rfl | rfl | rfl | rfl | rfl | rfl | rfl | rfl | rfl | rfl | rfl | rfl
    · exact ⟨by decide, by decide⟩
    · exact ⟨by decide, by decide⟩
    · exact ⟨by decide, by decide⟩
    · exact ⟨by decide, by decide⟩
    · exact ⟨by decide, by decide⟩
    · exact ⟨by decide, by decide⟩
    · exact ⟨by decide, by decide⟩
    · exact ⟨by decide, by decide⟩
    · exact ⟨by decide, by decide⟩
    · exact ⟨by decide, by decide⟩
    · exact ⟨by decide, by decide⟩
    · exact ⟨by decide, by decide⟩
    · exact ⟨by decide, by decide⟩
    · exact ⟨by decide, by decide⟩
    · exact ⟨by decide, by decide⟩
    · exact ⟨by decide, by decide⟩
    · exact ⟨by decide, by decide⟩
    · exact ⟨by decide, by decide⟩
    · exact ⟨by decide, by decide⟩
    · exact ⟨by decide, by decide⟩
    · exact ⟨by decide, by decide⟩
    · exact ⟨by decide, by decide⟩
    · exact ⟨by decide, by decide⟩
    · exact ⟨by decide, by decide⟩
    · exact ⟨by decide, by decide⟩
    · exact ⟨by decide, by decide⟩
    · exact ub_p1
    · exact ub_p2
  obtain ⟨T1, h1, X1, e1, E1, A1, D1, Un1, st1⟩ := newO X0 hx hZ hown (wd hw 4 rfl) (wd hw 5 rfl) (wd hw 6 rfl) e0 (g := (mkF m 343 #[vi (2 : Int32), vi p1, vi p2, vi p3] [])) rfl (hb hby d5_343) (by decide) (by decide)
  obtain ⟨b1, g1⟩ : ∃ z, z = h0.size := ⟨_, rfl⟩
  rw [← g1] at A1 D1 Un1 st1
  have Re2 := R0.trans (CHr.ext E1 hC0)
  have hCe2 := Re2.1
  have sf1 := Safe.ext E1 hC0 (Safe.new (Nat.le_of_eq g1.symm))
  have F1_value : Fld Z h1 b1 "java/lang/String" "value" "[B" .null := D1 (Or.inr (wd hw 20 rfl)) (ty := (.array .byte)) (by decide)
  have F1_coder : Fld Z h1 b1 "java/lang/String" "coder" "B" z0 := D1 (Or.inr (wd hw 21 rfl)) (ty := .byte) (by decide)
  have g_b1 : n0 ≤ b1 := Nat.le_trans Z0 (Nat.le_of_eq g1.symm)
  have sz_b1 : h0.size ≤ b1 := Nat.le_trans (Keep.refl h0 []).1 (Nat.le_of_eq g1.symm)
  have K1 : Keep h0 h1 [] := (Keep.refl h0 []).ext E1
  have Z1 : n0 ≤ h1.size := Nat.le_trans Z0 E1.1
  have hk1 : _ ≤ h1.size := Nat.le_trans hk0 E1.1
  obtain ⟨T3, h3, k3, X3, e3, E3, A3, AX3, st3⟩ := newPE X1 hx hZ (wd hw 7 rfl) e1 (g := (mkF m 349 #[vi (2 : Int32), vi p1, vi p2, vi p3] [(vI 28), (.ref b1), (.ref b1)])) rfl (hb hby d5_349) rfl (by decide) (cap := 28) (by decide) (by decide) (by decide) (by decide) (ad := "[C") (by decide)
  obtain ⟨b3, g3⟩ : ∃ z, z = h1.size := ⟨_, rfl⟩
  rw [← g3] at A3 AX3 st3
  have ne_b1_b3 : b1 ≠ b3 := Nat.ne_of_lt (Nat.lt_of_lt_of_le A1.lt (Nat.le_of_eq g3.symm))
  have Re4 := Re2.trans (CHr.ext E3 hCe2)
  have hCe4 := Re4.1
  have V3 : Arv Z h3 b3 k3 .char (28 : Int32) [z0, z0, z0, z0, z0, z0, z0, z0, z0, z0, z0, z0, z0, z0, z0, z0, z0, z0, z0, z0, z0, z0, z0, z0, z0, z0, z0, z0] z0 := (Arv.new A3 (by decide)).pad (pad_rep [] z0 28)
  have g_b3 : n0 ≤ b3 := Nat.le_trans Z1 (Nat.le_of_eq g3.symm)
  have sz_b3 : h0.size ≤ b3 := Nat.le_trans K1.1 (Nat.le_of_eq g3.symm)
  have K3 : Keep h0 h3 [] := K1.ext E3
  have Z3 : n0 ≤ h3.size := Nat.le_trans Z1 E3.1
  have hk3 : _ ≤ h3.size := Nat.le_trans hk1 E3.1
  obtain ⟨cl5, Ar5, q5, S5, Nn5, H5, G5⟩ := (id V3)
  have hin5 : ¬ ((0 : Int32) < 0 ∨ cl5.slots.size ≤ ((0 : Int32)).toNatClampNeg) := inb_of S5 ⟨by decide, by decide⟩
  obtain ⟨T5, h5, X5, e5, W5, st5⟩ := stC X3 hx hZ e3 Ar5 (j := (0 : Int32)) hin5 (g := (mkF m 355 #[vi (2 : Int32), vi p1, vi p2, vi p3] [(vI 73), z0, (.ref b3), (.ref b3), (.ref b1), (.ref b1)])) rfl rfl (hb hby d5_355)
  have Re6 := Re4.trans (CHr.wr W5 (Safe.exa hZ.alike AX3 (by decide) (by decide)) hCe4)
  have hCe6 := Re6.1
  have V5 := Arv.set Ar5 q5 S5 Nn5 H5 G5 (fits_nar_char _) W5 0 rfl (Nat.le_of_ble_eq_true rfl)
  have N5 := Fr.snoc X5 N0 g_b3
  have K5 : Keep h0 h5 [] := K3.wr W5 (Or.inr sz_b3)
  have Z5 : n0 ≤ h5.size := by rw [W5.size]; exact Z3
  have hk5 := own_szW W5 hk3
  obtain ⟨cl7, Ar7, q7, S7, Nn7, H7, G7⟩ := (id V5)
  have hin7 : ¬ ((1 : Int32) < 0 ∨ cl7.slots.size ≤ ((1 : Int32)).toNatClampNeg) := inb_of S7 ⟨by decide, by decide⟩
  obtain ⟨T7, h7, X7, e7, W7, st7⟩ := stC X5 hx hZ e5 Ar7 (j := (1 : Int32)) hin7 (g := (mkF m 360 #[vi (2 : Int32), vi p1, vi p2, vi p3] [(vI 110), (vI 1), (.ref b3), (.ref b3), (.ref b1), (.ref b1)])) rfl rfl (hb hby d5_360)
  have c8 := (AX3.wr W5)
  have Re9 := Re6.trans (CHr.wr W7 (Safe.exa hZ.alike c8 (by decide) (by decide)) hCe6)
  have hCe9 := Re9.1
  have V7 := Arv.set Ar7 q7 S7 Nn7 H7 G7 (fits_nar_char _) W7 1 rfl (Nat.le_of_ble_eq_true rfl)
  have N7 := Fr.snoc X7 N5 g_b3
  have K7 : Keep h0 h7 [] := K5.wr W7 (Or.inr sz_b3)
  have Z7 : n0 ≤ h7.size := by rw [W7.size]; exact Z5
  have hk7 := own_szW W7 hk5
  obtain ⟨cl10, Ar10, q10, S10, Nn10, H10, G10⟩ := (id V7)
  have hin10 : ¬ ((2 : Int32) < 0 ∨ cl10.slots.size ≤ ((2 : Int32)).toNatClampNeg) := inb_of S10 ⟨by decide, by decide⟩
  obtain ⟨T10, h10, X10, e10, W10, st10⟩ := stC X7 hx hZ e7 Ar10 (j := (2 : Int32)) hin10 (g := (mkF m 365 #[vi (2 : Int32), vi p1, vi p2, vi p3] [(vI 115), (vI 2), (.ref b3), (.ref b3), (.ref b1), (.ref b1)])) rfl rfl (hb hby d5_365)
  have c11 := (c8.wr W7)
  have Re12 := Re9.trans (CHr.wr W10 (Safe.exa hZ.alike c11 (by decide) (by decide)) hCe9)
  have hCe12 := Re12.1
  have V10 := Arv.set Ar10 q10 S10 Nn10 H10 G10 (fits_nar_char _) W10 2 rfl (Nat.le_of_ble_eq_true rfl)
  have N10 := Fr.snoc X10 N7 g_b3
  have K10 : Keep h0 h10 [] := K7.wr W10 (Or.inr sz_b3)
  have Z10 : n0 ≤ h10.size := by rw [W10.size]; exact Z7
  have hk10 := own_szW W10 hk7
  obtain ⟨cl13, Ar13, q13, S13, Nn13, H13, G13⟩ := (id V10)
  have hin13 : ¬ ((3 : Int32) < 0 ∨ cl13.slots.size ≤ ((3 : Int32)).toNatClampNeg) := inb_of S13 ⟨by decide, by decide⟩
  obtain ⟨T13, h13, X13, e13, W13, st13⟩ := stC X10 hx hZ e10 Ar13 (j := (3 : Int32)) hin13 (g := (mkF m 370 #[vi (2 : Int32), vi p1, vi p2, vi p3] [(vI 117), (vI 3), (.ref b3), (.ref b3), (.ref b1), (.ref b1)])) rfl rfl (hb hby d5_370)
  have c14 := (c11.wr W10)
  have Re15 := Re12.trans (CHr.wr W13 (Safe.exa hZ.alike c14 (by decide) (by decide)) hCe12)
  have hCe15 := Re15.1
  have V13 := Arv.set Ar13 q13 S13 Nn13 H13 G13 (fits_nar_char _) W13 3 rfl (Nat.le_of_ble_eq_true rfl)
  have N13 := Fr.snoc X13 N10 g_b3
  have K13 : Keep h0 h13 [] := K10.wr W13 (Or.inr sz_b3)
  have Z13 : n0 ≤ h13.size := by rw [W13.size]; exact Z10
  have hk13 := own_szW W13 hk10
  obtain ⟨cl16, Ar16, q16, S16, Nn16, H16, G16⟩ := (id V13)
  have hin16 : ¬ ((4 : Int32) < 0 ∨ cl16.slots.size ≤ ((4 : Int32)).toNatClampNeg) := inb_of S16 ⟨by decide, by decide⟩
  obtain ⟨T16, h16, X16, e16, W16, st16⟩ := stC X13 hx hZ e13 Ar16 (j := (4 : Int32)) hin16 (g := (mkF m 375 #[vi (2 : Int32), vi p1, vi p2, vi p3] [(vI 102), (vI 4), (.ref b3), (.ref b3), (.ref b1), (.ref b1)])) rfl rfl (hb hby d5_375)
  have c17 := (c14.wr W13)
  have Re18 := Re15.trans (CHr.wr W16 (Safe.exa hZ.alike c17 (by decide) (by decide)) hCe15)
  have hCe18 := Re18.1
  have V16 := Arv.set Ar16 q16 S16 Nn16 H16 G16 (fits_nar_char _) W16 4 rfl (Nat.le_of_ble_eq_true rfl)
  have N16 := Fr.snoc X16 N13 g_b3
  have K16 : Keep h0 h16 [] := K13.wr W16 (Or.inr sz_b3)
  have Z16 : n0 ≤ h16.size := by rw [W16.size]; exact Z13
  have hk16 := own_szW W16 hk13
  obtain ⟨cl19, Ar19, q19, S19, Nn19, H19, G19⟩ := (id V16)
  have hin19 : ¬ ((5 : Int32) < 0 ∨ cl19.slots.size ≤ ((5 : Int32)).toNatClampNeg) := inb_of S19 ⟨by decide, by decide⟩
  obtain ⟨T19, h19, X19, e19, W19, st19⟩ := stC X16 hx hZ e16 Ar19 (j := (5 : Int32)) hin19 (g := (mkF m 380 #[vi (2 : Int32), vi p1, vi p2, vi p3] [(vI 102), (vI 5), (.ref b3), (.ref b3), (.ref b1), (.ref b1)])) rfl rfl (hb hby d5_380)
  have c20 := (c17.wr W16)
  have Re21 := Re18.trans (CHr.wr W19 (Safe.exa hZ.alike c20 (by decide) (by decide)) hCe18)
  have hCe21 := Re21.1
  have V19 := Arv.set Ar19 q19 S19 Nn19 H19 G19 (fits_nar_char _) W19 5 rfl (Nat.le_of_ble_eq_true rfl)
  have N19 := Fr.snoc X19 N16 g_b3
  have K19 : Keep h0 h19 [] := K16.wr W19 (Or.inr sz_b3)
  have Z19 : n0 ≤ h19.size := by rw [W19.size]; exact Z16
  have hk19 := own_szW W19 hk16
  obtain ⟨cl22, Ar22, q22, S22, Nn22, H22, G22⟩ := (id V19)
  have hin22 : ¬ ((6 : Int32) < 0 ∨ cl22.slots.size ≤ ((6 : Int32)).toNatClampNeg) := inb_of S22 ⟨by decide, by decide⟩
  obtain ⟨T22, h22, X22, e22, W22, st22⟩ := stC X19 hx hZ e19 Ar22 (j := (6 : Int32)) hin22 (g := (mkF m 386 #[vi (2 : Int32), vi p1, vi p2, vi p3] [(vI 105), (vI 6), (.ref b3), (.ref b3), (.ref b1), (.ref b1)])) rfl rfl (hb hby d5_386)
  have c23 := (c20.wr W19)
  have Re24 := Re21.trans (CHr.wr W22 (Safe.exa hZ.alike c23 (by decide) (by decide)) hCe21)
  have hCe24 := Re24.1
  have V22 := Arv.set Ar22 q22 S22 Nn22 H22 G22 (fits_nar_char _) W22 6 rfl (Nat.le_of_ble_eq_true rfl)
  have N22 := Fr.snoc X22 N19 g_b3
  have K22 : Keep h0 h22 [] := K19.wr W22 (Or.inr sz_b3)
  have Z22 : n0 ≤ h22.size := by rw [W22.size]; exact Z19
  have hk22 := own_szW W22 hk19
  obtain ⟨cl25, Ar25, q25, S25, Nn25, H25, G25⟩ := (id V22)
  have hin25 : ¬ ((7 : Int32) < 0 ∨ cl25.slots.size ≤ ((7 : Int32)).toNatClampNeg) := inb_of S25 ⟨by decide, by decide⟩
  obtain ⟨T25, h25, X25, e25, W25, st25⟩ := stC X22 hx hZ e22 Ar25 (j := (7 : Int32)) hin25 (g := (mkF m 392 #[vi (2 : Int32), vi p1, vi p2, vi p3] [(vI 99), (vI 7), (.ref b3), (.ref b3), (.ref b1), (.ref b1)])) rfl rfl (hb hby d5_392)
  have c26 := (c23.wr W22)
  have Re27 := Re24.trans (CHr.wr W25 (Safe.exa hZ.alike c26 (by decide) (by decide)) hCe24)
  have hCe27 := Re27.1
  have V25 := Arv.set Ar25 q25 S25 Nn25 H25 G25 (fits_nar_char _) W25 7 rfl (Nat.le_of_ble_eq_true rfl)
  have N25 := Fr.snoc X25 N22 g_b3
  have K25 : Keep h0 h25 [] := K22.wr W25 (Or.inr sz_b3)
  have Z25 : n0 ≤ h25.size := by rw [W25.size]; exact Z22
  have hk25 := own_szW W25 hk22
  obtain ⟨cl28, Ar28, q28, S28, Nn28, H28, G28⟩ := (id V25)
  have hin28 : ¬ ((8 : Int32) < 0 ∨ cl28.slots.size ≤ ((8 : Int32)).toNatClampNeg) := inb_of S28 ⟨by decide, by decide⟩
  obtain ⟨T28, h28, X28, e28, W28, st28⟩ := stC X25 hx hZ e25 Ar28 (j := (8 : Int32)) hin28 (g := (mkF m 398 #[vi (2 : Int32), vi p1, vi p2, vi p3] [(vI 105), (vI 8), (.ref b3), (.ref b3), (.ref b1), (.ref b1)])) rfl rfl (hb hby d5_398)
  have c29 := (c26.wr W25)
  have Re30 := Re27.trans (CHr.wr W28 (Safe.exa hZ.alike c29 (by decide) (by decide)) hCe27)
  have hCe30 := Re30.1
  have V28 := Arv.set Ar28 q28 S28 Nn28 H28 G28 (fits_nar_char _) W28 8 rfl (Nat.le_of_ble_eq_true rfl)
  have N28 := Fr.snoc X28 N25 g_b3
  have K28 : Keep h0 h28 [] := K25.wr W28 (Or.inr sz_b3)
  have Z28 : n0 ≤ h28.size := by rw [W28.size]; exact Z25
  have hk28 := own_szW W28 hk25
  obtain ⟨cl31, Ar31, q31, S31, Nn31, H31, G31⟩ := (id V28)
  have hin31 : ¬ ((9 : Int32) < 0 ∨ cl31.slots.size ≤ ((9 : Int32)).toNatClampNeg) := inb_of S31 ⟨by decide, by decide⟩
  obtain ⟨T31, h31, X31, e31, W31, st31⟩ := stC X28 hx hZ e28 Ar31 (j := (9 : Int32)) hin31 (g := (mkF m 404 #[vi (2 : Int32), vi p1, vi p2, vi p3] [(vI 101), (vI 9), (.ref b3), (.ref b3), (.ref b1), (.ref b1)])) rfl rfl (hb hby d5_404)
  have c32 := (c29.wr W28)
  have Re33 := Re30.trans (CHr.wr W31 (Safe.exa hZ.alike c32 (by decide) (by decide)) hCe30)
  have hCe33 := Re33.1
  have V31 := Arv.set Ar31 q31 S31 Nn31 H31 G31 (fits_nar_char _) W31 9 rfl (Nat.le_of_ble_eq_true rfl)
  have N31 := Fr.snoc X31 N28 g_b3
  have K31 : Keep h0 h31 [] := K28.wr W31 (Or.inr sz_b3)
  have Z31 : n0 ≤ h31.size := by rw [W31.size]; exact Z28
  have hk31 := own_szW W31 hk28
  obtain ⟨cl34, Ar34, q34, S34, Nn34, H34, G34⟩ := (id V31)
  have hin34 : ¬ ((10 : Int32) < 0 ∨ cl34.slots.size ≤ ((10 : Int32)).toNatClampNeg) := inb_of S34 ⟨by decide, by decide⟩
  obtain ⟨T34, h34, X34, e34, W34, st34⟩ := stC X31 hx hZ e31 Ar34 (j := (10 : Int32)) hin34 (g := (mkF m 410 #[vi (2 : Int32), vi p1, vi p2, vi p3] [(vI 110), (vI 10), (.ref b3), (.ref b3), (.ref b1), (.ref b1)])) rfl rfl (hb hby d5_410)
  have c35 := (c32.wr W31)
  have Re36 := Re33.trans (CHr.wr W34 (Safe.exa hZ.alike c35 (by decide) (by decide)) hCe33)
  have hCe36 := Re36.1
  have V34 := Arv.set Ar34 q34 S34 Nn34 H34 G34 (fits_nar_char _) W34 10 rfl (Nat.le_of_ble_eq_true rfl)
  have N34 := Fr.snoc X34 N31 g_b3
  have K34 : Keep h0 h34 [] := K31.wr W34 (Or.inr sz_b3)
  have Z34 : n0 ≤ h34.size := by rw [W34.size]; exact Z31
  have hk34 := own_szW W34 hk31
  obtain ⟨cl37, Ar37, q37, S37, Nn37, H37, G37⟩ := (id V34)
  have hin37 : ¬ ((11 : Int32) < 0 ∨ cl37.slots.size ≤ ((11 : Int32)).toNatClampNeg) := inb_of S37 ⟨by decide, by decide⟩
  obtain ⟨T37, h37, X37, e37, W37, st37⟩ := stC X34 hx hZ e34 Ar37 (j := (11 : Int32)) hin37 (g := (mkF m 416 #[vi (2 : Int32), vi p1, vi p2, vi p3] [(vI 116), (vI 11), (.ref b3), (.ref b3), (.ref b1), (.ref b1)])) rfl rfl (hb hby d5_416)
  have c38 := (c35.wr W34)
  have Re39 := Re36.trans (CHr.wr W37 (Safe.exa hZ.alike c38 (by decide) (by decide)) hCe36)
  have hCe39 := Re39.1
  have V37 := Arv.set Ar37 q37 S37 Nn37 H37 G37 (fits_nar_char _) W37 11 rfl (Nat.le_of_ble_eq_true rfl)
  have N37 := Fr.snoc X37 N34 g_b3
  have K37 : Keep h0 h37 [] := K34.wr W37 (Or.inr sz_b3)
  have Z37 : n0 ≤ h37.size := by rw [W37.size]; exact Z34
  have hk37 := own_szW W37 hk34
  obtain ⟨cl40, Ar40, q40, S40, Nn40, H40, G40⟩ := (id V37)
  have hin40 : ¬ ((12 : Int32) < 0 ∨ cl40.slots.size ≤ ((12 : Int32)).toNatClampNeg) := inb_of S40 ⟨by decide, by decide⟩
  obtain ⟨T40, h40, X40, e40, W40, st40⟩ := stC X37 hx hZ e37 Ar40 (j := (12 : Int32)) hin40 (g := (mkF m 422 #[vi (2 : Int32), vi p1, vi p2, vi p3] [(vI 32), (vI 12), (.ref b3), (.ref b3), (.ref b1), (.ref b1)])) rfl rfl (hb hby d5_422)
  have c41 := (c38.wr W37)
  have Re42 := Re39.trans (CHr.wr W40 (Safe.exa hZ.alike c41 (by decide) (by decide)) hCe39)
  have hCe42 := Re42.1
  have V40 := Arv.set Ar40 q40 S40 Nn40 H40 G40 (fits_nar_char _) W40 12 rfl (Nat.le_of_ble_eq_true rfl)
  have N40 := Fr.snoc X40 N37 g_b3
  have K40 : Keep h0 h40 [] := K37.wr W40 (Or.inr sz_b3)
  have Z40 : n0 ≤ h40.size := by rw [W40.size]; exact Z37
  have hk40 := own_szW W40 hk37
  obtain ⟨cl43, Ar43, q43, S43, Nn43, H43, G43⟩ := (id V40)
  have hin43 : ¬ ((13 : Int32) < 0 ∨ cl43.slots.size ≤ ((13 : Int32)).toNatClampNeg) := inb_of S43 ⟨by decide, by decide⟩
  obtain ⟨T43, h43, X43, e43, W43, st43⟩ := stC X40 hx hZ e40 Ar43 (j := (13 : Int32)) hin43 (g := (mkF m 428 #[vi (2 : Int32), vi p1, vi p2, vi p3] [(vI 112), (vI 13), (.ref b3), (.ref b3), (.ref b1), (.ref b1)])) rfl rfl (hb hby d5_428)
  have c44 := (c41.wr W40)
  have Re45 := Re42.trans (CHr.wr W43 (Safe.exa hZ.alike c44 (by decide) (by decide)) hCe42)
  have hCe45 := Re45.1
  have V43 := Arv.set Ar43 q43 S43 Nn43 H43 G43 (fits_nar_char _) W43 13 rfl (Nat.le_of_ble_eq_true rfl)
  have N43 := Fr.snoc X43 N40 g_b3
  have K43 : Keep h0 h43 [] := K40.wr W43 (Or.inr sz_b3)
  have Z43 : n0 ≤ h43.size := by rw [W43.size]; exact Z40
  have hk43 := own_szW W43 hk40
  obtain ⟨cl46, Ar46, q46, S46, Nn46, H46, G46⟩ := (id V43)
  have hin46 : ¬ ((14 : Int32) < 0 ∨ cl46.slots.size ≤ ((14 : Int32)).toNatClampNeg) := inb_of S46 ⟨by decide, by decide⟩
  obtain ⟨T46, h46, X46, e46, W46, st46⟩ := stC X43 hx hZ e43 Ar46 (j := (14 : Int32)) hin46 (g := (mkF m 434 #[vi (2 : Int32), vi p1, vi p2, vi p3] [(vI 101), (vI 14), (.ref b3), (.ref b3), (.ref b1), (.ref b1)])) rfl rfl (hb hby d5_434)
  have c47 := (c44.wr W43)
  have Re48 := Re45.trans (CHr.wr W46 (Safe.exa hZ.alike c47 (by decide) (by decide)) hCe45)
  have hCe48 := Re48.1
  have V46 := Arv.set Ar46 q46 S46 Nn46 H46 G46 (fits_nar_char _) W46 14 rfl (Nat.le_of_ble_eq_true rfl)
  have N46 := Fr.snoc X46 N43 g_b3
  have K46 : Keep h0 h46 [] := K43.wr W46 (Or.inr sz_b3)
  have Z46 : n0 ≤ h46.size := by rw [W46.size]; exact Z43
  have hk46 := own_szW W46 hk43
  obtain ⟨cl49, Ar49, q49, S49, Nn49, H49, G49⟩ := (id V46)
  have hin49 : ¬ ((15 : Int32) < 0 ∨ cl49.slots.size ≤ ((15 : Int32)).toNatClampNeg) := inb_of S49 ⟨by decide, by decide⟩
  obtain ⟨T49, h49, X49, e49, W49, st49⟩ := stC X46 hx hZ e46 Ar49 (j := (15 : Int32)) hin49 (g := (mkF m 440 #[vi (2 : Int32), vi p1, vi p2, vi p3] [(vI 114), (vI 15), (.ref b3), (.ref b3), (.ref b1), (.ref b1)])) rfl rfl (hb hby d5_440)
  have c50 := (c47.wr W46)
  have Re51 := Re48.trans (CHr.wr W49 (Safe.exa hZ.alike c50 (by decide) (by decide)) hCe48)
  have hCe51 := Re51.1
  have V49 := Arv.set Ar49 q49 S49 Nn49 H49 G49 (fits_nar_char _) W49 15 rfl (Nat.le_of_ble_eq_true rfl)
  have N49 := Fr.snoc X49 N46 g_b3
  have K49 : Keep h0 h49 [] := K46.wr W49 (Or.inr sz_b3)
  have Z49 : n0 ≤ h49.size := by rw [W49.size]; exact Z46
  have hk49 := own_szW W49 hk46
  obtain ⟨cl52, Ar52, q52, S52, Nn52, H52, G52⟩ := (id V49)
  have hin52 : ¬ ((16 : Int32) < 0 ∨ cl52.slots.size ≤ ((16 : Int32)).toNatClampNeg) := inb_of S52 ⟨by decide, by decide⟩
  obtain ⟨T52, h52, X52, e52, W52, st52⟩ := stC X49 hx hZ e49 Ar52 (j := (16 : Int32)) hin52 (g := (mkF m 446 #[vi (2 : Int32), vi p1, vi p2, vi p3] [(vI 109), (vI 16), (.ref b3), (.ref b3), (.ref b1), (.ref b1)])) rfl rfl (hb hby d5_446)
  have c53 := (c50.wr W49)
  have Re54 := Re51.trans (CHr.wr W52 (Safe.exa hZ.alike c53 (by decide) (by decide)) hCe51)
  have hCe54 := Re54.1
  have V52 := Arv.set Ar52 q52 S52 Nn52 H52 G52 (fits_nar_char _) W52 16 rfl (Nat.le_of_ble_eq_true rfl)
  have N52 := Fr.snoc X52 N49 g_b3
  have K52 : Keep h0 h52 [] := K49.wr W52 (Or.inr sz_b3)
  have Z52 : n0 ≤ h52.size := by rw [W52.size]; exact Z49
  have hk52 := own_szW W52 hk49
  obtain ⟨cl55, Ar55, q55, S55, Nn55, H55, G55⟩ := (id V52)
  have hin55 : ¬ ((17 : Int32) < 0 ∨ cl55.slots.size ≤ ((17 : Int32)).toNatClampNeg) := inb_of S55 ⟨by decide, by decide⟩
  obtain ⟨T55, h55, X55, e55, W55, st55⟩ := stC X52 hx hZ e52 Ar55 (j := (17 : Int32)) hin55 (g := (mkF m 452 #[vi (2 : Int32), vi p1, vi p2, vi p3] [(vI 105), (vI 17), (.ref b3), (.ref b3), (.ref b1), (.ref b1)])) rfl rfl (hb hby d5_452)
  have c56 := (c53.wr W52)
  have Re57 := Re54.trans (CHr.wr W55 (Safe.exa hZ.alike c56 (by decide) (by decide)) hCe54)
  have hCe57 := Re57.1
  have V55 := Arv.set Ar55 q55 S55 Nn55 H55 G55 (fits_nar_char _) W55 17 rfl (Nat.le_of_ble_eq_true rfl)
  have N55 := Fr.snoc X55 N52 g_b3
  have K55 : Keep h0 h55 [] := K52.wr W55 (Or.inr sz_b3)
  have Z55 : n0 ≤ h55.size := by rw [W55.size]; exact Z52
  have hk55 := own_szW W55 hk52
  obtain ⟨cl58, Ar58, q58, S58, Nn58, H58, G58⟩ := (id V55)
  have hin58 : ¬ ((18 : Int32) < 0 ∨ cl58.slots.size ≤ ((18 : Int32)).toNatClampNeg) := inb_of S58 ⟨by decide, by decide⟩
  obtain ⟨T58, h58, X58, e58, W58, st58⟩ := stC X55 hx hZ e55 Ar58 (j := (18 : Int32)) hin58 (g := (mkF m 458 #[vi (2 : Int32), vi p1, vi p2, vi p3] [(vI 115), (vI 18), (.ref b3), (.ref b3), (.ref b1), (.ref b1)])) rfl rfl (hb hby d5_458)
  have c59 := (c56.wr W55)
  have Re60 := Re57.trans (CHr.wr W58 (Safe.exa hZ.alike c59 (by decide) (by decide)) hCe57)
  have hCe60 := Re60.1
  have V58 := Arv.set Ar58 q58 S58 Nn58 H58 G58 (fits_nar_char _) W58 18 rfl (Nat.le_of_ble_eq_true rfl)
  have N58 := Fr.snoc X58 N55 g_b3
  have K58 : Keep h0 h58 [] := K55.wr W58 (Or.inr sz_b3)
  have Z58 : n0 ≤ h58.size := by rw [W58.size]; exact Z55
  have hk58 := own_szW W58 hk55
  obtain ⟨cl61, Ar61, q61, S61, Nn61, H61, G61⟩ := (id V58)
  have hin61 : ¬ ((19 : Int32) < 0 ∨ cl61.slots.size ≤ ((19 : Int32)).toNatClampNeg) := inb_of S61 ⟨by decide, by decide⟩
  obtain ⟨T61, h61, X61, e61, W61, st61⟩ := stC X58 hx hZ e58 Ar61 (j := (19 : Int32)) hin61 (g := (mkF m 464 #[vi (2 : Int32), vi p1, vi p2, vi p3] [(vI 115), (vI 19), (.ref b3), (.ref b3), (.ref b1), (.ref b1)])) rfl rfl (hb hby d5_464)
  have c62 := (c59.wr W58)
  have Re63 := Re60.trans (CHr.wr W61 (Safe.exa hZ.alike c62 (by decide) (by decide)) hCe60)
  have hCe63 := Re63.1
  have V61 := Arv.set Ar61 q61 S61 Nn61 H61 G61 (fits_nar_char _) W61 19 rfl (Nat.le_of_ble_eq_true rfl)
  have N61 := Fr.snoc X61 N58 g_b3
  have K61 : Keep h0 h61 [] := K58.wr W61 (Or.inr sz_b3)
  have Z61 : n0 ≤ h61.size := by rw [W61.size]; exact Z58
  have hk61 := own_szW W61 hk58
  obtain ⟨cl64, Ar64, q64, S64, Nn64, H64, G64⟩ := (id V61)
  have hin64 : ¬ ((20 : Int32) < 0 ∨ cl64.slots.size ≤ ((20 : Int32)).toNatClampNeg) := inb_of S64 ⟨by decide, by decide⟩
  obtain ⟨T64, h64, X64, e64, W64, st64⟩ := stC X61 hx hZ e61 Ar64 (j := (20 : Int32)) hin64 (g := (mkF m 470 #[vi (2 : Int32), vi p1, vi p2, vi p3] [(vI 105), (vI 20), (.ref b3), (.ref b3), (.ref b1), (.ref b1)])) rfl rfl (hb hby d5_470)
  have c65 := (c62.wr W61)
  have Re66 := Re63.trans (CHr.wr W64 (Safe.exa hZ.alike c65 (by decide) (by decide)) hCe63)
  have hCe66 := Re66.1
  have V64 := Arv.set Ar64 q64 S64 Nn64 H64 G64 (fits_nar_char _) W64 20 rfl (Nat.le_of_ble_eq_true rfl)
  have N64 := Fr.snoc X64 N61 g_b3
  have K64 : Keep h0 h64 [] := K61.wr W64 (Or.inr sz_b3)
  have Z64 : n0 ≤ h64.size := by rw [W64.size]; exact Z61
  have hk64 := own_szW W64 hk61
  obtain ⟨cl67, Ar67, q67, S67, Nn67, H67, G67⟩ := (id V64)
  have hin67 : ¬ ((21 : Int32) < 0 ∨ cl67.slots.size ≤ ((21 : Int32)).toNatClampNeg) := inb_of S67 ⟨by decide, by decide⟩
  obtain ⟨T67, h67, X67, e67, W67, st67⟩ := stC X64 hx hZ e64 Ar67 (j := (21 : Int32)) hin67 (g := (mkF m 476 #[vi (2 : Int32), vi p1, vi p2, vi p3] [(vI 111), (vI 21), (.ref b3), (.ref b3), (.ref b1), (.ref b1)])) rfl rfl (hb hby d5_476)
  have c68 := (c65.wr W64)
  have Re69 := Re66.trans (CHr.wr W67 (Safe.exa hZ.alike c68 (by decide) (by decide)) hCe66)
  have hCe69 := Re69.1
  have V67 := Arv.set Ar67 q67 S67 Nn67 H67 G67 (fits_nar_char _) W67 21 rfl (Nat.le_of_ble_eq_true rfl)
  have N67 := Fr.snoc X67 N64 g_b3
  have K67 : Keep h0 h67 [] := K64.wr W67 (Or.inr sz_b3)
  have Z67 : n0 ≤ h67.size := by rw [W67.size]; exact Z64
  have hk67 := own_szW W67 hk64
  obtain ⟨cl70, Ar70, q70, S70, Nn70, H70, G70⟩ := (id V67)
  have hin70 : ¬ ((22 : Int32) < 0 ∨ cl70.slots.size ≤ ((22 : Int32)).toNatClampNeg) := inb_of S70 ⟨by decide, by decide⟩
  obtain ⟨T70, h70, X70, e70, W70, st70⟩ := stC X67 hx hZ e67 Ar70 (j := (22 : Int32)) hin70 (g := (mkF m 482 #[vi (2 : Int32), vi p1, vi p2, vi p3] [(vI 110), (vI 22), (.ref b3), (.ref b3), (.ref b1), (.ref b1)])) rfl rfl (hb hby d5_482)
  have c71 := (c68.wr W67)
  have Re72 := Re69.trans (CHr.wr W70 (Safe.exa hZ.alike c71 (by decide) (by decide)) hCe69)
  have hCe72 := Re72.1
  have V70 := Arv.set Ar70 q70 S70 Nn70 H70 G70 (fits_nar_char _) W70 22 rfl (Nat.le_of_ble_eq_true rfl)
  have N70 := Fr.snoc X70 N67 g_b3
  have K70 : Keep h0 h70 [] := K67.wr W70 (Or.inr sz_b3)
  have Z70 : n0 ≤ h70.size := by rw [W70.size]; exact Z67
  have hk70 := own_szW W70 hk67
  obtain ⟨cl73, Ar73, q73, S73, Nn73, H73, G73⟩ := (id V70)
  have hin73 : ¬ ((23 : Int32) < 0 ∨ cl73.slots.size ≤ ((23 : Int32)).toNatClampNeg) := inb_of S73 ⟨by decide, by decide⟩
  obtain ⟨T73, h73, X73, e73, W73, st73⟩ := stC X70 hx hZ e70 Ar73 (j := (23 : Int32)) hin73 (g := (mkF m 488 #[vi (2 : Int32), vi p1, vi p2, vi p3] [(vI 115), (vI 23), (.ref b3), (.ref b3), (.ref b1), (.ref b1)])) rfl rfl (hb hby d5_488)
  have c74 := (c71.wr W70)
  have Re75 := Re72.trans (CHr.wr W73 (Safe.exa hZ.alike c74 (by decide) (by decide)) hCe72)
  have hCe75 := Re75.1
  have V73 := Arv.set Ar73 q73 S73 Nn73 H73 G73 (fits_nar_char _) W73 23 rfl (Nat.le_of_ble_eq_true rfl)
  have N73 := Fr.snoc X73 N70 g_b3
  have K73 : Keep h0 h73 [] := K70.wr W73 (Or.inr sz_b3)
  have Z73 : n0 ≤ h73.size := by rw [W73.size]; exact Z70
  have hk73 := own_szW W73 hk70
  obtain ⟨cl76, Ar76, q76, S76, Nn76, H76, G76⟩ := (id V73)
  have hin76 : ¬ ((24 : Int32) < 0 ∨ cl76.slots.size ≤ ((24 : Int32)).toNatClampNeg) := inb_of S76 ⟨by decide, by decide⟩
  obtain ⟨T76, h76, X76, e76, W76, st76⟩ := stC X73 hx hZ e73 Ar76 (j := (24 : Int32)) hin76 (g := (mkF m 494 #[vi (2 : Int32), vi p1, vi p2, vi p3] [(vI 58), (vI 24), (.ref b3), (.ref b3), (.ref b1), (.ref b1)])) rfl rfl (hb hby d5_494)
  have c77 := (c74.wr W73)
  have Re78 := Re75.trans (CHr.wr W76 (Safe.exa hZ.alike c77 (by decide) (by decide)) hCe75)
  have hCe78 := Re78.1
  have V76 := Arv.set Ar76 q76 S76 Nn76 H76 G76 (fits_nar_char _) W76 24 rfl (Nat.le_of_ble_eq_true rfl)
  have N76 := Fr.snoc X76 N73 g_b3
  have K76 : Keep h0 h76 [] := K73.wr W76 (Or.inr sz_b3)
  have Z76 : n0 ≤ h76.size := by rw [W76.size]; exact Z73
  have hk76 := own_szW W76 hk73
  obtain ⟨cl79, Ar79, q79, S79, Nn79, H79, G79⟩ := (id V76)
  have hin79 : ¬ ((25 : Int32) < 0 ∨ cl79.slots.size ≤ ((25 : Int32)).toNatClampNeg) := inb_of S79 ⟨by decide, by decide⟩
  obtain ⟨T79, h79, X79, e79, W79, st79⟩ := stC X76 hx hZ e76 Ar79 (j := (25 : Int32)) hin79 (g := (mkF m 500 #[vi (2 : Int32), vi p1, vi p2, vi p3] [(vI 32), (vI 25), (.ref b3), (.ref b3), (.ref b1), (.ref b1)])) rfl rfl (hb hby d5_500)
  have c80 := (c77.wr W76)
  have Re81 := Re78.trans (CHr.wr W79 (Safe.exa hZ.alike c80 (by decide) (by decide)) hCe78)
  have hCe81 := Re81.1
  have V79 := Arv.set Ar79 q79 S79 Nn79 H79 G79 (fits_nar_char _) W79 25 rfl (Nat.le_of_ble_eq_true rfl)
  have N79 := Fr.snoc X79 N76 g_b3
  have K79 : Keep h0 h79 [] := K76.wr W79 (Or.inr sz_b3)
  have Z79 : n0 ≤ h79.size := by rw [W79.size]; exact Z76
  have hk79 := own_szW W79 hk76
  obtain ⟨cl82, Ar82, q82, S82, Nn82, H82, G82⟩ := (id V79)
  have hin82 : ¬ ((26 : Int32) < 0 ∨ cl82.slots.size ≤ ((26 : Int32)).toNatClampNeg) := inb_of S82 ⟨by decide, by decide⟩
  obtain ⟨T82, h82, X82, e82, W82, st82⟩ := stC X79 hx hZ e79 Ar82 (j := (26 : Int32)) hin82 (g := (mkF m 505 #[vi (2 : Int32), vi p1, vi p2, vi p3] [(.int p1), (vI 26), (.ref b3), (.ref b3), (.ref b1), (.ref b1)])) rfl rfl (hb hby d5_505)
  have c83 := (c80.wr W79)
  have Re84 := Re81.trans (CHr.wr W82 (Safe.exa hZ.alike c83 (by decide) (by decide)) hCe81)
  have hCe84 := Re84.1
  have V82 : Arv Z h82 b3 k3 .char (28 : Int32) [(vI 73), (vI 110), (vI 115), (vI 117), (vI 102), (vI 102), (vI 105), (vI 99), (vI 105), (vI 101), (vI 110), (vI 116), (vI 32), (vI 112), (vI 101), (vI 114), (vI 109), (vI 105), (vI 115), (vI 115), (vI 105), (vI 111), (vI 110), (vI 115), (vI 58), (vI 32), (.int (nar .char p1)), z0] z0 := Arv.set Ar82 q82 S82 Nn82 H82 G82 (fits_nar_char _) W82 26 rfl (Nat.le_of_ble_eq_true rfl)
  have Vn82 : Arv Z h82 b3 k3 .char (28 : Int32) [(vI 73), (vI 110), (vI 115), (vI 117), (vI 102), (vI 102), (vI 105), (vI 99), (vI 105), (vI 101), (vI 110), (vI 116), (vI 32), (vI 112), (vI 101), (vI 114), (vI 109), (vI 105), (vI 115), (vI 115), (vI 105), (vI 111), (vI 110), (vI 115), (vI 58), (vI 32), (.int p1), z0] z0 := by have q := V82; rw [(own_ne ub_p1)] at q; exact q
  have N82 := Fr.snoc X82 N79 g_b3
  have K82 : Keep h0 h82 [] := K79.wr W82 (Or.inr sz_b3)
  have Z82 : n0 ≤ h82.size := by rw [W82.size]; exact Z79
  have hk82 := own_szW W82 hk79
  obtain ⟨cl85, Ar85, q85, S85, Nn85, H85, G85⟩ := (id Vn82)
  have hin85 : ¬ ((27 : Int32) < 0 ∨ cl85.slots.size ≤ ((27 : Int32)).toNatClampNeg) := inb_of S85 ⟨by decide, by decide⟩
  obtain ⟨T85, h85, X85, e85, W85, st85⟩ := stC X82 hx hZ e82 Ar85 (j := (27 : Int32)) hin85 (g := (mkF m 510 #[vi (2 : Int32), vi p1, vi p2, vi p3] [(.int p2), (vI 27), (.ref b3), (.ref b3), (.ref b1), (.ref b1)])) rfl rfl (hb hby d5_510)
  have c86 := (c83.wr W82)
  have Re87 := Re84.trans (CHr.wr W85 (Safe.exa hZ.alike c86 (by decide) (by decide)) hCe84)
  have hCe87 := Re87.1
  have V85 : Arv Z h85 b3 k3 .char (28 : Int32) [(vI 73), (vI 110), (vI 115), (vI 117), (vI 102), (vI 102), (vI 105), (vI 99), (vI 105), (vI 101), (vI 110), (vI 116), (vI 32), (vI 112), (vI 101), (vI 114), (vI 109), (vI 105), (vI 115), (vI 115), (vI 105), (vI 111), (vI 110), (vI 115), (vI 58), (vI 32), (.int p1), (.int (nar .char p2))] z0 := Arv.set Ar85 q85 S85 Nn85 H85 G85 (fits_nar_char _) W85 27 rfl (Nat.le_of_ble_eq_true rfl)
  have Vn85 : Arv Z h85 b3 k3 .char (28 : Int32) [(vI 73), (vI 110), (vI 115), (vI 117), (vI 102), (vI 102), (vI 105), (vI 99), (vI 105), (vI 101), (vI 110), (vI 116), (vI 32), (vI 112), (vI 101), (vI 114), (vI 109), (vI 105), (vI 115), (vI 115), (vI 105), (vI 111), (vI 110), (vI 115), (vI 58), (vI 32), (.int p1), (.int p2)] z0 := by have q := V85; rw [(own_ne ub_p2)] at q; exact q
  have N85 := Fr.snoc X85 N82 g_b3
  have K85 : Keep h0 h85 [] := K82.wr W85 (Or.inr sz_b3)
  have Z85 : n0 ≤ h85.size := by rw [W85.size]; exact Z82
  have hk85 := own_szW W85 hk82
  have c89 := (((((((((((((((((((((((((((((A1.ext E3).wr W5).wr W7).wr W10).wr W13).wr W16).wr W19).wr W22).wr W25).wr W28).wr W31).wr W34).wr W37).wr W40).wr W43).wr W46).wr W49).wr W52).wr W55).wr W58).wr W61).wr W64).wr W67).wr W70).wr W73).wr W76).wr W79).wr W82).wr W85)
  have c90 := (((((((((((((((((((((((((((((F1_value.ext E3).other W5 (Or.inl ne_b1_b3)).other W7 (Or.inl ne_b1_b3)).other W10 (Or.inl ne_b1_b3)).other W13 (Or.inl ne_b1_b3)).other W16 (Or.inl ne_b1_b3)).other W19 (Or.inl ne_b1_b3)).other W22 (Or.inl ne_b1_b3)).other W25 (Or.inl ne_b1_b3)).other W28 (Or.inl ne_b1_b3)).other W31 (Or.inl ne_b1_b3)).other W34 (Or.inl ne_b1_b3)).other W37 (Or.inl ne_b1_b3)).other W40 (Or.inl ne_b1_b3)).other W43 (Or.inl ne_b1_b3)).other W46 (Or.inl ne_b1_b3)).other W49 (Or.inl ne_b1_b3)).other W52 (Or.inl ne_b1_b3)).other W55 (Or.inl ne_b1_b3)).other W58 (Or.inl ne_b1_b3)).other W61 (Or.inl ne_b1_b3)).other W64 (Or.inl ne_b1_b3)).other W67 (Or.inl ne_b1_b3)).other W70 (Or.inl ne_b1_b3)).other W73 (Or.inl ne_b1_b3)).other W76 (Or.inl ne_b1_b3)).other W79 (Or.inl ne_b1_b3)).other W82 (Or.inl ne_b1_b3)).other W85 (Or.inl ne_b1_b3))
  have c91 := (((((((((((((((((((((((((((((F1_coder.ext E3).other W5 (Or.inl ne_b1_b3)).other W7 (Or.inl ne_b1_b3)).other W10 (Or.inl ne_b1_b3)).other W13 (Or.inl ne_b1_b3)).other W16 (Or.inl ne_b1_b3)).other W19 (Or.inl ne_b1_b3)).other W22 (Or.inl ne_b1_b3)).other W25 (Or.inl ne_b1_b3)).other W28 (Or.inl ne_b1_b3)).other W31 (Or.inl ne_b1_b3)).other W34 (Or.inl ne_b1_b3)).other W37 (Or.inl ne_b1_b3)).other W40 (Or.inl ne_b1_b3)).other W43 (Or.inl ne_b1_b3)).other W46 (Or.inl ne_b1_b3)).other W49 (Or.inl ne_b1_b3)).other W52 (Or.inl ne_b1_b3)).other W55 (Or.inl ne_b1_b3)).other W58 (Or.inl ne_b1_b3)).other W61 (Or.inl ne_b1_b3)).other W64 (Or.inl ne_b1_b3)).other W67 (Or.inl ne_b1_b3)).other W70 (Or.inl ne_b1_b3)).other W73 (Or.inl ne_b1_b3)).other W76 (Or.inl ne_b1_b3)).other W79 (Or.inl ne_b1_b3)).other W82 (Or.inl ne_b1_b3)).other W85 (Or.inl ne_b1_b3))
  have c92 := ((((((((((((((((((((((((((((((uO.ext E1).ext E3).wr W5 g_b3).wr W7 g_b3).wr W10 g_b3).wr W13 g_b3).wr W16 g_b3).wr W19 g_b3).wr W22 g_b3).wr W25 g_b3).wr W28 g_b3).wr W31 g_b3).wr W34 g_b3).wr W37 g_b3).wr W40 g_b3).wr W43 g_b3).wr W46 g_b3).wr W49 g_b3).wr W52 g_b3).wr W55 g_b3).wr W58 g_b3).wr W61 g_b3).wr W64 g_b3).wr W67 g_b3).wr W70 g_b3).wr W73 g_b3).wr W76 g_b3).wr W79 g_b3).wr W82 g_b3).wr W85 g_b3)
  obtain ⟨_, _, ⟨T88, Lw88, kw88, nw88⟩, -, X88, ⟨Lc88, hQ88, lq88, yq88, zq88⟩, st88⟩ := X85.specialBack hx (y := M23) rfl hown (mvT hZ (wd hw 8 rfl)) (mvT hZ (wd hw 9 rfl)) (mvT hZ (wd hw 10 rfl)) (by decide) (StrChars.Road.backV (W := 1) hZ (fun d hd => hw d (own_w_words d hd)) (kI := 4) (wd hw 5 rfl) (cs := ([73, 110, 115, 117, 102, 102, 105, 99, 105, 101, 110, 116, 32, 112, 101, 114, 109, 105, 115, 115, 105, 111, 110, 115, 58, 32, p1, p2] : List Int32)) (bs := (([73, 110, 115, 117, 102, 102, 105, 99, 105, 101, 110, 116, 32, 112, 101, 114, 109, 105, 115, 115, 105, 111, 110, 115, 58, 32, p1, p2] : List Int32).map (fun c => c.toInt8.toInt32))) (n := 28) g_b1 Z85 c89 c90 c91 Vn85 (uS.ext c92.2) uP rfl rfl (by decide) (by decide) own_hp rfl (by decide) (by decide)) (g := (mkF m 511 #[vi (2 : Int32), vi p1, vi p2, vi p3] [(.ref b3), (.ref b1), (.ref b1)])) rfl (by rw [hml]; rfl) (Steps.refl _) (a := b1) (argsL := [(.ref b3)]) (rest := [(.ref b1)]) (lenOf pd_15 rfl) rfl (by show 2 * 0 + _ ≤ _; exact Nat.le_of_eq rfl) (hb hby d5_511) (fun _ _ => ⟨rfl, e85, (by decide : 2 + 1 ≤ _), (by decide : 32 + 28 ≤ _)⟩)
  dsimp only [Pt.U, Pt.locs, Pt.cells, Pt.slots] at X88 lq88 yq88 zq88 st88 hQ88
  have X88 := own_reb X88 lq88 yq88 zq88
  obtain ⟨rfl, Nq88, Kq88, fE88, fC88, t88, kt88, u188, u288, u388, fV88, fK88⟩ := hQ88
  have N88 := Fr.app N85 Nq88
  have ne_b1_t88 : b1 ≠ t88 := Nat.ne_of_lt (Nat.lt_of_lt_of_le c89.lt u288)
  have ne_b3_t88 : b3 ≠ t88 := Nat.ne_of_lt (Nat.lt_of_lt_of_le Vn85.lt u288)
  have sz_t88 : h0.size ≤ t88 := Nat.le_trans K85.1 u288
  have c93 := (Safe.wr W85 (Safe.exa hZ.alike c86 (by decide) (by decide)) hCe84 (Safe.wr W82 (Safe.exa hZ.alike c83 (by decide) (by decide)) hCe81 (Safe.wr W79 (Safe.exa hZ.alike c80 (by decide) (by decide)) hCe78 (Safe.wr W76 (Safe.exa hZ.alike c77 (by decide) (by decide)) hCe75 (Safe.wr W73 (Safe.exa hZ.alike c74 (by decide) (by decide)) hCe72 (Safe.wr W70 (Safe.exa hZ.alike c71 (by decide) (by decide)) hCe69 (Safe.wr W67 (Safe.exa hZ.alike c68 (by decide) (by decide)) hCe66 (Safe.wr W64 (Safe.exa hZ.alike c65 (by decide) (by decide)) hCe63 (Safe.wr W61 (Safe.exa hZ.alike c62 (by decide) (by decide)) hCe60 (Safe.wr W58 (Safe.exa hZ.alike c59 (by decide) (by decide)) hCe57 (Safe.wr W55 (Safe.exa hZ.alike c56 (by decide) (by decide)) hCe54 (Safe.wr W52 (Safe.exa hZ.alike c53 (by decide) (by decide)) hCe51 (Safe.wr W49 (Safe.exa hZ.alike c50 (by decide) (by decide)) hCe48 (Safe.wr W46 (Safe.exa hZ.alike c47 (by decide) (by decide)) hCe45 (Safe.wr W43 (Safe.exa hZ.alike c44 (by decide) (by decide)) hCe42 (Safe.wr W40 (Safe.exa hZ.alike c41 (by decide) (by decide)) hCe39 (Safe.wr W37 (Safe.exa hZ.alike c38 (by decide) (by decide)) hCe36 (Safe.wr W34 (Safe.exa hZ.alike c35 (by decide) (by decide)) hCe33 (Safe.wr W31 (Safe.exa hZ.alike c32 (by decide) (by decide)) hCe30 (Safe.wr W28 (Safe.exa hZ.alike c29 (by decide) (by decide)) hCe27 (Safe.wr W25 (Safe.exa hZ.alike c26 (by decide) (by decide)) hCe24 (Safe.wr W22 (Safe.exa hZ.alike c23 (by decide) (by decide)) hCe21 (Safe.wr W19 (Safe.exa hZ.alike c20 (by decide) (by decide)) hCe18 (Safe.wr W16 (Safe.exa hZ.alike c17 (by decide) (by decide)) hCe15 (Safe.wr W13 (Safe.exa hZ.alike c14 (by decide) (by decide)) hCe12 (Safe.wr W10 (Safe.exa hZ.alike c11 (by decide) (by decide)) hCe9 (Safe.wr W7 (Safe.exa hZ.alike c8 (by decide) (by decide)) hCe6 (Safe.wr W5 (Safe.exa hZ.alike AX3 (by decide) (by decide)) hCe4 (Safe.ext E3 hCe2 sf1)))))))))))))))))))))))))))))
  have Re94 := Re87.trans (CHr.keep Kq88 (allS c93 all0) hCe87)
  have hCe94 := Re94.1
  have sf88 := Safe.keep Kq88 (allS c93 all0) hCe87 (Safe.new u288)
  have K88 : Keep h0 T88.heap [] := K85.trans Kq88 (allS (Or.inr sz_b1) all0)
  have Z88 : n0 ≤ T88.heap.size := Nat.le_trans Z85 Kq88.1
  have hk88 : _ ≤ T88.heap.size := Nat.le_trans hk85 Kq88.1
  obtain ⟨fs, hr, hrun, hended, en1, en2, en3, en4⟩ := X88.leaveW hS0 (own_hk rfl hk88) (v := some (.ref b1)) (fun h => by rw [Bd.returns] at h; cases h)
  refine ⟨_, _, pre0 _ ?_, hrun, hended, _, _, rfl, ?_, own_chr (T := T88) hh rfl (Re94.trans (CHv.at X88 hZ (own_EW hw) hCe94)), en1, en2, en3, en4.mono (by decide) (by decide)⟩
  · show SS p e below s₁ (mkF m 0 #[vi (2 : Int32), vi p1, vi p2, vi p3] []) _
    refine XS.iloadN X0.here hx rfl (hb hby d5_0) rfl ?_
    show SS p e below s₁ (mkF m 1 #[vi (2 : Int32), vi p1, vi p2, vi p3] [(vI 2)]) _
    refine XS.ifYes X0.here hx rfl (pc0 := 1) (pc' := 166) rfl (hb hby d5_1) rfl ((if0 _ _).trans (feq (by decide : ¬ ((2 : Int32) = (0 : Int32)))).2) (by decide) (by decide) ?_
    refine XS.iloadN X0.here hx rfl (hb hby d5_166) rfl ?_
    refine XS.iconst X0.here hx rfl (hb hby d5_167) ?_
    show SS p e below s₁ (mkF m 168 #[vi (2 : Int32), vi p1, vi p2, vi p3] [(vI 1), (vI 2)]) _
    refine XS.icmpYes X0.here hx rfl (pc0 := 168) (pc' := 338) rfl (hb hby d5_168) rfl (feq (by decide : ¬ ((2 : Int32) = (1 : Int32)))).2 (by decide) (by decide) ?_
    refine XS.iloadN X0.here hx rfl (hb hby d5_338) rfl ?_
    refine XS.iconst X0.here hx rfl (hb hby d5_339) ?_
    show SS p e below s₁ (mkF m 340 #[vi (2 : Int32), vi p1, vi p2, vi p3] [(vI 2), (vI 2)]) _
    refine XS.icmpNo X0.here hx rfl (hb hby d5_340) rfl (teq (by decide : (2 : Int32) = (2 : Int32))).2 ?_
    refine st1 _ ?_
    refine XS.dup X1.here hx rfl (hb hby d5_346) rfl rfl ?_
    refine XS.bipush X1.here hx rfl (hb hby d5_347) ?_
    refine st3 _ ?_
    refine XS.dup X3.here hx rfl (hb hby d5_351) rfl rfl ?_
    refine XS.iconst X3.here hx rfl (hb hby d5_352) ?_
    refine XS.bipush X3.here hx rfl (hb hby d5_353) ?_
    refine st5 _ ?_
    refine XS.dup X5.here hx rfl (hb hby d5_356) rfl rfl ?_
    refine XS.iconst X5.here hx rfl (hb hby d5_357) ?_
    refine XS.bipush X5.here hx rfl (hb hby d5_358) ?_
    refine st7 _ ?_
    refine XS.dup X7.here hx rfl (hb hby d5_361) rfl rfl ?_
    refine XS.iconst X7.here hx rfl (hb hby d5_362) ?_
    refine XS.bipush X7.here hx rfl (hb hby d5_363) ?_
    refine st10 _ ?_
    refine XS.dup X10.here hx rfl (hb hby d5_366) rfl rfl ?_
    refine XS.iconst X10.here hx rfl (hb hby d5_367) ?_
    refine XS.bipush X10.here hx rfl (hb hby d5_368) ?_
    refine st13 _ ?_
    refine XS.dup X13.here hx rfl (hb hby d5_371) rfl rfl ?_
    refine XS.iconst X13.here hx rfl (hb hby d5_372) ?_
    refine XS.bipush X13.here hx rfl (hb hby d5_373) ?_
    refine st16 _ ?_
    refine XS.dup X16.here hx rfl (hb hby d5_376) rfl rfl ?_
    refine XS.iconst X16.here hx rfl (hb hby d5_377) ?_
    refine XS.bipush X16.here hx rfl (hb hby d5_378) ?_
    refine st19 _ ?_
    refine XS.dup X19.here hx rfl (hb hby d5_381) rfl rfl ?_
    refine XS.bipush X19.here hx rfl (hb hby d5_382) ?_
    refine XS.bipush X19.here hx rfl (hb hby d5_384) ?_
    refine st22 _ ?_
    refine XS.dup X22.here hx rfl (hb hby d5_387) rfl rfl ?_
    refine XS.bipush X22.here hx rfl (hb hby d5_388) ?_
    refine XS.bipush X22.here hx rfl (hb hby d5_390) ?_
    refine st25 _ ?_
    refine XS.dup X25.here hx rfl (hb hby d5_393) rfl rfl ?_
    refine XS.bipush X25.here hx rfl (hb hby d5_394) ?_
    refine XS.bipush X25.here hx rfl (hb hby d5_396) ?_
    refine st28 _ ?_
    refine XS.dup X28.here hx rfl (hb hby d5_399) rfl rfl ?_
    refine XS.bipush X28.here hx rfl (hb hby d5_400) ?_
    refine XS.bipush X28.here hx rfl (hb hby d5_402) ?_
    refine st31 _ ?_
    refine XS.dup X31.here hx rfl (hb hby d5_405) rfl rfl ?_
    refine XS.bipush X31.here hx rfl (hb hby d5_406) ?_
    refine XS.bipush X31.here hx rfl (hb hby d5_408) ?_
    refine st34 _ ?_
    refine XS.dup X34.here hx rfl (hb hby d5_411) rfl rfl ?_
    refine XS.bipush X34.here hx rfl (hb hby d5_412) ?_
    refine XS.bipush X34.here hx rfl (hb hby d5_414) ?_
    refine st37 _ ?_
    refine XS.dup X37.here hx rfl (hb hby d5_417) rfl rfl ?_
    refine XS.bipush X37.here hx rfl (hb hby d5_418) ?_
    refine XS.bipush X37.here hx rfl (hb hby d5_420) ?_
    refine st40 _ ?_
    refine XS.dup X40.here hx rfl (hb hby d5_423) rfl rfl ?_
    refine XS.bipush X40.here hx rfl (hb hby d5_424) ?_
    refine XS.bipush X40.here hx rfl (hb hby d5_426) ?_
    refine st43 _ ?_
    refine XS.dup X43.here hx rfl (hb hby d5_429) rfl rfl ?_
    refine XS.bipush X43.here hx rfl (hb hby d5_430) ?_
    refine XS.bipush X43.here hx rfl (hb hby d5_432) ?_
    refine st46 _ ?_
    refine XS.dup X46.here hx rfl (hb hby d5_435) rfl rfl ?_
    refine XS.bipush X46.here hx rfl (hb hby d5_436) ?_
    refine XS.bipush X46.here hx rfl (hb hby d5_438) ?_
    refine st49 _ ?_
    refine XS.dup X49.here hx rfl (hb hby d5_441) rfl rfl ?_
    refine XS.bipush X49.here hx rfl (hb hby d5_442) ?_
    refine XS.bipush X49.here hx rfl (hb hby d5_444) ?_
    refine st52 _ ?_
    refine XS.dup X52.here hx rfl (hb hby d5_447) rfl rfl ?_
    refine XS.bipush X52.here hx rfl (hb hby d5_448) ?_
    refine XS.bipush X52.here hx rfl (hb hby d5_450) ?_
    refine st55 _ ?_
    refine XS.dup X55.here hx rfl (hb hby d5_453) rfl rfl ?_
    refine XS.bipush X55.here hx rfl (hb hby d5_454) ?_
    refine XS.bipush X55.here hx rfl (hb hby d5_456) ?_
    refine st58 _ ?_
    refine XS.dup X58.here hx rfl (hb hby d5_459) rfl rfl ?_
    refine XS.bipush X58.here hx rfl (hb hby d5_460) ?_
    refine XS.bipush X58.here hx rfl (hb hby d5_462) ?_
    refine st61 _ ?_
    refine XS.dup X61.here hx rfl (hb hby d5_465) rfl rfl ?_
    refine XS.bipush X61.here hx rfl (hb hby d5_466) ?_
    refine XS.bipush X61.here hx rfl (hb hby d5_468) ?_
    refine st64 _ ?_
    refine XS.dup X64.here hx rfl (hb hby d5_471) rfl rfl ?_
    refine XS.bipush X64.here hx rfl (hb hby d5_472) ?_
    refine XS.bipush X64.here hx rfl (hb hby d5_474) ?_
    refine st67 _ ?_
    refine XS.dup X67.here hx rfl (hb hby d5_477) rfl rfl ?_
    refine XS.bipush X67.here hx rfl (hb hby d5_478) ?_
    refine XS.bipush X67.here hx rfl (hb hby d5_480) ?_
    refine st70 _ ?_
    refine XS.dup X70.here hx rfl (hb hby d5_483) rfl rfl ?_
    refine XS.bipush X70.here hx rfl (hb hby d5_484) ?_
    refine XS.bipush X70.here hx rfl (hb hby d5_486) ?_
    refine st73 _ ?_
    refine XS.dup X73.here hx rfl (hb hby d5_489) rfl rfl ?_
    refine XS.bipush X73.here hx rfl (hb hby d5_490) ?_
    refine XS.bipush X73.here hx rfl (hb hby d5_492) ?_
    refine st76 _ ?_
    refine XS.dup X76.here hx rfl (hb hby d5_495) rfl rfl ?_
    refine XS.bipush X76.here hx rfl (hb hby d5_496) ?_
    refine XS.bipush X76.here hx rfl (hb hby d5_498) ?_
    refine st79 _ ?_
    refine XS.dup X79.here hx rfl (hb hby d5_501) rfl rfl ?_
    refine XS.bipush X79.here hx rfl (hb hby d5_502) ?_
    refine XS.iloadN X79.here hx rfl (hb hby d5_504) rfl ?_
    refine st82 _ ?_
    refine XS.dup X82.here hx rfl (hb hby d5_506) rfl rfl ?_
    refine XS.bipush X82.here hx rfl (hb hby d5_507) ?_
    refine XS.iloadN X82.here hx rfl (hb hby d5_509) rfl ?_
    refine st85 _ ?_
    show SS p e below T85 (mkF m 511 #[vi (2 : Int32), vi p1, vi p2, vi p3] [(.ref b3), (.ref b1), (.ref b1)]) _
    refine st88.trans ?_
    exact retOut X88 hx Bd.returns rfl (Or.inr (Or.inr (Or.inr (Or.inr ⟨rfl, rfl, rfl⟩)))) (hb hby d5_514) hr
  · show Q_rmE2 Z p1 p2 p3 zc h0 n0 _ T88.heap _
    exact ⟨b1, t88, kt88, rfl, N88, K88, sz_b1, fE88, fC88, fV88, fK88⟩
theorem ef_30 (m : MethodId) (x1 : Int32) (x2 : Int32) (x3 : Int32) : entryFrame m #[(vI 3), (.int x1), (.int x2), (.int x3)] 4 = mkF m 0 #[vi (3 : Int32), vi x1, vi x2, vi x3] [] := by first | (simp [entryFrame, mkF, argsToLocals, Value.category]; done) | rfl
theorem d1_59 : decode method_2_code 59 = .ok (.new 7, 3) := by decide +kernel
theorem d1_62 : decode method_2_code 62 = .ok (.dup, 1) := by decide +kernel
theorem d1_63 : decode method_2_code 63 = .ok (.iconst 3, 1) := by decide +kernel
theorem d1_64 : decode method_2_code 64 = .ok (.newarray .char, 2) := by decide +kernel
theorem d1_66 : decode method_2_code 66 = .ok (.dup, 1) := by decide +kernel
theorem d1_67 : decode method_2_code 67 = .ok (.iconst 0, 1) := by decide +kernel
theorem d1_68 : decode method_2_code 68 = .ok (.iload_n 1, 1) := by decide +kernel
theorem d1_69 : decode method_2_code 69 = .ok (.castore, 1) := by decide +kernel
theorem d1_70 : decode method_2_code 70 = .ok (.dup, 1) := by decide +kernel
theorem d1_71 : decode method_2_code 71 = .ok (.iconst 1, 1) := by decide +kernel
theorem d1_72 : decode method_2_code 72 = .ok (.iload_n 2, 1) := by decide +kernel
theorem d1_73 : decode method_2_code 73 = .ok (.castore, 1) := by decide +kernel
theorem d1_74 : decode method_2_code 74 = .ok (.dup, 1) := by decide +kernel
theorem d1_75 : decode method_2_code 75 = .ok (.iconst 2, 1) := by decide +kernel
theorem d1_76 : decode method_2_code 76 = .ok (.iload_n 3, 1) := by decide +kernel
theorem d1_77 : decode method_2_code 77 = .ok (.castore, 1) := by decide +kernel
theorem d1_78 : decode method_2_code 78 = .ok (.invokespecial 9, 3) := by decide +kernel
theorem d1_81 : decode method_2_code 81 = .ok (.areturn, 1) := by decide +kernel
def Q_rmR3 (Z : State) (p1 : Int32) (p2 : Int32) (p3 : Int32) (zc : Int32) (h0 : Heap) (n0 : Nat) (v : Option Value) (h : Heap) (L : List Loc) : Prop := ∃ (nx : Addr), ∃ (nt : Addr), ∃ (nk : ClassId), (v = some (.ref nx) ∧ Fr n0 L ∧ Keep h0 h [] ∧ h0.size ≤ nx ∧ Exa Z h nx "java/lang/String" ∧ Fld Z h nx "java/lang/String" "coder" "B" z0 ∧ Fld Z h nx "java/lang/String" "value" "[B" (.ref nt) ∧ Arv Z h nt nk .byte (3 : Int32) ((([p1, p2, p3] : List Int32).map (fun c => c.toInt8.toInt32)).map Value.int) z0)
set_option maxRecDepth 65536 in
set_option maxHeartbeats 40000000 in
theorem rmR3 (l : Launch) (Z : State) (a0 : Array Value) (hw : ∀ d ∈ tables_1, d.before a0 Z = true) (ws : List Jvm.Cond) (p1 : Int32) (p2 : Int32) (p3 : Int32) (zc : Int32) (h0 : Heap) (n0 : Nat) (Z0 : n0 ≤ h0.size) (uO : Old Z n0 h0) (uS : Sta Z Z.heap "java/lang/String" "COMPACT_STRINGS" "Z" (.int zc)) (uP : ¬ zc = 0) (ub_p1 : ¬ p1 < 0 ∧ ¬ (255 : Int32) < p1) (ub_p2 : ¬ p2 < 0 ∧ ¬ (255 : Int32) < p2) (ub_p3 : ¬ p3 < 0 ∧ ¬ (255 : Int32) < p3) :
    MetFree l M24 (head1 (Jvm.Cond.code M24 method_2_code 4 (some (.object "java/lang/String")) :: ws) ({ frames := 4, cells := 3, slots := 10, locals := 66 } : Room)) (fun a U => a = #[(vI 3), (.int p1), (.int p2), (.int p3)] ∧ Z.Warmed39 U.vm ∧ U.heap = h0 ∧ CHv Z own_EL U.vm h0) (fun _ _ _ _ _ => True) (fun _ U o U' => ∃ v L, o = .returned v ∧ Q_rmR3 Z p1 p2 p3 zc h0 n0 v U'.heap L ∧ CHr Z own_EL U.vm U.heap U'.vm U'.heap ∧ ReturnedEndW U o U' L ({ frames := 4, cells := 3, slots := 10, locals := 66 } : Room).cells ({ frames := 4, cells := 3, slots := 10, locals := 66 } : Room).slots) := by
  refine MetFree.of_bodySF (plainFor_of_name pn_4) hisR ?_
  intro p e s m args below meth c s₁ Bd hml0 hP hK
  obtain ⟨rfl, hZ, hh, hC0⟩ := hP
  have hx := Bd.exec
  have hby := Bd.bytes
  have hml : c.maxLocals = 4 := hml0
  have hown : s.vm.findClass "com/example/plain_hub/plainhub/HubExceptionForbiddenPinLaw" = some m.cls := findClass_of_methodNamed Bd.named
  have hnm := (name_of_methodNamed Bd.named Bd.method).1
  have X0 : Stand p l e ({ frames := 4, cells := 3, slots := 10, locals := 66 } : Room) (s.setVm s.vm) m #[(vI 3), (.int p1), (.int p2), (.int p3)] below meth c s₁ [] 0 0 := Stand.of_body Bd
  have e0 : s₁.heap = h0 := by rw [← hh, Bd.state]; rfl
  have N0 := Fr.nil n0
  have pre0 : ∀ t, Steps p.tables e below (s₁.setTop (mkF m 0 #[vi (3 : Int32), vi p1, vi p2, vi p3] [])) t → Steps p.tables e below (s₁.setTop (entryFrame m #[(vI 3), (.int p1), (.int p2), (.int p3)] 4)) t := fun t k => castTop (ef_30 m p1 p2 p3) k
  have hS0 : s.Since s.vm 0 := (State.WarmedH.refl s).since _
  have hk0 : 0 ≤ h0.size := Nat.zero_le _
  have R0 := CHr.refl hC0
  have own_hp : ∀ c ∈ ([p1, p2, p3] : List Int32), ¬ c < 0 ∧ ¬ (255 : Int32) < c := by
    intro c hc
    simp only [List.mem_cons, List.not_mem_nil, or_false] at hc
    rcases hc with rfl | rfl | rfl
    · exact ub_p1
    · exact ub_p2
    · exact ub_p3
  obtain ⟨T1, h1, X1, e1, E1, A1, D1, Un1, st1⟩ := newO X0 hx hZ hown (wd hw 4 rfl) (wd hw 5 rfl) (wd hw 6 rfl) e0 (g := (mkF m 59 #[vi (3 : Int32), vi p1, vi p2, vi p3] [])) rfl (hb hby d1_59) (by decide) (by decide)
  obtain ⟨b1, g1⟩ : ∃ z, z = h0.size := ⟨_, rfl⟩
  rw [← g1] at A1 D1 Un1 st1
  have Re2 := R0.trans (CHr.ext E1 hC0)
  have hCe2 := Re2.1
  have sf1 := Safe.ext E1 hC0 (Safe.new (Nat.le_of_eq g1.symm))
  have F1_value : Fld Z h1 b1 "java/lang/String" "value" "[B" .null := D1 (Or.inr (wd hw 20 rfl)) (ty := (.array .byte)) (by decide)
  have F1_coder : Fld Z h1 b1 "java/lang/String" "coder" "B" z0 := D1 (Or.inr (wd hw 21 rfl)) (ty := .byte) (by decide)
  have g_b1 : n0 ≤ b1 := Nat.le_trans Z0 (Nat.le_of_eq g1.symm)
  have sz_b1 : h0.size ≤ b1 := Nat.le_trans (Keep.refl h0 []).1 (Nat.le_of_eq g1.symm)
  have K1 : Keep h0 h1 [] := (Keep.refl h0 []).ext E1
  have Z1 : n0 ≤ h1.size := Nat.le_trans Z0 E1.1
  have hk1 : _ ≤ h1.size := Nat.le_trans hk0 E1.1
  obtain ⟨T3, h3, k3, X3, e3, E3, A3, AX3, st3⟩ := newPE X1 hx hZ (wd hw 7 rfl) e1 (g := (mkF m 64 #[vi (3 : Int32), vi p1, vi p2, vi p3] [(vI 3), (.ref b1), (.ref b1)])) rfl (hb hby d1_64) rfl (by decide) (cap := 3) (by decide) (by decide) (by decide) (by decide) (ad := "[C") (by decide)
  obtain ⟨b3, g3⟩ : ∃ z, z = h1.size := ⟨_, rfl⟩
  rw [← g3] at A3 AX3 st3
  have ne_b1_b3 : b1 ≠ b3 := Nat.ne_of_lt (Nat.lt_of_lt_of_le A1.lt (Nat.le_of_eq g3.symm))
  have Re4 := Re2.trans (CHr.ext E3 hCe2)
  have hCe4 := Re4.1
  have V3 : Arv Z h3 b3 k3 .char (3 : Int32) [z0, z0, z0] z0 := (Arv.new A3 (by decide)).pad (pad_rep [] z0 3)
  have g_b3 : n0 ≤ b3 := Nat.le_trans Z1 (Nat.le_of_eq g3.symm)
  have sz_b3 : h0.size ≤ b3 := Nat.le_trans K1.1 (Nat.le_of_eq g3.symm)
  have K3 : Keep h0 h3 [] := K1.ext E3
  have Z3 : n0 ≤ h3.size := Nat.le_trans Z1 E3.1
  have hk3 : _ ≤ h3.size := Nat.le_trans hk1 E3.1
  obtain ⟨cl5, Ar5, q5, S5, Nn5, H5, G5⟩ := (id V3)
  have hin5 : ¬ ((0 : Int32) < 0 ∨ cl5.slots.size ≤ ((0 : Int32)).toNatClampNeg) := inb_of S5 ⟨by decide, by decide⟩
  obtain ⟨T5, h5, X5, e5, W5, st5⟩ := stC X3 hx hZ e3 Ar5 (j := (0 : Int32)) hin5 (g := (mkF m 69 #[vi (3 : Int32), vi p1, vi p2, vi p3] [(.int p1), z0, (.ref b3), (.ref b3), (.ref b1), (.ref b1)])) rfl rfl (hb hby d1_69)
  have Re6 := Re4.trans (CHr.wr W5 (Safe.exa hZ.alike AX3 (by decide) (by decide)) hCe4)
  have hCe6 := Re6.1
  have V5 : Arv Z h5 b3 k3 .char (3 : Int32) [(.int (nar .char p1)), z0, z0] z0 := Arv.set Ar5 q5 S5 Nn5 H5 G5 (fits_nar_char _) W5 0 rfl (Nat.le_of_ble_eq_true rfl)
  have Vn5 : Arv Z h5 b3 k3 .char (3 : Int32) [(.int p1), z0, z0] z0 := by have q := V5; rw [(own_ne ub_p1)] at q; exact q
  have N5 := Fr.snoc X5 N0 g_b3
  have K5 : Keep h0 h5 [] := K3.wr W5 (Or.inr sz_b3)
  have Z5 : n0 ≤ h5.size := by rw [W5.size]; exact Z3
  have hk5 := own_szW W5 hk3
  obtain ⟨cl7, Ar7, q7, S7, Nn7, H7, G7⟩ := (id Vn5)
  have hin7 : ¬ ((1 : Int32) < 0 ∨ cl7.slots.size ≤ ((1 : Int32)).toNatClampNeg) := inb_of S7 ⟨by decide, by decide⟩
  obtain ⟨T7, h7, X7, e7, W7, st7⟩ := stC X5 hx hZ e5 Ar7 (j := (1 : Int32)) hin7 (g := (mkF m 73 #[vi (3 : Int32), vi p1, vi p2, vi p3] [(.int p2), (vI 1), (.ref b3), (.ref b3), (.ref b1), (.ref b1)])) rfl rfl (hb hby d1_73)
  have c8 := (AX3.wr W5)
  have Re9 := Re6.trans (CHr.wr W7 (Safe.exa hZ.alike c8 (by decide) (by decide)) hCe6)
  have hCe9 := Re9.1
  have V7 : Arv Z h7 b3 k3 .char (3 : Int32) [(.int p1), (.int (nar .char p2)), z0] z0 := Arv.set Ar7 q7 S7 Nn7 H7 G7 (fits_nar_char _) W7 1 rfl (Nat.le_of_ble_eq_true rfl)
  have Vn7 : Arv Z h7 b3 k3 .char (3 : Int32) [(.int p1), (.int p2), z0] z0 := by have q := V7; rw [(own_ne ub_p2)] at q; exact q
  have N7 := Fr.snoc X7 N5 g_b3
  have K7 : Keep h0 h7 [] := K5.wr W7 (Or.inr sz_b3)
  have Z7 : n0 ≤ h7.size := by rw [W7.size]; exact Z5
  have hk7 := own_szW W7 hk5
  obtain ⟨cl10, Ar10, q10, S10, Nn10, H10, G10⟩ := (id Vn7)
  have hin10 : ¬ ((2 : Int32) < 0 ∨ cl10.slots.size ≤ ((2 : Int32)).toNatClampNeg) := inb_of S10 ⟨by decide, by decide⟩
  obtain ⟨T10, h10, X10, e10, W10, st10⟩ := stC X7 hx hZ e7 Ar10 (j := (2 : Int32)) hin10 (g := (mkF m 77 #[vi (3 : Int32), vi p1, vi p2, vi p3] [(.int p3), (vI 2), (.ref b3), (.ref b3), (.ref b1), (.ref b1)])) rfl rfl (hb hby d1_77)
  have c11 := (c8.wr W7)
  have Re12 := Re9.trans (CHr.wr W10 (Safe.exa hZ.alike c11 (by decide) (by decide)) hCe9)
  have hCe12 := Re12.1
  have V10 : Arv Z h10 b3 k3 .char (3 : Int32) [(.int p1), (.int p2), (.int (nar .char p3))] z0 := Arv.set Ar10 q10 S10 Nn10 H10 G10 (fits_nar_char _) W10 2 rfl (Nat.le_of_ble_eq_true rfl)
  have Vn10 : Arv Z h10 b3 k3 .char (3 : Int32) [(.int p1), (.int p2), (.int p3)] z0 := by have q := V10; rw [(own_ne ub_p3)] at q; exact q
  have N10 := Fr.snoc X10 N7 g_b3
  have K10 : Keep h0 h10 [] := K7.wr W10 (Or.inr sz_b3)
  have Z10 : n0 ≤ h10.size := by rw [W10.size]; exact Z7
  have hk10 := own_szW W10 hk7
  have c14 := ((((A1.ext E3).wr W5).wr W7).wr W10)
  have c15 := ((((F1_value.ext E3).other W5 (Or.inl ne_b1_b3)).other W7 (Or.inl ne_b1_b3)).other W10 (Or.inl ne_b1_b3))
  have c16 := ((((F1_coder.ext E3).other W5 (Or.inl ne_b1_b3)).other W7 (Or.inl ne_b1_b3)).other W10 (Or.inl ne_b1_b3))
  have c17 := (((((uO.ext E1).ext E3).wr W5 g_b3).wr W7 g_b3).wr W10 g_b3)
  obtain ⟨_, _, ⟨T13, Lw13, kw13, nw13⟩, -, X13, ⟨Lc13, hQ13, lq13, yq13, zq13⟩, st13⟩ := X10.specialBack hx (y := M23) rfl hown (mvT hZ (wd hw 8 rfl)) (mvT hZ (wd hw 9 rfl)) (mvT hZ (wd hw 10 rfl)) (by decide) (StrChars.Road.backV (W := 1) hZ (fun d hd => hw d (own_w_words d hd)) (kI := 4) (wd hw 5 rfl) (cs := ([p1, p2, p3] : List Int32)) (bs := (([p1, p2, p3] : List Int32).map (fun c => c.toInt8.toInt32))) (n := 3) g_b1 Z10 c14 c15 c16 Vn10 (uS.ext c17.2) uP rfl rfl (by decide) (by decide) own_hp rfl (by decide) (by decide)) (g := (mkF m 78 #[vi (3 : Int32), vi p1, vi p2, vi p3] [(.ref b3), (.ref b1), (.ref b1)])) rfl (by rw [hml]; rfl) (Steps.refl _) (a := b1) (argsL := [(.ref b3)]) (rest := [(.ref b1)]) (lenOf pd_15 rfl) rfl (by show 2 * 0 + _ ≤ _; exact Nat.le_of_eq rfl) (hb hby d1_78) (fun _ _ => ⟨rfl, e10, (by decide : 2 + 1 ≤ _), (by decide : 7 + 3 ≤ _)⟩)
  dsimp only [Pt.U, Pt.locs, Pt.cells, Pt.slots] at X13 lq13 yq13 zq13 st13 hQ13
  have X13 := own_reb X13 lq13 yq13 zq13
  obtain ⟨rfl, Nq13, Kq13, fE13, fC13, t13, kt13, u113, u213, u313, fV13, fK13⟩ := hQ13
  have N13 := Fr.app N10 Nq13
  have ne_b1_t13 : b1 ≠ t13 := Nat.ne_of_lt (Nat.lt_of_lt_of_le c14.lt u213)
  have ne_b3_t13 : b3 ≠ t13 := Nat.ne_of_lt (Nat.lt_of_lt_of_le Vn10.lt u213)
  have sz_t13 : h0.size ≤ t13 := Nat.le_trans K10.1 u213
  have c18 := (Safe.wr W10 (Safe.exa hZ.alike c11 (by decide) (by decide)) hCe9 (Safe.wr W7 (Safe.exa hZ.alike c8 (by decide) (by decide)) hCe6 (Safe.wr W5 (Safe.exa hZ.alike AX3 (by decide) (by decide)) hCe4 (Safe.ext E3 hCe2 sf1))))
  have Re19 := Re12.trans (CHr.keep Kq13 (allS c18 all0) hCe12)
  have hCe19 := Re19.1
  have sf13 := Safe.keep Kq13 (allS c18 all0) hCe12 (Safe.new u213)
  have K13 : Keep h0 T13.heap [] := K10.trans Kq13 (allS (Or.inr sz_b1) all0)
  have Z13 : n0 ≤ T13.heap.size := Nat.le_trans Z10 Kq13.1
  have hk13 : _ ≤ T13.heap.size := Nat.le_trans hk10 Kq13.1
  obtain ⟨fs, hr, hrun, hended, en1, en2, en3, en4⟩ := X13.leaveW hS0 (own_hk rfl hk13) (v := some (.ref b1)) (fun h => by rw [Bd.returns] at h; cases h)
  refine ⟨_, _, pre0 _ ?_, hrun, hended, _, _, rfl, ?_, own_chr (T := T13) hh rfl (Re19.trans (CHv.at X13 hZ (own_EW hw) hCe19)), en1, en2, en3, en4.mono (by decide) (by decide)⟩
  · show SS p e below s₁ (mkF m 0 #[vi (3 : Int32), vi p1, vi p2, vi p3] []) _
    refine XS.iloadN X0.here hx rfl (hb hby d1_0) rfl ?_
    show SS p e below s₁ (mkF m 1 #[vi (3 : Int32), vi p1, vi p2, vi p3] [(vI 3)]) _
    refine XS.ifYes X0.here hx rfl (pc0 := 1) (pc' := 15) rfl (hb hby d1_1) rfl ((if0 _ _).trans (feq (by decide : ¬ ((3 : Int32) = (0 : Int32)))).2) (by decide) (by decide) ?_
    refine XS.iloadN X0.here hx rfl (hb hby d1_15) rfl ?_
    refine XS.iconst X0.here hx rfl (hb hby d1_16) ?_
    show SS p e below s₁ (mkF m 17 #[vi (3 : Int32), vi p1, vi p2, vi p3] [(vI 1), (vI 3)]) _
    refine XS.icmpYes X0.here hx rfl (pc0 := 17) (pc' := 35) rfl (hb hby d1_17) rfl (feq (by decide : ¬ ((3 : Int32) = (1 : Int32)))).2 (by decide) (by decide) ?_
    refine XS.iloadN X0.here hx rfl (hb hby d1_35) rfl ?_
    refine XS.iconst X0.here hx rfl (hb hby d1_36) ?_
    show SS p e below s₁ (mkF m 37 #[vi (3 : Int32), vi p1, vi p2, vi p3] [(vI 2), (vI 3)]) _
    refine XS.icmpYes X0.here hx rfl (pc0 := 37) (pc' := 59) rfl (hb hby d1_37) rfl (feq (by decide : ¬ ((3 : Int32) = (2 : Int32)))).2 (by decide) (by decide) ?_
    refine st1 _ ?_
    refine XS.dup X1.here hx rfl (hb hby d1_62) rfl rfl ?_
    refine XS.iconst X1.here hx rfl (hb hby d1_63) ?_
    refine st3 _ ?_
    refine XS.dup X3.here hx rfl (hb hby d1_66) rfl rfl ?_
    refine XS.iconst X3.here hx rfl (hb hby d1_67) ?_
    refine XS.iloadN X3.here hx rfl (hb hby d1_68) rfl ?_
    refine st5 _ ?_
    refine XS.dup X5.here hx rfl (hb hby d1_70) rfl rfl ?_
    refine XS.iconst X5.here hx rfl (hb hby d1_71) ?_
    refine XS.iloadN X5.here hx rfl (hb hby d1_72) rfl ?_
    refine st7 _ ?_
    refine XS.dup X7.here hx rfl (hb hby d1_74) rfl rfl ?_
    refine XS.iconst X7.here hx rfl (hb hby d1_75) ?_
    refine XS.iloadN X7.here hx rfl (hb hby d1_76) rfl ?_
    refine st10 _ ?_
    show SS p e below T10 (mkF m 78 #[vi (3 : Int32), vi p1, vi p2, vi p3] [(.ref b3), (.ref b1), (.ref b1)]) _
    refine st13.trans ?_
    exact retOut X13 hx Bd.returns rfl (Or.inr (Or.inr (Or.inr (Or.inr ⟨rfl, rfl, rfl⟩)))) (hb hby d1_81) hr
  · show Q_rmR3 Z p1 p2 p3 zc h0 n0 _ T13.heap _
    exact ⟨b1, t13, kt13, rfl, N13, K13, sz_b1, fE13, fC13, fV13, fK13⟩
theorem ef_31 (m : MethodId) (x1 : Int32) (x2 : Int32) (x3 : Int32) : entryFrame m #[(vI 3), (.int x1), (.int x2), (.int x3)] 4 = mkF m 0 #[vi (3 : Int32), vi x1, vi x2, vi x3] [] := by first | (simp [entryFrame, mkF, argsToLocals, Value.category]; done) | rfl
theorem d5_515 : decode method_3_code 515 = .ok (.new 7, 3) := by decide +kernel
theorem d5_518 : decode method_3_code 518 = .ok (.dup, 1) := by decide +kernel
theorem d5_519 : decode method_3_code 519 = .ok (.bipush 29, 2) := by decide +kernel
theorem d5_521 : decode method_3_code 521 = .ok (.newarray .char, 2) := by decide +kernel
theorem d5_523 : decode method_3_code 523 = .ok (.dup, 1) := by decide +kernel
theorem d5_524 : decode method_3_code 524 = .ok (.iconst 0, 1) := by decide +kernel
theorem d5_525 : decode method_3_code 525 = .ok (.bipush 73, 2) := by decide +kernel
theorem d5_527 : decode method_3_code 527 = .ok (.castore, 1) := by decide +kernel
theorem d5_528 : decode method_3_code 528 = .ok (.dup, 1) := by decide +kernel
theorem d5_529 : decode method_3_code 529 = .ok (.iconst 1, 1) := by decide +kernel
theorem d5_530 : decode method_3_code 530 = .ok (.bipush 110, 2) := by decide +kernel
theorem d5_532 : decode method_3_code 532 = .ok (.castore, 1) := by decide +kernel
theorem d5_533 : decode method_3_code 533 = .ok (.dup, 1) := by decide +kernel
theorem d5_534 : decode method_3_code 534 = .ok (.iconst 2, 1) := by decide +kernel
theorem d5_535 : decode method_3_code 535 = .ok (.bipush 115, 2) := by decide +kernel
theorem d5_537 : decode method_3_code 537 = .ok (.castore, 1) := by decide +kernel
theorem d5_538 : decode method_3_code 538 = .ok (.dup, 1) := by decide +kernel
theorem d5_539 : decode method_3_code 539 = .ok (.iconst 3, 1) := by decide +kernel
theorem d5_540 : decode method_3_code 540 = .ok (.bipush 117, 2) := by decide +kernel
theorem d5_542 : decode method_3_code 542 = .ok (.castore, 1) := by decide +kernel
theorem d5_543 : decode method_3_code 543 = .ok (.dup, 1) := by decide +kernel
theorem d5_544 : decode method_3_code 544 = .ok (.iconst 4, 1) := by decide +kernel
theorem d5_545 : decode method_3_code 545 = .ok (.bipush 102, 2) := by decide +kernel
theorem d5_547 : decode method_3_code 547 = .ok (.castore, 1) := by decide +kernel
theorem d5_548 : decode method_3_code 548 = .ok (.dup, 1) := by decide +kernel
theorem d5_549 : decode method_3_code 549 = .ok (.iconst 5, 1) := by decide +kernel
theorem d5_550 : decode method_3_code 550 = .ok (.bipush 102, 2) := by decide +kernel
theorem d5_552 : decode method_3_code 552 = .ok (.castore, 1) := by decide +kernel
theorem d5_553 : decode method_3_code 553 = .ok (.dup, 1) := by decide +kernel
theorem d5_554 : decode method_3_code 554 = .ok (.bipush 6, 2) := by decide +kernel
theorem d5_556 : decode method_3_code 556 = .ok (.bipush 105, 2) := by decide +kernel
theorem d5_558 : decode method_3_code 558 = .ok (.castore, 1) := by decide +kernel
theorem d5_559 : decode method_3_code 559 = .ok (.dup, 1) := by decide +kernel
theorem d5_560 : decode method_3_code 560 = .ok (.bipush 7, 2) := by decide +kernel
theorem d5_562 : decode method_3_code 562 = .ok (.bipush 99, 2) := by decide +kernel
theorem d5_564 : decode method_3_code 564 = .ok (.castore, 1) := by decide +kernel
theorem d5_565 : decode method_3_code 565 = .ok (.dup, 1) := by decide +kernel
theorem d5_566 : decode method_3_code 566 = .ok (.bipush 8, 2) := by decide +kernel
theorem d5_568 : decode method_3_code 568 = .ok (.bipush 105, 2) := by decide +kernel
theorem d5_570 : decode method_3_code 570 = .ok (.castore, 1) := by decide +kernel
theorem d5_571 : decode method_3_code 571 = .ok (.dup, 1) := by decide +kernel
theorem d5_572 : decode method_3_code 572 = .ok (.bipush 9, 2) := by decide +kernel
theorem d5_574 : decode method_3_code 574 = .ok (.bipush 101, 2) := by decide +kernel
theorem d5_576 : decode method_3_code 576 = .ok (.castore, 1) := by decide +kernel
theorem d5_577 : decode method_3_code 577 = .ok (.dup, 1) := by decide +kernel
theorem d5_578 : decode method_3_code 578 = .ok (.bipush 10, 2) := by decide +kernel
theorem d5_580 : decode method_3_code 580 = .ok (.bipush 110, 2) := by decide +kernel
theorem d5_582 : decode method_3_code 582 = .ok (.castore, 1) := by decide +kernel
theorem d5_583 : decode method_3_code 583 = .ok (.dup, 1) := by decide +kernel
theorem d5_584 : decode method_3_code 584 = .ok (.bipush 11, 2) := by decide +kernel
theorem d5_586 : decode method_3_code 586 = .ok (.bipush 116, 2) := by decide +kernel
theorem d5_588 : decode method_3_code 588 = .ok (.castore, 1) := by decide +kernel
theorem d5_589 : decode method_3_code 589 = .ok (.dup, 1) := by decide +kernel
theorem d5_590 : decode method_3_code 590 = .ok (.bipush 12, 2) := by decide +kernel
theorem d5_592 : decode method_3_code 592 = .ok (.bipush 32, 2) := by decide +kernel
theorem d5_594 : decode method_3_code 594 = .ok (.castore, 1) := by decide +kernel
theorem d5_595 : decode method_3_code 595 = .ok (.dup, 1) := by decide +kernel
theorem d5_596 : decode method_3_code 596 = .ok (.bipush 13, 2) := by decide +kernel
theorem d5_598 : decode method_3_code 598 = .ok (.bipush 112, 2) := by decide +kernel
theorem d5_600 : decode method_3_code 600 = .ok (.castore, 1) := by decide +kernel
theorem d5_601 : decode method_3_code 601 = .ok (.dup, 1) := by decide +kernel
theorem d5_602 : decode method_3_code 602 = .ok (.bipush 14, 2) := by decide +kernel
theorem d5_604 : decode method_3_code 604 = .ok (.bipush 101, 2) := by decide +kernel
theorem d5_606 : decode method_3_code 606 = .ok (.castore, 1) := by decide +kernel
theorem d5_607 : decode method_3_code 607 = .ok (.dup, 1) := by decide +kernel
theorem d5_608 : decode method_3_code 608 = .ok (.bipush 15, 2) := by decide +kernel
theorem d5_610 : decode method_3_code 610 = .ok (.bipush 114, 2) := by decide +kernel
theorem d5_612 : decode method_3_code 612 = .ok (.castore, 1) := by decide +kernel
theorem d5_613 : decode method_3_code 613 = .ok (.dup, 1) := by decide +kernel
theorem d5_614 : decode method_3_code 614 = .ok (.bipush 16, 2) := by decide +kernel
theorem d5_616 : decode method_3_code 616 = .ok (.bipush 109, 2) := by decide +kernel
theorem d5_618 : decode method_3_code 618 = .ok (.castore, 1) := by decide +kernel
theorem d5_619 : decode method_3_code 619 = .ok (.dup, 1) := by decide +kernel
theorem d5_620 : decode method_3_code 620 = .ok (.bipush 17, 2) := by decide +kernel
theorem d5_622 : decode method_3_code 622 = .ok (.bipush 105, 2) := by decide +kernel
theorem d5_624 : decode method_3_code 624 = .ok (.castore, 1) := by decide +kernel
theorem d5_625 : decode method_3_code 625 = .ok (.dup, 1) := by decide +kernel
theorem d5_626 : decode method_3_code 626 = .ok (.bipush 18, 2) := by decide +kernel
theorem d5_628 : decode method_3_code 628 = .ok (.bipush 115, 2) := by decide +kernel
theorem d5_630 : decode method_3_code 630 = .ok (.castore, 1) := by decide +kernel
theorem d5_631 : decode method_3_code 631 = .ok (.dup, 1) := by decide +kernel
theorem d5_632 : decode method_3_code 632 = .ok (.bipush 19, 2) := by decide +kernel
theorem d5_634 : decode method_3_code 634 = .ok (.bipush 115, 2) := by decide +kernel
theorem d5_636 : decode method_3_code 636 = .ok (.castore, 1) := by decide +kernel
theorem d5_637 : decode method_3_code 637 = .ok (.dup, 1) := by decide +kernel
theorem d5_638 : decode method_3_code 638 = .ok (.bipush 20, 2) := by decide +kernel
theorem d5_640 : decode method_3_code 640 = .ok (.bipush 105, 2) := by decide +kernel
theorem d5_642 : decode method_3_code 642 = .ok (.castore, 1) := by decide +kernel
theorem d5_643 : decode method_3_code 643 = .ok (.dup, 1) := by decide +kernel
theorem d5_644 : decode method_3_code 644 = .ok (.bipush 21, 2) := by decide +kernel
theorem d5_646 : decode method_3_code 646 = .ok (.bipush 111, 2) := by decide +kernel
theorem d5_648 : decode method_3_code 648 = .ok (.castore, 1) := by decide +kernel
theorem d5_649 : decode method_3_code 649 = .ok (.dup, 1) := by decide +kernel
theorem d5_650 : decode method_3_code 650 = .ok (.bipush 22, 2) := by decide +kernel
theorem d5_652 : decode method_3_code 652 = .ok (.bipush 110, 2) := by decide +kernel
theorem d5_654 : decode method_3_code 654 = .ok (.castore, 1) := by decide +kernel
theorem d5_655 : decode method_3_code 655 = .ok (.dup, 1) := by decide +kernel
theorem d5_656 : decode method_3_code 656 = .ok (.bipush 23, 2) := by decide +kernel
theorem d5_658 : decode method_3_code 658 = .ok (.bipush 115, 2) := by decide +kernel
theorem d5_660 : decode method_3_code 660 = .ok (.castore, 1) := by decide +kernel
theorem d5_661 : decode method_3_code 661 = .ok (.dup, 1) := by decide +kernel
theorem d5_662 : decode method_3_code 662 = .ok (.bipush 24, 2) := by decide +kernel
theorem d5_664 : decode method_3_code 664 = .ok (.bipush 58, 2) := by decide +kernel
theorem d5_666 : decode method_3_code 666 = .ok (.castore, 1) := by decide +kernel
theorem d5_667 : decode method_3_code 667 = .ok (.dup, 1) := by decide +kernel
theorem d5_668 : decode method_3_code 668 = .ok (.bipush 25, 2) := by decide +kernel
theorem d5_670 : decode method_3_code 670 = .ok (.bipush 32, 2) := by decide +kernel
theorem d5_672 : decode method_3_code 672 = .ok (.castore, 1) := by decide +kernel
theorem d5_673 : decode method_3_code 673 = .ok (.dup, 1) := by decide +kernel
theorem d5_674 : decode method_3_code 674 = .ok (.bipush 26, 2) := by decide +kernel
theorem d5_676 : decode method_3_code 676 = .ok (.iload_n 1, 1) := by decide +kernel
theorem d5_677 : decode method_3_code 677 = .ok (.castore, 1) := by decide +kernel
theorem d5_678 : decode method_3_code 678 = .ok (.dup, 1) := by decide +kernel
theorem d5_679 : decode method_3_code 679 = .ok (.bipush 27, 2) := by decide +kernel
theorem d5_681 : decode method_3_code 681 = .ok (.iload_n 2, 1) := by decide +kernel
theorem d5_682 : decode method_3_code 682 = .ok (.castore, 1) := by decide +kernel
theorem d5_683 : decode method_3_code 683 = .ok (.dup, 1) := by decide +kernel
theorem d5_684 : decode method_3_code 684 = .ok (.bipush 28, 2) := by decide +kernel
theorem d5_686 : decode method_3_code 686 = .ok (.iload_n 3, 1) := by decide +kernel
theorem d5_687 : decode method_3_code 687 = .ok (.castore, 1) := by decide +kernel
theorem d5_688 : decode method_3_code 688 = .ok (.invokespecial 9, 3) := by decide +kernel
theorem d5_691 : decode method_3_code 691 = .ok (.areturn, 1) := by decide +kernel
def Q_rmE3 (Z : State) (p1 : Int32) (p2 : Int32) (p3 : Int32) (zc : Int32) (h0 : Heap) (n0 : Nat) (v : Option Value) (h : Heap) (L : List Loc) : Prop := ∃ (nx : Addr), ∃ (nt : Addr), ∃ (nk : ClassId), (v = some (.ref nx) ∧ Fr n0 L ∧ Keep h0 h [] ∧ h0.size ≤ nx ∧ Exa Z h nx "java/lang/String" ∧ Fld Z h nx "java/lang/String" "coder" "B" z0 ∧ Fld Z h nx "java/lang/String" "value" "[B" (.ref nt) ∧ Arv Z h nt nk .byte (29 : Int32) ((([73, 110, 115, 117, 102, 102, 105, 99, 105, 101, 110, 116, 32, 112, 101, 114, 109, 105, 115, 115, 105, 111, 110, 115, 58, 32, p1, p2, p3] : List Int32).map (fun c => c.toInt8.toInt32)).map Value.int) z0)
set_option maxRecDepth 65536 in
set_option maxHeartbeats 40000000 in
theorem rmE3 (l : Launch) (Z : State) (a0 : Array Value) (hw : ∀ d ∈ tables_1, d.before a0 Z = true) (ws : List Jvm.Cond) (p1 : Int32) (p2 : Int32) (p3 : Int32) (zc : Int32) (h0 : Heap) (n0 : Nat) (Z0 : n0 ≤ h0.size) (uO : Old Z n0 h0) (uS : Sta Z Z.heap "java/lang/String" "COMPACT_STRINGS" "Z" (.int zc)) (uP : ¬ zc = 0) (ub_p1 : ¬ p1 < 0 ∧ ¬ (255 : Int32) < p1) (ub_p2 : ¬ p2 < 0 ∧ ¬ (255 : Int32) < p2) (ub_p3 : ¬ p3 < 0 ∧ ¬ (255 : Int32) < p3) :
    MetFree l M25 (head1 (Jvm.Cond.code M25 method_3_code 4 (some (.object "java/lang/String")) :: ws) ({ frames := 4, cells := 3, slots := 62, locals := 66 } : Room)) (fun a U => a = #[(vI 3), (.int p1), (.int p2), (.int p3)] ∧ Z.Warmed39 U.vm ∧ U.heap = h0 ∧ CHv Z own_EL U.vm h0) (fun _ _ _ _ _ => True) (fun _ U o U' => ∃ v L, o = .returned v ∧ Q_rmE3 Z p1 p2 p3 zc h0 n0 v U'.heap L ∧ CHr Z own_EL U.vm U.heap U'.vm U'.heap ∧ ReturnedEndW U o U' L ({ frames := 4, cells := 3, slots := 62, locals := 66 } : Room).cells ({ frames := 4, cells := 3, slots := 62, locals := 66 } : Room).slots) := by
  refine MetFree.of_bodySF (plainFor_of_name pn_4) hisR ?_
  intro p e s m args below meth c s₁ Bd hml0 hP hK
  obtain ⟨rfl, hZ, hh, hC0⟩ := hP
  have hx := Bd.exec
  have hby := Bd.bytes
  have hml : c.maxLocals = 4 := hml0
  have hown : s.vm.findClass "com/example/plain_hub/plainhub/HubExceptionForbiddenPinLaw" = some m.cls := findClass_of_methodNamed Bd.named
  have hnm := (name_of_methodNamed Bd.named Bd.method).1
  have X0 : Stand p l e ({ frames := 4, cells := 3, slots := 62, locals := 66 } : Room) (s.setVm s.vm) m #[(vI 3), (.int p1), (.int p2), (.int p3)] below meth c s₁ [] 0 0 := Stand.of_body Bd
  have e0 : s₁.heap = h0 := by rw [← hh, Bd.state]; rfl
  have N0 := Fr.nil n0
  have pre0 : ∀ t, Steps p.tables e below (s₁.setTop (mkF m 0 #[vi (3 : Int32), vi p1, vi p2, vi p3] [])) t → Steps p.tables e below (s₁.setTop (entryFrame m #[(vI 3), (.int p1), (.int p2), (.int p3)] 4)) t := fun t k => castTop (ef_31 m p1 p2 p3) k
  have hS0 : s.Since s.vm 0 := (State.WarmedH.refl s).since _
  have hk0 : 0 ≤ h0.size := Nat.zero_le _
  have R0 := CHr.refl hC0
  have own_hp : ∀ c ∈ ([73, 110, 115, 117, 102, 102, 105, 99, 105, 101, 110, 116, 32, 112, 101, 114, 109, 105, 115, 115, 105, 111, 110, 115, 58, 32, p1, p2, p3] : List Int32), ¬ c < 0 ∧ ¬ (255 : Int32) < c := by
    intro c hc
    simp only [List.mem_cons, List.not_mem_nil, or_false] at hc
    rcases hc with rfl | rfl | rfl | rfl | rfl | rfl | rfl | rfl | rfl | rfl | rfl | rfl | rfl | rfl | rfl | rfl | rfl | rfl | rfl | rfl | rfl | rfl | rfl | rfl | rfl | rfl | rfl | rfl | rfl
    · exact ⟨by decide, by decide⟩
    · exact ⟨by decide, by decide⟩
    · exact ⟨by decide, by decide⟩
    · exact ⟨by decide, by decide⟩
    · exact ⟨by decide, by decide⟩
    · exact ⟨by decide, by decide⟩
    · exact ⟨by decide, by decide⟩
    · exact ⟨by decide, by decide⟩
    · exact ⟨by decide, by decide⟩
    · exact ⟨by decide, by decide⟩
    · exact ⟨by decide, by decide⟩
    · exact ⟨by decide, by decide⟩
    · exact ⟨by decide, by decide⟩
    · exact ⟨by decide, by decide⟩
    · exact ⟨by decide, by decide⟩
    · exact ⟨by decide, by decide⟩
    · exact ⟨by decide, by decide⟩
    · exact ⟨by decide, by decide⟩
    · exact ⟨by decide, by decide⟩
    · exact ⟨by decide, by decide⟩
    · exact ⟨by decide, by decide⟩
    · exact ⟨by decide, by decide⟩
    · exact ⟨by decide, by decide⟩
    · exact ⟨by decide, by decide⟩
    · exact ⟨by decide, by decide⟩
    · exact ⟨by decide, by decide⟩
    · exact ub_p1
    · exact ub_p2
    · exact ub_p3
  obtain ⟨T1, h1, X1, e1, E1, A1, D1, Un1, st1⟩ := newO X0 hx hZ hown (wd hw 4 rfl) (wd hw 5 rfl) (wd hw 6 rfl) e0 (g := (mkF m 515 #[vi (3 : Int32), vi p1, vi p2, vi p3] [])) rfl (hb hby d5_515) (by decide) (by decide)
  obtain ⟨b1, g1⟩ : ∃ z, z = h0.size := ⟨_, rfl⟩
  rw [← g1] at A1 D1 Un1 st1
  have Re2 := R0.trans (CHr.ext E1 hC0)
  have hCe2 := Re2.1
  have sf1 := Safe.ext E1 hC0 (Safe.new (Nat.le_of_eq g1.symm))
  have F1_value : Fld Z h1 b1 "java/lang/String" "value" "[B" .null := D1 (Or.inr (wd hw 20 rfl)) (ty := (.array .byte)) (by decide)
  have F1_coder : Fld Z h1 b1 "java/lang/String" "coder" "B" z0 := D1 (Or.inr (wd hw 21 rfl)) (ty := .byte) (by decide)
  have g_b1 : n0 ≤ b1 := Nat.le_trans Z0 (Nat.le_of_eq g1.symm)
  have sz_b1 : h0.size ≤ b1 := Nat.le_trans (Keep.refl h0 []).1 (Nat.le_of_eq g1.symm)
  have K1 : Keep h0 h1 [] := (Keep.refl h0 []).ext E1
  have Z1 : n0 ≤ h1.size := Nat.le_trans Z0 E1.1
  have hk1 : _ ≤ h1.size := Nat.le_trans hk0 E1.1
  obtain ⟨T3, h3, k3, X3, e3, E3, A3, AX3, st3⟩ := newPE X1 hx hZ (wd hw 7 rfl) e1 (g := (mkF m 521 #[vi (3 : Int32), vi p1, vi p2, vi p3] [(vI 29), (.ref b1), (.ref b1)])) rfl (hb hby d5_521) rfl (by decide) (cap := 29) (by decide) (by decide) (by decide) (by decide) (ad := "[C") (by decide)
  obtain ⟨b3, g3⟩ : ∃ z, z = h1.size := ⟨_, rfl⟩
  rw [← g3] at A3 AX3 st3
  have ne_b1_b3 : b1 ≠ b3 := Nat.ne_of_lt (Nat.lt_of_lt_of_le A1.lt (Nat.le_of_eq g3.symm))
  have Re4 := Re2.trans (CHr.ext E3 hCe2)
  have hCe4 := Re4.1
  have V3 : Arv Z h3 b3 k3 .char (29 : Int32) [z0, z0, z0, z0, z0, z0, z0, z0, z0, z0, z0, z0, z0, z0, z0, z0, z0, z0, z0, z0, z0, z0, z0, z0, z0, z0, z0, z0, z0] z0 := (Arv.new A3 (by decide)).pad (pad_rep [] z0 29)
  have g_b3 : n0 ≤ b3 := Nat.le_trans Z1 (Nat.le_of_eq g3.symm)
  have sz_b3 : h0.size ≤ b3 := Nat.le_trans K1.1 (Nat.le_of_eq g3.symm)
  have K3 : Keep h0 h3 [] := K1.ext E3
  have Z3 : n0 ≤ h3.size := Nat.le_trans Z1 E3.1
  have hk3 : _ ≤ h3.size := Nat.le_trans hk1 E3.1
  obtain ⟨cl5, Ar5, q5, S5, Nn5, H5, G5⟩ := (id V3)
  have hin5 : ¬ ((0 : Int32) < 0 ∨ cl5.slots.size ≤ ((0 : Int32)).toNatClampNeg) := inb_of S5 ⟨by decide, by decide⟩
  obtain ⟨T5, h5, X5, e5, W5, st5⟩ := stC X3 hx hZ e3 Ar5 (j := (0 : Int32)) hin5 (g := (mkF m 527 #[vi (3 : Int32), vi p1, vi p2, vi p3] [(vI 73), z0, (.ref b3), (.ref b3), (.ref b1), (.ref b1)])) rfl rfl (hb hby d5_527)
  have Re6 := Re4.trans (CHr.wr W5 (Safe.exa hZ.alike AX3 (by decide) (by decide)) hCe4)
  have hCe6 := Re6.1
  have V5 := Arv.set Ar5 q5 S5 Nn5 H5 G5 (fits_nar_char _) W5 0 rfl (Nat.le_of_ble_eq_true rfl)
  have N5 := Fr.snoc X5 N0 g_b3
  have K5 : Keep h0 h5 [] := K3.wr W5 (Or.inr sz_b3)
  have Z5 : n0 ≤ h5.size := by rw [W5.size]; exact Z3
  have hk5 := own_szW W5 hk3
  obtain ⟨cl7, Ar7, q7, S7, Nn7, H7, G7⟩ := (id V5)
  have hin7 : ¬ ((1 : Int32) < 0 ∨ cl7.slots.size ≤ ((1 : Int32)).toNatClampNeg) := inb_of S7 ⟨by decide, by decide⟩
  obtain ⟨T7, h7, X7, e7, W7, st7⟩ := stC X5 hx hZ e5 Ar7 (j := (1 : Int32)) hin7 (g := (mkF m 532 #[vi (3 : Int32), vi p1, vi p2, vi p3] [(vI 110), (vI 1), (.ref b3), (.ref b3), (.ref b1), (.ref b1)])) rfl rfl (hb hby d5_532)
  have c8 := (AX3.wr W5)
  have Re9 := Re6.trans (CHr.wr W7 (Safe.exa hZ.alike c8 (by decide) (by decide)) hCe6)
  have hCe9 := Re9.1
  have V7 := Arv.set Ar7 q7 S7 Nn7 H7 G7 (fits_nar_char _) W7 1 rfl (Nat.le_of_ble_eq_true rfl)
  have N7 := Fr.snoc X7 N5 g_b3
  have K7 : Keep h0 h7 [] := K5.wr W7 (Or.inr sz_b3)
  have Z7 : n0 ≤ h7.size := by rw [W7.size]; exact Z5
  have hk7 := own_szW W7 hk5
  obtain ⟨cl10, Ar10, q10, S10, Nn10, H10, G10⟩ := (id V7)
  have hin10 : ¬ ((2 : Int32) < 0 ∨ cl10.slots.size ≤ ((2 : Int32)).toNatClampNeg) := inb_of S10 ⟨by decide, by decide⟩
  obtain ⟨T10, h10, X10, e10, W10, st10⟩ := stC X7 hx hZ e7 Ar10 (j := (2 : Int32)) hin10 (g := (mkF m 537 #[vi (3 : Int32), vi p1, vi p2, vi p3] [(vI 115), (vI 2), (.ref b3), (.ref b3), (.ref b1), (.ref b1)])) rfl rfl (hb hby d5_537)
  have c11 := (c8.wr W7)
  have Re12 := Re9.trans (CHr.wr W10 (Safe.exa hZ.alike c11 (by decide) (by decide)) hCe9)
  have hCe12 := Re12.1
  have V10 := Arv.set Ar10 q10 S10 Nn10 H10 G10 (fits_nar_char _) W10 2 rfl (Nat.le_of_ble_eq_true rfl)
  have N10 := Fr.snoc X10 N7 g_b3
  have K10 : Keep h0 h10 [] := K7.wr W10 (Or.inr sz_b3)
  have Z10 : n0 ≤ h10.size := by rw [W10.size]; exact Z7
  have hk10 := own_szW W10 hk7
  obtain ⟨cl13, Ar13, q13, S13, Nn13, H13, G13⟩ := (id V10)
  have hin13 : ¬ ((3 : Int32) < 0 ∨ cl13.slots.size ≤ ((3 : Int32)).toNatClampNeg) := inb_of S13 ⟨by decide, by decide⟩
  obtain ⟨T13, h13, X13, e13, W13, st13⟩ := stC X10 hx hZ e10 Ar13 (j := (3 : Int32)) hin13 (g := (mkF m 542 #[vi (3 : Int32), vi p1, vi p2, vi p3] [(vI 117), (vI 3), (.ref b3), (.ref b3), (.ref b1), (.ref b1)])) rfl rfl (hb hby d5_542)
  have c14 := (c11.wr W10)
  have Re15 := Re12.trans (CHr.wr W13 (Safe.exa hZ.alike c14 (by decide) (by decide)) hCe12)
  have hCe15 := Re15.1
  have V13 := Arv.set Ar13 q13 S13 Nn13 H13 G13 (fits_nar_char _) W13 3 rfl (Nat.le_of_ble_eq_true rfl)
  have N13 := Fr.snoc X13 N10 g_b3
  have K13 : Keep h0 h13 [] := K10.wr W13 (Or.inr sz_b3)
  have Z13 : n0 ≤ h13.size := by rw [W13.size]; exact Z10
  have hk13 := own_szW W13 hk10
  obtain ⟨cl16, Ar16, q16, S16, Nn16, H16, G16⟩ := (id V13)
  have hin16 : ¬ ((4 : Int32) < 0 ∨ cl16.slots.size ≤ ((4 : Int32)).toNatClampNeg) := inb_of S16 ⟨by decide, by decide⟩
  obtain ⟨T16, h16, X16, e16, W16, st16⟩ := stC X13 hx hZ e13 Ar16 (j := (4 : Int32)) hin16 (g := (mkF m 547 #[vi (3 : Int32), vi p1, vi p2, vi p3] [(vI 102), (vI 4), (.ref b3), (.ref b3), (.ref b1), (.ref b1)])) rfl rfl (hb hby d5_547)
  have c17 := (c14.wr W13)
  have Re18 := Re15.trans (CHr.wr W16 (Safe.exa hZ.alike c17 (by decide) (by decide)) hCe15)
  have hCe18 := Re18.1
  have V16 := Arv.set Ar16 q16 S16 Nn16 H16 G16 (fits_nar_char _) W16 4 rfl (Nat.le_of_ble_eq_true rfl)
  have N16 := Fr.snoc X16 N13 g_b3
  have K16 : Keep h0 h16 [] := K13.wr W16 (Or.inr sz_b3)
  have Z16 : n0 ≤ h16.size := by rw [W16.size]; exact Z13
  have hk16 := own_szW W16 hk13
  obtain ⟨cl19, Ar19, q19, S19, Nn19, H19, G19⟩ := (id V16)
  have hin19 : ¬ ((5 : Int32) < 0 ∨ cl19.slots.size ≤ ((5 : Int32)).toNatClampNeg) := inb_of S19 ⟨by decide, by decide⟩
  obtain ⟨T19, h19, X19, e19, W19, st19⟩ := stC X16 hx hZ e16 Ar19 (j := (5 : Int32)) hin19 (g := (mkF m 552 #[vi (3 : Int32), vi p1, vi p2, vi p3] [(vI 102), (vI 5), (.ref b3), (.ref b3), (.ref b1), (.ref b1)])) rfl rfl (hb hby d5_552)
  have c20 := (c17.wr W16)
  have Re21 := Re18.trans (CHr.wr W19 (Safe.exa hZ.alike c20 (by decide) (by decide)) hCe18)
  have hCe21 := Re21.1
  have V19 := Arv.set Ar19 q19 S19 Nn19 H19 G19 (fits_nar_char _) W19 5 rfl (Nat.le_of_ble_eq_true rfl)
  have N19 := Fr.snoc X19 N16 g_b3
  have K19 : Keep h0 h19 [] := K16.wr W19 (Or.inr sz_b3)
  have Z19 : n0 ≤ h19.size := by rw [W19.size]; exact Z16
  have hk19 := own_szW W19 hk16
  obtain ⟨cl22, Ar22, q22, S22, Nn22, H22, G22⟩ := (id V19)
  have hin22 : ¬ ((6 : Int32) < 0 ∨ cl22.slots.size ≤ ((6 : Int32)).toNatClampNeg) := inb_of S22 ⟨by decide, by decide⟩
  obtain ⟨T22, h22, X22, e22, W22, st22⟩ := stC X19 hx hZ e19 Ar22 (j := (6 : Int32)) hin22 (g := (mkF m 558 #[vi (3 : Int32), vi p1, vi p2, vi p3] [(vI 105), (vI 6), (.ref b3), (.ref b3), (.ref b1), (.ref b1)])) rfl rfl (hb hby d5_558)
  have c23 := (c20.wr W19)
  have Re24 := Re21.trans (CHr.wr W22 (Safe.exa hZ.alike c23 (by decide) (by decide)) hCe21)
  have hCe24 := Re24.1
  have V22 := Arv.set Ar22 q22 S22 Nn22 H22 G22 (fits_nar_char _) W22 6 rfl (Nat.le_of_ble_eq_true rfl)
  have N22 := Fr.snoc X22 N19 g_b3
  have K22 : Keep h0 h22 [] := K19.wr W22 (Or.inr sz_b3)
  have Z22 : n0 ≤ h22.size := by rw [W22.size]; exact Z19
  have hk22 := own_szW W22 hk19
  obtain ⟨cl25, Ar25, q25, S25, Nn25, H25, G25⟩ := (id V22)
  have hin25 : ¬ ((7 : Int32) < 0 ∨ cl25.slots.size ≤ ((7 : Int32)).toNatClampNeg) := inb_of S25 ⟨by decide, by decide⟩
  obtain ⟨T25, h25, X25, e25, W25, st25⟩ := stC X22 hx hZ e22 Ar25 (j := (7 : Int32)) hin25 (g := (mkF m 564 #[vi (3 : Int32), vi p1, vi p2, vi p3] [(vI 99), (vI 7), (.ref b3), (.ref b3), (.ref b1), (.ref b1)])) rfl rfl (hb hby d5_564)
  have c26 := (c23.wr W22)
  have Re27 := Re24.trans (CHr.wr W25 (Safe.exa hZ.alike c26 (by decide) (by decide)) hCe24)
  have hCe27 := Re27.1
  have V25 := Arv.set Ar25 q25 S25 Nn25 H25 G25 (fits_nar_char _) W25 7 rfl (Nat.le_of_ble_eq_true rfl)
  have N25 := Fr.snoc X25 N22 g_b3
  have K25 : Keep h0 h25 [] := K22.wr W25 (Or.inr sz_b3)
  have Z25 : n0 ≤ h25.size := by rw [W25.size]; exact Z22
  have hk25 := own_szW W25 hk22
  obtain ⟨cl28, Ar28, q28, S28, Nn28, H28, G28⟩ := (id V25)
  have hin28 : ¬ ((8 : Int32) < 0 ∨ cl28.slots.size ≤ ((8 : Int32)).toNatClampNeg) := inb_of S28 ⟨by decide, by decide⟩
  obtain ⟨T28, h28, X28, e28, W28, st28⟩ := stC X25 hx hZ e25 Ar28 (j := (8 : Int32)) hin28 (g := (mkF m 570 #[vi (3 : Int32), vi p1, vi p2, vi p3] [(vI 105), (vI 8), (.ref b3), (.ref b3), (.ref b1), (.ref b1)])) rfl rfl (hb hby d5_570)
  have c29 := (c26.wr W25)
  have Re30 := Re27.trans (CHr.wr W28 (Safe.exa hZ.alike c29 (by decide) (by decide)) hCe27)
  have hCe30 := Re30.1
  have V28 := Arv.set Ar28 q28 S28 Nn28 H28 G28 (fits_nar_char _) W28 8 rfl (Nat.le_of_ble_eq_true rfl)
  have N28 := Fr.snoc X28 N25 g_b3
  have K28 : Keep h0 h28 [] := K25.wr W28 (Or.inr sz_b3)
  have Z28 : n0 ≤ h28.size := by rw [W28.size]; exact Z25
  have hk28 := own_szW W28 hk25
  obtain ⟨cl31, Ar31, q31, S31, Nn31, H31, G31⟩ := (id V28)
  have hin31 : ¬ ((9 : Int32) < 0 ∨ cl31.slots.size ≤ ((9 : Int32)).toNatClampNeg) := inb_of S31 ⟨by decide, by decide⟩
  obtain ⟨T31, h31, X31, e31, W31, st31⟩ := stC X28 hx hZ e28 Ar31 (j := (9 : Int32)) hin31 (g := (mkF m 576 #[vi (3 : Int32), vi p1, vi p2, vi p3] [(vI 101), (vI 9), (.ref b3), (.ref b3), (.ref b1), (.ref b1)])) rfl rfl (hb hby d5_576)
  have c32 := (c29.wr W28)
  have Re33 := Re30.trans (CHr.wr W31 (Safe.exa hZ.alike c32 (by decide) (by decide)) hCe30)
  have hCe33 := Re33.1
  have V31 := Arv.set Ar31 q31 S31 Nn31 H31 G31 (fits_nar_char _) W31 9 rfl (Nat.le_of_ble_eq_true rfl)
  have N31 := Fr.snoc X31 N28 g_b3
  have K31 : Keep h0 h31 [] := K28.wr W31 (Or.inr sz_b3)
  have Z31 : n0 ≤ h31.size := by rw [W31.size]; exact Z28
  have hk31 := own_szW W31 hk28
  obtain ⟨cl34, Ar34, q34, S34, Nn34, H34, G34⟩ := (id V31)
  have hin34 : ¬ ((10 : Int32) < 0 ∨ cl34.slots.size ≤ ((10 : Int32)).toNatClampNeg) := inb_of S34 ⟨by decide, by decide⟩
  obtain ⟨T34, h34, X34, e34, W34, st34⟩ := stC X31 hx hZ e31 Ar34 (j := (10 : Int32)) hin34 (g := (mkF m 582 #[vi (3 : Int32), vi p1, vi p2, vi p3] [(vI 110), (vI 10), (.ref b3), (.ref b3), (.ref b1), (.ref b1)])) rfl rfl (hb hby d5_582)
  have c35 := (c32.wr W31)
  have Re36 := Re33.trans (CHr.wr W34 (Safe.exa hZ.alike c35 (by decide) (by decide)) hCe33)
  have hCe36 := Re36.1
  have V34 := Arv.set Ar34 q34 S34 Nn34 H34 G34 (fits_nar_char _) W34 10 rfl (Nat.le_of_ble_eq_true rfl)
  have N34 := Fr.snoc X34 N31 g_b3
  have K34 : Keep h0 h34 [] := K31.wr W34 (Or.inr sz_b3)
  have Z34 : n0 ≤ h34.size := by rw [W34.size]; exact Z31
  have hk34 := own_szW W34 hk31
  obtain ⟨cl37, Ar37, q37, S37, Nn37, H37, G37⟩ := (id V34)
  have hin37 : ¬ ((11 : Int32) < 0 ∨ cl37.slots.size ≤ ((11 : Int32)).toNatClampNeg) := inb_of S37 ⟨by decide, by decide⟩
  obtain ⟨T37, h37, X37, e37, W37, st37⟩ := stC X34 hx hZ e34 Ar37 (j := (11 : Int32)) hin37 (g := (mkF m 588 #[vi (3 : Int32), vi p1, vi p2, vi p3] [(vI 116), (vI 11), (.ref b3), (.ref b3), (.ref b1), (.ref b1)])) rfl rfl (hb hby d5_588)
  have c38 := (c35.wr W34)
  have Re39 := Re36.trans (CHr.wr W37 (Safe.exa hZ.alike c38 (by decide) (by decide)) hCe36)
  have hCe39 := Re39.1
  have V37 := Arv.set Ar37 q37 S37 Nn37 H37 G37 (fits_nar_char _) W37 11 rfl (Nat.le_of_ble_eq_true rfl)
  have N37 := Fr.snoc X37 N34 g_b3
  have K37 : Keep h0 h37 [] := K34.wr W37 (Or.inr sz_b3)
  have Z37 : n0 ≤ h37.size := by rw [W37.size]; exact Z34
  have hk37 := own_szW W37 hk34
  obtain ⟨cl40, Ar40, q40, S40, Nn40, H40, G40⟩ := (id V37)
  have hin40 : ¬ ((12 : Int32) < 0 ∨ cl40.slots.size ≤ ((12 : Int32)).toNatClampNeg) := inb_of S40 ⟨by decide, by decide⟩
  obtain ⟨T40, h40, X40, e40, W40, st40⟩ := stC X37 hx hZ e37 Ar40 (j := (12 : Int32)) hin40 (g := (mkF m 594 #[vi (3 : Int32), vi p1, vi p2, vi p3] [(vI 32), (vI 12), (.ref b3), (.ref b3), (.ref b1), (.ref b1)])) rfl rfl (hb hby d5_594)
  have c41 := (c38.wr W37)
  have Re42 := Re39.trans (CHr.wr W40 (Safe.exa hZ.alike c41 (by decide) (by decide)) hCe39)
  have hCe42 := Re42.1
  have V40 := Arv.set Ar40 q40 S40 Nn40 H40 G40 (fits_nar_char _) W40 12 rfl (Nat.le_of_ble_eq_true rfl)
  have N40 := Fr.snoc X40 N37 g_b3
  have K40 : Keep h0 h40 [] := K37.wr W40 (Or.inr sz_b3)
  have Z40 : n0 ≤ h40.size := by rw [W40.size]; exact Z37
  have hk40 := own_szW W40 hk37
  obtain ⟨cl43, Ar43, q43, S43, Nn43, H43, G43⟩ := (id V40)
  have hin43 : ¬ ((13 : Int32) < 0 ∨ cl43.slots.size ≤ ((13 : Int32)).toNatClampNeg) := inb_of S43 ⟨by decide, by decide⟩
  obtain ⟨T43, h43, X43, e43, W43, st43⟩ := stC X40 hx hZ e40 Ar43 (j := (13 : Int32)) hin43 (g := (mkF m 600 #[vi (3 : Int32), vi p1, vi p2, vi p3] [(vI 112), (vI 13), (.ref b3), (.ref b3), (.ref b1), (.ref b1)])) rfl rfl (hb hby d5_600)
  have c44 := (c41.wr W40)
  have Re45 := Re42.trans (CHr.wr W43 (Safe.exa hZ.alike c44 (by decide) (by decide)) hCe42)
  have hCe45 := Re45.1
  have V43 := Arv.set Ar43 q43 S43 Nn43 H43 G43 (fits_nar_char _) W43 13 rfl (Nat.le_of_ble_eq_true rfl)
  have N43 := Fr.snoc X43 N40 g_b3
  have K43 : Keep h0 h43 [] := K40.wr W43 (Or.inr sz_b3)
  have Z43 : n0 ≤ h43.size := by rw [W43.size]; exact Z40
  have hk43 := own_szW W43 hk40
  obtain ⟨cl46, Ar46, q46, S46, Nn46, H46, G46⟩ := (id V43)
  have hin46 : ¬ ((14 : Int32) < 0 ∨ cl46.slots.size ≤ ((14 : Int32)).toNatClampNeg) := inb_of S46 ⟨by decide, by decide⟩
  obtain ⟨T46, h46, X46, e46, W46, st46⟩ := stC X43 hx hZ e43 Ar46 (j := (14 : Int32)) hin46 (g := (mkF m 606 #[vi (3 : Int32), vi p1, vi p2, vi p3] [(vI 101), (vI 14), (.ref b3), (.ref b3), (.ref b1), (.ref b1)])) rfl rfl (hb hby d5_606)
  have c47 := (c44.wr W43)
  have Re48 := Re45.trans (CHr.wr W46 (Safe.exa hZ.alike c47 (by decide) (by decide)) hCe45)
  have hCe48 := Re48.1
  have V46 := Arv.set Ar46 q46 S46 Nn46 H46 G46 (fits_nar_char _) W46 14 rfl (Nat.le_of_ble_eq_true rfl)
  have N46 := Fr.snoc X46 N43 g_b3
  have K46 : Keep h0 h46 [] := K43.wr W46 (Or.inr sz_b3)
  have Z46 : n0 ≤ h46.size := by rw [W46.size]; exact Z43
  have hk46 := own_szW W46 hk43
  obtain ⟨cl49, Ar49, q49, S49, Nn49, H49, G49⟩ := (id V46)
  have hin49 : ¬ ((15 : Int32) < 0 ∨ cl49.slots.size ≤ ((15 : Int32)).toNatClampNeg) := inb_of S49 ⟨by decide, by decide⟩
  obtain ⟨T49, h49, X49, e49, W49, st49⟩ := stC X46 hx hZ e46 Ar49 (j := (15 : Int32)) hin49 (g := (mkF m 612 #[vi (3 : Int32), vi p1, vi p2, vi p3] [(vI 114), (vI 15), (.ref b3), (.ref b3), (.ref b1), (.ref b1)])) rfl rfl (hb hby d5_612)
  have c50 := (c47.wr W46)
  have Re51 := Re48.trans (CHr.wr W49 (Safe.exa hZ.alike c50 (by decide) (by decide)) hCe48)
  have hCe51 := Re51.1
  have V49 := Arv.set Ar49 q49 S49 Nn49 H49 G49 (fits_nar_char _) W49 15 rfl (Nat.le_of_ble_eq_true rfl)
  have N49 := Fr.snoc X49 N46 g_b3
  have K49 : Keep h0 h49 [] := K46.wr W49 (Or.inr sz_b3)
  have Z49 : n0 ≤ h49.size := by rw [W49.size]; exact Z46
  have hk49 := own_szW W49 hk46
  obtain ⟨cl52, Ar52, q52, S52, Nn52, H52, G52⟩ := (id V49)
  have hin52 : ¬ ((16 : Int32) < 0 ∨ cl52.slots.size ≤ ((16 : Int32)).toNatClampNeg) := inb_of S52 ⟨by decide, by decide⟩
  obtain ⟨T52, h52, X52, e52, W52, st52⟩ := stC X49 hx hZ e49 Ar52 (j := (16 : Int32)) hin52 (g := (mkF m 618 #[vi (3 : Int32), vi p1, vi p2, vi p3] [(vI 109), (vI 16), (.ref b3), (.ref b3), (.ref b1), (.ref b1)])) rfl rfl (hb hby d5_618)
  have c53 := (c50.wr W49)
  have Re54 := Re51.trans (CHr.wr W52 (Safe.exa hZ.alike c53 (by decide) (by decide)) hCe51)
  have hCe54 := Re54.1
  have V52 := Arv.set Ar52 q52 S52 Nn52 H52 G52 (fits_nar_char _) W52 16 rfl (Nat.le_of_ble_eq_true rfl)
  have N52 := Fr.snoc X52 N49 g_b3
  have K52 : Keep h0 h52 [] := K49.wr W52 (Or.inr sz_b3)
  have Z52 : n0 ≤ h52.size := by rw [W52.size]; exact Z49
  have hk52 := own_szW W52 hk49
  obtain ⟨cl55, Ar55, q55, S55, Nn55, H55, G55⟩ := (id V52)
  have hin55 : ¬ ((17 : Int32) < 0 ∨ cl55.slots.size ≤ ((17 : Int32)).toNatClampNeg) := inb_of S55 ⟨by decide, by decide⟩
  obtain ⟨T55, h55, X55, e55, W55, st55⟩ := stC X52 hx hZ e52 Ar55 (j := (17 : Int32)) hin55 (g := (mkF m 624 #[vi (3 : Int32), vi p1, vi p2, vi p3] [(vI 105), (vI 17), (.ref b3), (.ref b3), (.ref b1), (.ref b1)])) rfl rfl (hb hby d5_624)
  have c56 := (c53.wr W52)
  have Re57 := Re54.trans (CHr.wr W55 (Safe.exa hZ.alike c56 (by decide) (by decide)) hCe54)
  have hCe57 := Re57.1
  have V55 := Arv.set Ar55 q55 S55 Nn55 H55 G55 (fits_nar_char _) W55 17 rfl (Nat.le_of_ble_eq_true rfl)
  have N55 := Fr.snoc X55 N52 g_b3
  have K55 : Keep h0 h55 [] := K52.wr W55 (Or.inr sz_b3)
  have Z55 : n0 ≤ h55.size := by rw [W55.size]; exact Z52
  have hk55 := own_szW W55 hk52
  obtain ⟨cl58, Ar58, q58, S58, Nn58, H58, G58⟩ := (id V55)
  have hin58 : ¬ ((18 : Int32) < 0 ∨ cl58.slots.size ≤ ((18 : Int32)).toNatClampNeg) := inb_of S58 ⟨by decide, by decide⟩
  obtain ⟨T58, h58, X58, e58, W58, st58⟩ := stC X55 hx hZ e55 Ar58 (j := (18 : Int32)) hin58 (g := (mkF m 630 #[vi (3 : Int32), vi p1, vi p2, vi p3] [(vI 115), (vI 18), (.ref b3), (.ref b3), (.ref b1), (.ref b1)])) rfl rfl (hb hby d5_630)
  have c59 := (c56.wr W55)
  have Re60 := Re57.trans (CHr.wr W58 (Safe.exa hZ.alike c59 (by decide) (by decide)) hCe57)
  have hCe60 := Re60.1
  have V58 := Arv.set Ar58 q58 S58 Nn58 H58 G58 (fits_nar_char _) W58 18 rfl (Nat.le_of_ble_eq_true rfl)
  have N58 := Fr.snoc X58 N55 g_b3
  have K58 : Keep h0 h58 [] := K55.wr W58 (Or.inr sz_b3)
  have Z58 : n0 ≤ h58.size := by rw [W58.size]; exact Z55
  have hk58 := own_szW W58 hk55
  obtain ⟨cl61, Ar61, q61, S61, Nn61, H61, G61⟩ := (id V58)
  have hin61 : ¬ ((19 : Int32) < 0 ∨ cl61.slots.size ≤ ((19 : Int32)).toNatClampNeg) := inb_of S61 ⟨by decide, by decide⟩
  obtain ⟨T61, h61, X61, e61, W61, st61⟩ := stC X58 hx hZ e58 Ar61 (j := (19 : Int32)) hin61 (g := (mkF m 636 #[vi (3 : Int32), vi p1, vi p2, vi p3] [(vI 115), (vI 19), (.ref b3), (.ref b3), (.ref b1), (.ref b1)])) rfl rfl (hb hby d5_636)
  have c62 := (c59.wr W58)
  have Re63 := Re60.trans (CHr.wr W61 (Safe.exa hZ.alike c62 (by decide) (by decide)) hCe60)
  have hCe63 := Re63.1
  have V61 := Arv.set Ar61 q61 S61 Nn61 H61 G61 (fits_nar_char _) W61 19 rfl (Nat.le_of_ble_eq_true rfl)
  have N61 := Fr.snoc X61 N58 g_b3
  have K61 : Keep h0 h61 [] := K58.wr W61 (Or.inr sz_b3)
  have Z61 : n0 ≤ h61.size := by rw [W61.size]; exact Z58
  have hk61 := own_szW W61 hk58
  obtain ⟨cl64, Ar64, q64, S64, Nn64, H64, G64⟩ := (id V61)
  have hin64 : ¬ ((20 : Int32) < 0 ∨ cl64.slots.size ≤ ((20 : Int32)).toNatClampNeg) := inb_of S64 ⟨by decide, by decide⟩
  obtain ⟨T64, h64, X64, e64, W64, st64⟩ := stC X61 hx hZ e61 Ar64 (j := (20 : Int32)) hin64 (g := (mkF m 642 #[vi (3 : Int32), vi p1, vi p2, vi p3] [(vI 105), (vI 20), (.ref b3), (.ref b3), (.ref b1), (.ref b1)])) rfl rfl (hb hby d5_642)
  have c65 := (c62.wr W61)
  have Re66 := Re63.trans (CHr.wr W64 (Safe.exa hZ.alike c65 (by decide) (by decide)) hCe63)
  have hCe66 := Re66.1
  have V64 := Arv.set Ar64 q64 S64 Nn64 H64 G64 (fits_nar_char _) W64 20 rfl (Nat.le_of_ble_eq_true rfl)
  have N64 := Fr.snoc X64 N61 g_b3
  have K64 : Keep h0 h64 [] := K61.wr W64 (Or.inr sz_b3)
  have Z64 : n0 ≤ h64.size := by rw [W64.size]; exact Z61
  have hk64 := own_szW W64 hk61
  obtain ⟨cl67, Ar67, q67, S67, Nn67, H67, G67⟩ := (id V64)
  have hin67 : ¬ ((21 : Int32) < 0 ∨ cl67.slots.size ≤ ((21 : Int32)).toNatClampNeg) := inb_of S67 ⟨by decide, by decide⟩
  obtain ⟨T67, h67, X67, e67, W67, st67⟩ := stC X64 hx hZ e64 Ar67 (j := (21 : Int32)) hin67 (g := (mkF m 648 #[vi (3 : Int32), vi p1, vi p2, vi p3] [(vI 111), (vI 21), (.ref b3), (.ref b3), (.ref b1), (.ref b1)])) rfl rfl (hb hby d5_648)
  have c68 := (c65.wr W64)
  have Re69 := Re66.trans (CHr.wr W67 (Safe.exa hZ.alike c68 (by decide) (by decide)) hCe66)
  have hCe69 := Re69.1
  have V67 := Arv.set Ar67 q67 S67 Nn67 H67 G67 (fits_nar_char _) W67 21 rfl (Nat.le_of_ble_eq_true rfl)
  have N67 := Fr.snoc X67 N64 g_b3
  have K67 : Keep h0 h67 [] := K64.wr W67 (Or.inr sz_b3)
  have Z67 : n0 ≤ h67.size := by rw [W67.size]; exact Z64
  have hk67 := own_szW W67 hk64
  obtain ⟨cl70, Ar70, q70, S70, Nn70, H70, G70⟩ := (id V67)
  have hin70 : ¬ ((22 : Int32) < 0 ∨ cl70.slots.size ≤ ((22 : Int32)).toNatClampNeg) := inb_of S70 ⟨by decide, by decide⟩
  obtain ⟨T70, h70, X70, e70, W70, st70⟩ := stC X67 hx hZ e67 Ar70 (j := (22 : Int32)) hin70 (g := (mkF m 654 #[vi (3 : Int32), vi p1, vi p2, vi p3] [(vI 110), (vI 22), (.ref b3), (.ref b3), (.ref b1), (.ref b1)])) rfl rfl (hb hby d5_654)
  have c71 := (c68.wr W67)
  have Re72 := Re69.trans (CHr.wr W70 (Safe.exa hZ.alike c71 (by decide) (by decide)) hCe69)
  have hCe72 := Re72.1
  have V70 := Arv.set Ar70 q70 S70 Nn70 H70 G70 (fits_nar_char _) W70 22 rfl (Nat.le_of_ble_eq_true rfl)
  have N70 := Fr.snoc X70 N67 g_b3
  have K70 : Keep h0 h70 [] := K67.wr W70 (Or.inr sz_b3)
  have Z70 : n0 ≤ h70.size := by rw [W70.size]; exact Z67
  have hk70 := own_szW W70 hk67
  obtain ⟨cl73, Ar73, q73, S73, Nn73, H73, G73⟩ := (id V70)
  have hin73 : ¬ ((23 : Int32) < 0 ∨ cl73.slots.size ≤ ((23 : Int32)).toNatClampNeg) := inb_of S73 ⟨by decide, by decide⟩
  obtain ⟨T73, h73, X73, e73, W73, st73⟩ := stC X70 hx hZ e70 Ar73 (j := (23 : Int32)) hin73 (g := (mkF m 660 #[vi (3 : Int32), vi p1, vi p2, vi p3] [(vI 115), (vI 23), (.ref b3), (.ref b3), (.ref b1), (.ref b1)])) rfl rfl (hb hby d5_660)
  have c74 := (c71.wr W70)
  have Re75 := Re72.trans (CHr.wr W73 (Safe.exa hZ.alike c74 (by decide) (by decide)) hCe72)
  have hCe75 := Re75.1
  have V73 := Arv.set Ar73 q73 S73 Nn73 H73 G73 (fits_nar_char _) W73 23 rfl (Nat.le_of_ble_eq_true rfl)
  have N73 := Fr.snoc X73 N70 g_b3
  have K73 : Keep h0 h73 [] := K70.wr W73 (Or.inr sz_b3)
  have Z73 : n0 ≤ h73.size := by rw [W73.size]; exact Z70
  have hk73 := own_szW W73 hk70
  obtain ⟨cl76, Ar76, q76, S76, Nn76, H76, G76⟩ := (id V73)
  have hin76 : ¬ ((24 : Int32) < 0 ∨ cl76.slots.size ≤ ((24 : Int32)).toNatClampNeg) := inb_of S76 ⟨by decide, by decide⟩
  obtain ⟨T76, h76, X76, e76, W76, st76⟩ := stC X73 hx hZ e73 Ar76 (j := (24 : Int32)) hin76 (g := (mkF m 666 #[vi (3 : Int32), vi p1, vi p2, vi p3] [(vI 58), (vI 24), (.ref b3), (.ref b3), (.ref b1), (.ref b1)])) rfl rfl (hb hby d5_666)
  have c77 := (c74.wr W73)
  have Re78 := Re75.trans (CHr.wr W76 (Safe.exa hZ.alike c77 (by decide) (by decide)) hCe75)
  have hCe78 := Re78.1
  have V76 := Arv.set Ar76 q76 S76 Nn76 H76 G76 (fits_nar_char _) W76 24 rfl (Nat.le_of_ble_eq_true rfl)
  have N76 := Fr.snoc X76 N73 g_b3
  have K76 : Keep h0 h76 [] := K73.wr W76 (Or.inr sz_b3)
  have Z76 : n0 ≤ h76.size := by rw [W76.size]; exact Z73
  have hk76 := own_szW W76 hk73
  obtain ⟨cl79, Ar79, q79, S79, Nn79, H79, G79⟩ := (id V76)
  have hin79 : ¬ ((25 : Int32) < 0 ∨ cl79.slots.size ≤ ((25 : Int32)).toNatClampNeg) := inb_of S79 ⟨by decide, by decide⟩
  obtain ⟨T79, h79, X79, e79, W79, st79⟩ := stC X76 hx hZ e76 Ar79 (j := (25 : Int32)) hin79 (g := (mkF m 672 #[vi (3 : Int32), vi p1, vi p2, vi p3] [(vI 32), (vI 25), (.ref b3), (.ref b3), (.ref b1), (.ref b1)])) rfl rfl (hb hby d5_672)
  have c80 := (c77.wr W76)
  have Re81 := Re78.trans (CHr.wr W79 (Safe.exa hZ.alike c80 (by decide) (by decide)) hCe78)
  have hCe81 := Re81.1
  have V79 := Arv.set Ar79 q79 S79 Nn79 H79 G79 (fits_nar_char _) W79 25 rfl (Nat.le_of_ble_eq_true rfl)
  have N79 := Fr.snoc X79 N76 g_b3
  have K79 : Keep h0 h79 [] := K76.wr W79 (Or.inr sz_b3)
  have Z79 : n0 ≤ h79.size := by rw [W79.size]; exact Z76
  have hk79 := own_szW W79 hk76
  obtain ⟨cl82, Ar82, q82, S82, Nn82, H82, G82⟩ := (id V79)
  have hin82 : ¬ ((26 : Int32) < 0 ∨ cl82.slots.size ≤ ((26 : Int32)).toNatClampNeg) := inb_of S82 ⟨by decide, by decide⟩
  obtain ⟨T82, h82, X82, e82, W82, st82⟩ := stC X79 hx hZ e79 Ar82 (j := (26 : Int32)) hin82 (g := (mkF m 677 #[vi (3 : Int32), vi p1, vi p2, vi p3] [(.int p1), (vI 26), (.ref b3), (.ref b3), (.ref b1), (.ref b1)])) rfl rfl (hb hby d5_677)
  have c83 := (c80.wr W79)
  have Re84 := Re81.trans (CHr.wr W82 (Safe.exa hZ.alike c83 (by decide) (by decide)) hCe81)
  have hCe84 := Re84.1
  have V82 : Arv Z h82 b3 k3 .char (29 : Int32) [(vI 73), (vI 110), (vI 115), (vI 117), (vI 102), (vI 102), (vI 105), (vI 99), (vI 105), (vI 101), (vI 110), (vI 116), (vI 32), (vI 112), (vI 101), (vI 114), (vI 109), (vI 105), (vI 115), (vI 115), (vI 105), (vI 111), (vI 110), (vI 115), (vI 58), (vI 32), (.int (nar .char p1)), z0, z0] z0 := Arv.set Ar82 q82 S82 Nn82 H82 G82 (fits_nar_char _) W82 26 rfl (Nat.le_of_ble_eq_true rfl)
  have Vn82 : Arv Z h82 b3 k3 .char (29 : Int32) [(vI 73), (vI 110), (vI 115), (vI 117), (vI 102), (vI 102), (vI 105), (vI 99), (vI 105), (vI 101), (vI 110), (vI 116), (vI 32), (vI 112), (vI 101), (vI 114), (vI 109), (vI 105), (vI 115), (vI 115), (vI 105), (vI 111), (vI 110), (vI 115), (vI 58), (vI 32), (.int p1), z0, z0] z0 := by have q := V82; rw [(own_ne ub_p1)] at q; exact q
  have N82 := Fr.snoc X82 N79 g_b3
  have K82 : Keep h0 h82 [] := K79.wr W82 (Or.inr sz_b3)
  have Z82 : n0 ≤ h82.size := by rw [W82.size]; exact Z79
  have hk82 := own_szW W82 hk79
  obtain ⟨cl85, Ar85, q85, S85, Nn85, H85, G85⟩ := (id Vn82)
  have hin85 : ¬ ((27 : Int32) < 0 ∨ cl85.slots.size ≤ ((27 : Int32)).toNatClampNeg) := inb_of S85 ⟨by decide, by decide⟩
  obtain ⟨T85, h85, X85, e85, W85, st85⟩ := stC X82 hx hZ e82 Ar85 (j := (27 : Int32)) hin85 (g := (mkF m 682 #[vi (3 : Int32), vi p1, vi p2, vi p3] [(.int p2), (vI 27), (.ref b3), (.ref b3), (.ref b1), (.ref b1)])) rfl rfl (hb hby d5_682)
  have c86 := (c83.wr W82)
  have Re87 := Re84.trans (CHr.wr W85 (Safe.exa hZ.alike c86 (by decide) (by decide)) hCe84)
  have hCe87 := Re87.1
  have V85 : Arv Z h85 b3 k3 .char (29 : Int32) [(vI 73), (vI 110), (vI 115), (vI 117), (vI 102), (vI 102), (vI 105), (vI 99), (vI 105), (vI 101), (vI 110), (vI 116), (vI 32), (vI 112), (vI 101), (vI 114), (vI 109), (vI 105), (vI 115), (vI 115), (vI 105), (vI 111), (vI 110), (vI 115), (vI 58), (vI 32), (.int p1), (.int (nar .char p2)), z0] z0 := Arv.set Ar85 q85 S85 Nn85 H85 G85 (fits_nar_char _) W85 27 rfl (Nat.le_of_ble_eq_true rfl)
  have Vn85 : Arv Z h85 b3 k3 .char (29 : Int32) [(vI 73), (vI 110), (vI 115), (vI 117), (vI 102), (vI 102), (vI 105), (vI 99), (vI 105), (vI 101), (vI 110), (vI 116), (vI 32), (vI 112), (vI 101), (vI 114), (vI 109), (vI 105), (vI 115), (vI 115), (vI 105), (vI 111), (vI 110), (vI 115), (vI 58), (vI 32), (.int p1), (.int p2), z0] z0 := by have q := V85; rw [(own_ne ub_p2)] at q; exact q
  have N85 := Fr.snoc X85 N82 g_b3
  have K85 : Keep h0 h85 [] := K82.wr W85 (Or.inr sz_b3)
  have Z85 : n0 ≤ h85.size := by rw [W85.size]; exact Z82
  have hk85 := own_szW W85 hk82
  obtain ⟨cl88, Ar88, q88, S88, Nn88, H88, G88⟩ := (id Vn85)
  have hin88 : ¬ ((28 : Int32) < 0 ∨ cl88.slots.size ≤ ((28 : Int32)).toNatClampNeg) := inb_of S88 ⟨by decide, by decide⟩
  obtain ⟨T88, h88, X88, e88, W88, st88⟩ := stC X85 hx hZ e85 Ar88 (j := (28 : Int32)) hin88 (g := (mkF m 687 #[vi (3 : Int32), vi p1, vi p2, vi p3] [(.int p3), (vI 28), (.ref b3), (.ref b3), (.ref b1), (.ref b1)])) rfl rfl (hb hby d5_687)
  have c89 := (c86.wr W85)
  have Re90 := Re87.trans (CHr.wr W88 (Safe.exa hZ.alike c89 (by decide) (by decide)) hCe87)
  have hCe90 := Re90.1
  have V88 : Arv Z h88 b3 k3 .char (29 : Int32) [(vI 73), (vI 110), (vI 115), (vI 117), (vI 102), (vI 102), (vI 105), (vI 99), (vI 105), (vI 101), (vI 110), (vI 116), (vI 32), (vI 112), (vI 101), (vI 114), (vI 109), (vI 105), (vI 115), (vI 115), (vI 105), (vI 111), (vI 110), (vI 115), (vI 58), (vI 32), (.int p1), (.int p2), (.int (nar .char p3))] z0 := Arv.set Ar88 q88 S88 Nn88 H88 G88 (fits_nar_char _) W88 28 rfl (Nat.le_of_ble_eq_true rfl)
  have Vn88 : Arv Z h88 b3 k3 .char (29 : Int32) [(vI 73), (vI 110), (vI 115), (vI 117), (vI 102), (vI 102), (vI 105), (vI 99), (vI 105), (vI 101), (vI 110), (vI 116), (vI 32), (vI 112), (vI 101), (vI 114), (vI 109), (vI 105), (vI 115), (vI 115), (vI 105), (vI 111), (vI 110), (vI 115), (vI 58), (vI 32), (.int p1), (.int p2), (.int p3)] z0 := by have q := V88; rw [(own_ne ub_p3)] at q; exact q
  have N88 := Fr.snoc X88 N85 g_b3
  have K88 : Keep h0 h88 [] := K85.wr W88 (Or.inr sz_b3)
  have Z88 : n0 ≤ h88.size := by rw [W88.size]; exact Z85
  have hk88 := own_szW W88 hk85
  have c92 := ((((((((((((((((((((((((((((((A1.ext E3).wr W5).wr W7).wr W10).wr W13).wr W16).wr W19).wr W22).wr W25).wr W28).wr W31).wr W34).wr W37).wr W40).wr W43).wr W46).wr W49).wr W52).wr W55).wr W58).wr W61).wr W64).wr W67).wr W70).wr W73).wr W76).wr W79).wr W82).wr W85).wr W88)
  have c93 := ((((((((((((((((((((((((((((((F1_value.ext E3).other W5 (Or.inl ne_b1_b3)).other W7 (Or.inl ne_b1_b3)).other W10 (Or.inl ne_b1_b3)).other W13 (Or.inl ne_b1_b3)).other W16 (Or.inl ne_b1_b3)).other W19 (Or.inl ne_b1_b3)).other W22 (Or.inl ne_b1_b3)).other W25 (Or.inl ne_b1_b3)).other W28 (Or.inl ne_b1_b3)).other W31 (Or.inl ne_b1_b3)).other W34 (Or.inl ne_b1_b3)).other W37 (Or.inl ne_b1_b3)).other W40 (Or.inl ne_b1_b3)).other W43 (Or.inl ne_b1_b3)).other W46 (Or.inl ne_b1_b3)).other W49 (Or.inl ne_b1_b3)).other W52 (Or.inl ne_b1_b3)).other W55 (Or.inl ne_b1_b3)).other W58 (Or.inl ne_b1_b3)).other W61 (Or.inl ne_b1_b3)).other W64 (Or.inl ne_b1_b3)).other W67 (Or.inl ne_b1_b3)).other W70 (Or.inl ne_b1_b3)).other W73 (Or.inl ne_b1_b3)).other W76 (Or.inl ne_b1_b3)).other W79 (Or.inl ne_b1_b3)).other W82 (Or.inl ne_b1_b3)).other W85 (Or.inl ne_b1_b3)).other W88 (Or.inl ne_b1_b3))
  have c94 := ((((((((((((((((((((((((((((((F1_coder.ext E3).other W5 (Or.inl ne_b1_b3)).other W7 (Or.inl ne_b1_b3)).other W10 (Or.inl ne_b1_b3)).other W13 (Or.inl ne_b1_b3)).other W16 (Or.inl ne_b1_b3)).other W19 (Or.inl ne_b1_b3)).other W22 (Or.inl ne_b1_b3)).other W25 (Or.inl ne_b1_b3)).other W28 (Or.inl ne_b1_b3)).other W31 (Or.inl ne_b1_b3)).other W34 (Or.inl ne_b1_b3)).other W37 (Or.inl ne_b1_b3)).other W40 (Or.inl ne_b1_b3)).other W43 (Or.inl ne_b1_b3)).other W46 (Or.inl ne_b1_b3)).other W49 (Or.inl ne_b1_b3)).other W52 (Or.inl ne_b1_b3)).other W55 (Or.inl ne_b1_b3)).other W58 (Or.inl ne_b1_b3)).other W61 (Or.inl ne_b1_b3)).other W64 (Or.inl ne_b1_b3)).other W67 (Or.inl ne_b1_b3)).other W70 (Or.inl ne_b1_b3)).other W73 (Or.inl ne_b1_b3)).other W76 (Or.inl ne_b1_b3)).other W79 (Or.inl ne_b1_b3)).other W82 (Or.inl ne_b1_b3)).other W85 (Or.inl ne_b1_b3)).other W88 (Or.inl ne_b1_b3))
  have c95 := (((((((((((((((((((((((((((((((uO.ext E1).ext E3).wr W5 g_b3).wr W7 g_b3).wr W10 g_b3).wr W13 g_b3).wr W16 g_b3).wr W19 g_b3).wr W22 g_b3).wr W25 g_b3).wr W28 g_b3).wr W31 g_b3).wr W34 g_b3).wr W37 g_b3).wr W40 g_b3).wr W43 g_b3).wr W46 g_b3).wr W49 g_b3).wr W52 g_b3).wr W55 g_b3).wr W58 g_b3).wr W61 g_b3).wr W64 g_b3).wr W67 g_b3).wr W70 g_b3).wr W73 g_b3).wr W76 g_b3).wr W79 g_b3).wr W82 g_b3).wr W85 g_b3).wr W88 g_b3)
  obtain ⟨_, _, ⟨T91, Lw91, kw91, nw91⟩, -, X91, ⟨Lc91, hQ91, lq91, yq91, zq91⟩, st91⟩ := X88.specialBack hx (y := M23) rfl hown (mvT hZ (wd hw 8 rfl)) (mvT hZ (wd hw 9 rfl)) (mvT hZ (wd hw 10 rfl)) (by decide) (StrChars.Road.backV (W := 1) hZ (fun d hd => hw d (own_w_words d hd)) (kI := 4) (wd hw 5 rfl) (cs := ([73, 110, 115, 117, 102, 102, 105, 99, 105, 101, 110, 116, 32, 112, 101, 114, 109, 105, 115, 115, 105, 111, 110, 115, 58, 32, p1, p2, p3] : List Int32)) (bs := (([73, 110, 115, 117, 102, 102, 105, 99, 105, 101, 110, 116, 32, 112, 101, 114, 109, 105, 115, 115, 105, 111, 110, 115, 58, 32, p1, p2, p3] : List Int32).map (fun c => c.toInt8.toInt32))) (n := 29) g_b1 Z88 c92 c93 c94 Vn88 (uS.ext c95.2) uP rfl rfl (by decide) (by decide) own_hp rfl (by decide) (by decide)) (g := (mkF m 688 #[vi (3 : Int32), vi p1, vi p2, vi p3] [(.ref b3), (.ref b1), (.ref b1)])) rfl (by rw [hml]; rfl) (Steps.refl _) (a := b1) (argsL := [(.ref b3)]) (rest := [(.ref b1)]) (lenOf pd_15 rfl) rfl (by show 2 * 0 + _ ≤ _; exact Nat.le_of_eq rfl) (hb hby d5_688) (fun _ _ => ⟨rfl, e88, (by decide : 2 + 1 ≤ _), (by decide : 33 + 29 ≤ _)⟩)
  dsimp only [Pt.U, Pt.locs, Pt.cells, Pt.slots] at X91 lq91 yq91 zq91 st91 hQ91
  have X91 := own_reb X91 lq91 yq91 zq91
  obtain ⟨rfl, Nq91, Kq91, fE91, fC91, t91, kt91, u191, u291, u391, fV91, fK91⟩ := hQ91
  have N91 := Fr.app N88 Nq91
  have ne_b1_t91 : b1 ≠ t91 := Nat.ne_of_lt (Nat.lt_of_lt_of_le c92.lt u291)
  have ne_b3_t91 : b3 ≠ t91 := Nat.ne_of_lt (Nat.lt_of_lt_of_le Vn88.lt u291)
  have sz_t91 : h0.size ≤ t91 := Nat.le_trans K88.1 u291
  have c96 := (Safe.wr W88 (Safe.exa hZ.alike c89 (by decide) (by decide)) hCe87 (Safe.wr W85 (Safe.exa hZ.alike c86 (by decide) (by decide)) hCe84 (Safe.wr W82 (Safe.exa hZ.alike c83 (by decide) (by decide)) hCe81 (Safe.wr W79 (Safe.exa hZ.alike c80 (by decide) (by decide)) hCe78 (Safe.wr W76 (Safe.exa hZ.alike c77 (by decide) (by decide)) hCe75 (Safe.wr W73 (Safe.exa hZ.alike c74 (by decide) (by decide)) hCe72 (Safe.wr W70 (Safe.exa hZ.alike c71 (by decide) (by decide)) hCe69 (Safe.wr W67 (Safe.exa hZ.alike c68 (by decide) (by decide)) hCe66 (Safe.wr W64 (Safe.exa hZ.alike c65 (by decide) (by decide)) hCe63 (Safe.wr W61 (Safe.exa hZ.alike c62 (by decide) (by decide)) hCe60 (Safe.wr W58 (Safe.exa hZ.alike c59 (by decide) (by decide)) hCe57 (Safe.wr W55 (Safe.exa hZ.alike c56 (by decide) (by decide)) hCe54 (Safe.wr W52 (Safe.exa hZ.alike c53 (by decide) (by decide)) hCe51 (Safe.wr W49 (Safe.exa hZ.alike c50 (by decide) (by decide)) hCe48 (Safe.wr W46 (Safe.exa hZ.alike c47 (by decide) (by decide)) hCe45 (Safe.wr W43 (Safe.exa hZ.alike c44 (by decide) (by decide)) hCe42 (Safe.wr W40 (Safe.exa hZ.alike c41 (by decide) (by decide)) hCe39 (Safe.wr W37 (Safe.exa hZ.alike c38 (by decide) (by decide)) hCe36 (Safe.wr W34 (Safe.exa hZ.alike c35 (by decide) (by decide)) hCe33 (Safe.wr W31 (Safe.exa hZ.alike c32 (by decide) (by decide)) hCe30 (Safe.wr W28 (Safe.exa hZ.alike c29 (by decide) (by decide)) hCe27 (Safe.wr W25 (Safe.exa hZ.alike c26 (by decide) (by decide)) hCe24 (Safe.wr W22 (Safe.exa hZ.alike c23 (by decide) (by decide)) hCe21 (Safe.wr W19 (Safe.exa hZ.alike c20 (by decide) (by decide)) hCe18 (Safe.wr W16 (Safe.exa hZ.alike c17 (by decide) (by decide)) hCe15 (Safe.wr W13 (Safe.exa hZ.alike c14 (by decide) (by decide)) hCe12 (Safe.wr W10 (Safe.exa hZ.alike c11 (by decide) (by decide)) hCe9 (Safe.wr W7 (Safe.exa hZ.alike c8 (by decide) (by decide)) hCe6 (Safe.wr W5 (Safe.exa hZ.alike AX3 (by decide) (by decide)) hCe4 (Safe.ext E3 hCe2 sf1))))))))))))))))))))))))))))))
  have Re97 := Re90.trans (CHr.keep Kq91 (allS c96 all0) hCe90)
  have hCe97 := Re97.1
  have sf91 := Safe.keep Kq91 (allS c96 all0) hCe90 (Safe.new u291)
  have K91 : Keep h0 T91.heap [] := K88.trans Kq91 (allS (Or.inr sz_b1) all0)
  have Z91 : n0 ≤ T91.heap.size := Nat.le_trans Z88 Kq91.1
  have hk91 : _ ≤ T91.heap.size := Nat.le_trans hk88 Kq91.1
  obtain ⟨fs, hr, hrun, hended, en1, en2, en3, en4⟩ := X91.leaveW hS0 (own_hk rfl hk91) (v := some (.ref b1)) (fun h => by rw [Bd.returns] at h; cases h)
  refine ⟨_, _, pre0 _ ?_, hrun, hended, _, _, rfl, ?_, own_chr (T := T91) hh rfl (Re97.trans (CHv.at X91 hZ (own_EW hw) hCe97)), en1, en2, en3, en4.mono (by decide) (by decide)⟩
  · show SS p e below s₁ (mkF m 0 #[vi (3 : Int32), vi p1, vi p2, vi p3] []) _
    refine XS.iloadN X0.here hx rfl (hb hby d5_0) rfl ?_
    show SS p e below s₁ (mkF m 1 #[vi (3 : Int32), vi p1, vi p2, vi p3] [(vI 3)]) _
    refine XS.ifYes X0.here hx rfl (pc0 := 1) (pc' := 166) rfl (hb hby d5_1) rfl ((if0 _ _).trans (feq (by decide : ¬ ((3 : Int32) = (0 : Int32)))).2) (by decide) (by decide) ?_
    refine XS.iloadN X0.here hx rfl (hb hby d5_166) rfl ?_
    refine XS.iconst X0.here hx rfl (hb hby d5_167) ?_
    show SS p e below s₁ (mkF m 168 #[vi (3 : Int32), vi p1, vi p2, vi p3] [(vI 1), (vI 3)]) _
    refine XS.icmpYes X0.here hx rfl (pc0 := 168) (pc' := 338) rfl (hb hby d5_168) rfl (feq (by decide : ¬ ((3 : Int32) = (1 : Int32)))).2 (by decide) (by decide) ?_
    refine XS.iloadN X0.here hx rfl (hb hby d5_338) rfl ?_
    refine XS.iconst X0.here hx rfl (hb hby d5_339) ?_
    show SS p e below s₁ (mkF m 340 #[vi (3 : Int32), vi p1, vi p2, vi p3] [(vI 2), (vI 3)]) _
    refine XS.icmpYes X0.here hx rfl (pc0 := 340) (pc' := 515) rfl (hb hby d5_340) rfl (feq (by decide : ¬ ((3 : Int32) = (2 : Int32)))).2 (by decide) (by decide) ?_
    refine st1 _ ?_
    refine XS.dup X1.here hx rfl (hb hby d5_518) rfl rfl ?_
    refine XS.bipush X1.here hx rfl (hb hby d5_519) ?_
    refine st3 _ ?_
    refine XS.dup X3.here hx rfl (hb hby d5_523) rfl rfl ?_
    refine XS.iconst X3.here hx rfl (hb hby d5_524) ?_
    refine XS.bipush X3.here hx rfl (hb hby d5_525) ?_
    refine st5 _ ?_
    refine XS.dup X5.here hx rfl (hb hby d5_528) rfl rfl ?_
    refine XS.iconst X5.here hx rfl (hb hby d5_529) ?_
    refine XS.bipush X5.here hx rfl (hb hby d5_530) ?_
    refine st7 _ ?_
    refine XS.dup X7.here hx rfl (hb hby d5_533) rfl rfl ?_
    refine XS.iconst X7.here hx rfl (hb hby d5_534) ?_
    refine XS.bipush X7.here hx rfl (hb hby d5_535) ?_
    refine st10 _ ?_
    refine XS.dup X10.here hx rfl (hb hby d5_538) rfl rfl ?_
    refine XS.iconst X10.here hx rfl (hb hby d5_539) ?_
    refine XS.bipush X10.here hx rfl (hb hby d5_540) ?_
    refine st13 _ ?_
    refine XS.dup X13.here hx rfl (hb hby d5_543) rfl rfl ?_
    refine XS.iconst X13.here hx rfl (hb hby d5_544) ?_
    refine XS.bipush X13.here hx rfl (hb hby d5_545) ?_
    refine st16 _ ?_
    refine XS.dup X16.here hx rfl (hb hby d5_548) rfl rfl ?_
    refine XS.iconst X16.here hx rfl (hb hby d5_549) ?_
    refine XS.bipush X16.here hx rfl (hb hby d5_550) ?_
    refine st19 _ ?_
    refine XS.dup X19.here hx rfl (hb hby d5_553) rfl rfl ?_
    refine XS.bipush X19.here hx rfl (hb hby d5_554) ?_
    refine XS.bipush X19.here hx rfl (hb hby d5_556) ?_
    refine st22 _ ?_
    refine XS.dup X22.here hx rfl (hb hby d5_559) rfl rfl ?_
    refine XS.bipush X22.here hx rfl (hb hby d5_560) ?_
    refine XS.bipush X22.here hx rfl (hb hby d5_562) ?_
    refine st25 _ ?_
    refine XS.dup X25.here hx rfl (hb hby d5_565) rfl rfl ?_
    refine XS.bipush X25.here hx rfl (hb hby d5_566) ?_
    refine XS.bipush X25.here hx rfl (hb hby d5_568) ?_
    refine st28 _ ?_
    refine XS.dup X28.here hx rfl (hb hby d5_571) rfl rfl ?_
    refine XS.bipush X28.here hx rfl (hb hby d5_572) ?_
    refine XS.bipush X28.here hx rfl (hb hby d5_574) ?_
    refine st31 _ ?_
    refine XS.dup X31.here hx rfl (hb hby d5_577) rfl rfl ?_
    refine XS.bipush X31.here hx rfl (hb hby d5_578) ?_
    refine XS.bipush X31.here hx rfl (hb hby d5_580) ?_
    refine st34 _ ?_
    refine XS.dup X34.here hx rfl (hb hby d5_583) rfl rfl ?_
    refine XS.bipush X34.here hx rfl (hb hby d5_584) ?_
    refine XS.bipush X34.here hx rfl (hb hby d5_586) ?_
    refine st37 _ ?_
    refine XS.dup X37.here hx rfl (hb hby d5_589) rfl rfl ?_
    refine XS.bipush X37.here hx rfl (hb hby d5_590) ?_
    refine XS.bipush X37.here hx rfl (hb hby d5_592) ?_
    refine st40 _ ?_
    refine XS.dup X40.here hx rfl (hb hby d5_595) rfl rfl ?_
    refine XS.bipush X40.here hx rfl (hb hby d5_596) ?_
    refine XS.bipush X40.here hx rfl (hb hby d5_598) ?_
    refine st43 _ ?_
    refine XS.dup X43.here hx rfl (hb hby d5_601) rfl rfl ?_
    refine XS.bipush X43.here hx rfl (hb hby d5_602) ?_
    refine XS.bipush X43.here hx rfl (hb hby d5_604) ?_
    refine st46 _ ?_
    refine XS.dup X46.here hx rfl (hb hby d5_607) rfl rfl ?_
    refine XS.bipush X46.here hx rfl (hb hby d5_608) ?_
    refine XS.bipush X46.here hx rfl (hb hby d5_610) ?_
    refine st49 _ ?_
    refine XS.dup X49.here hx rfl (hb hby d5_613) rfl rfl ?_
    refine XS.bipush X49.here hx rfl (hb hby d5_614) ?_
    refine XS.bipush X49.here hx rfl (hb hby d5_616) ?_
    refine st52 _ ?_
    refine XS.dup X52.here hx rfl (hb hby d5_619) rfl rfl ?_
    refine XS.bipush X52.here hx rfl (hb hby d5_620) ?_
    refine XS.bipush X52.here hx rfl (hb hby d5_622) ?_
    refine st55 _ ?_
    refine XS.dup X55.here hx rfl (hb hby d5_625) rfl rfl ?_
    refine XS.bipush X55.here hx rfl (hb hby d5_626) ?_
    refine XS.bipush X55.here hx rfl (hb hby d5_628) ?_
    refine st58 _ ?_
    refine XS.dup X58.here hx rfl (hb hby d5_631) rfl rfl ?_
    refine XS.bipush X58.here hx rfl (hb hby d5_632) ?_
    refine XS.bipush X58.here hx rfl (hb hby d5_634) ?_
    refine st61 _ ?_
    refine XS.dup X61.here hx rfl (hb hby d5_637) rfl rfl ?_
    refine XS.bipush X61.here hx rfl (hb hby d5_638) ?_
    refine XS.bipush X61.here hx rfl (hb hby d5_640) ?_
    refine st64 _ ?_
    refine XS.dup X64.here hx rfl (hb hby d5_643) rfl rfl ?_
    refine XS.bipush X64.here hx rfl (hb hby d5_644) ?_
    refine XS.bipush X64.here hx rfl (hb hby d5_646) ?_
    refine st67 _ ?_
    refine XS.dup X67.here hx rfl (hb hby d5_649) rfl rfl ?_
    refine XS.bipush X67.here hx rfl (hb hby d5_650) ?_
    refine XS.bipush X67.here hx rfl (hb hby d5_652) ?_
    refine st70 _ ?_
    refine XS.dup X70.here hx rfl (hb hby d5_655) rfl rfl ?_
    refine XS.bipush X70.here hx rfl (hb hby d5_656) ?_
    refine XS.bipush X70.here hx rfl (hb hby d5_658) ?_
    refine st73 _ ?_
    refine XS.dup X73.here hx rfl (hb hby d5_661) rfl rfl ?_
    refine XS.bipush X73.here hx rfl (hb hby d5_662) ?_
    refine XS.bipush X73.here hx rfl (hb hby d5_664) ?_
    refine st76 _ ?_
    refine XS.dup X76.here hx rfl (hb hby d5_667) rfl rfl ?_
    refine XS.bipush X76.here hx rfl (hb hby d5_668) ?_
    refine XS.bipush X76.here hx rfl (hb hby d5_670) ?_
    refine st79 _ ?_
    refine XS.dup X79.here hx rfl (hb hby d5_673) rfl rfl ?_
    refine XS.bipush X79.here hx rfl (hb hby d5_674) ?_
    refine XS.iloadN X79.here hx rfl (hb hby d5_676) rfl ?_
    refine st82 _ ?_
    refine XS.dup X82.here hx rfl (hb hby d5_678) rfl rfl ?_
    refine XS.bipush X82.here hx rfl (hb hby d5_679) ?_
    refine XS.iloadN X82.here hx rfl (hb hby d5_681) rfl ?_
    refine st85 _ ?_
    refine XS.dup X85.here hx rfl (hb hby d5_683) rfl rfl ?_
    refine XS.bipush X85.here hx rfl (hb hby d5_684) ?_
    refine XS.iloadN X85.here hx rfl (hb hby d5_686) rfl ?_
    refine st88 _ ?_
    show SS p e below T88 (mkF m 688 #[vi (3 : Int32), vi p1, vi p2, vi p3] [(.ref b3), (.ref b1), (.ref b1)]) _
    refine st91.trans ?_
    exact retOut X91 hx Bd.returns rfl (Or.inr (Or.inr (Or.inr (Or.inr ⟨rfl, rfl, rfl⟩)))) (hb hby d5_691) hr
  · show Q_rmE3 Z p1 p2 p3 zc h0 n0 _ T91.heap _
    exact ⟨b1, t91, kt91, rfl, N91, K91, sz_b1, fE91, fC91, fV91, fK91⟩
theorem ef_32 (m : MethodId) (x0 : Addr) (x1 : Addr) : entryFrame m #[(.ref x0), (.ref x1)] 2 = mkF m 0 #[vr x0, vr x1] [] := by first | (simp [entryFrame, mkF, argsToLocals, Value.category]; done) | rfl
theorem pn_5 : plainName "java/lang/Throwable" = true := by first | (simp [plainName, overriddenIn]; done) | decide +kernel
theorem d38_0 : decode jdk_78_method_2_code 0 = .ok (.aload_n 0, 1) := by decide +kernel
theorem d38_1 : decode jdk_78_method_2_code 1 = .ok (.invokespecial 1, 3) := by decide +kernel
theorem d38_4 : decode jdk_78_method_2_code 4 = .ok (.aload_n 0, 1) := by decide +kernel
theorem d38_5 : decode jdk_78_method_2_code 5 = .ok (.aload_n 0, 1) := by decide +kernel
theorem d38_6 : decode jdk_78_method_2_code 6 = .ok (.putfield 7, 3) := by decide +kernel
theorem d38_9 : decode jdk_78_method_2_code 9 = .ok (.aload_n 0, 1) := by decide +kernel
theorem d38_10 : decode jdk_78_method_2_code 10 = .ok (.getstatic 13, 3) := by decide +kernel
theorem d38_13 : decode jdk_78_method_2_code 13 = .ok (.putfield 17, 3) := by decide +kernel
theorem d38_16 : decode jdk_78_method_2_code 16 = .ok (.aload_n 0, 1) := by decide +kernel
theorem d38_17 : decode jdk_78_method_2_code 17 = .ok (.getstatic 20, 3) := by decide +kernel
theorem d38_20 : decode jdk_78_method_2_code 20 = .ok (.putfield 24, 3) := by decide +kernel
theorem d38_23 : decode jdk_78_method_2_code 23 = .ok (.aload_n 0, 1) := by decide +kernel
theorem d38_24 : decode jdk_78_method_2_code 24 = .ok (.invokevirtual 27, 3) := by decide +kernel
theorem own_xi0 : ∀ d ∈ own_xw "com/example/plain_hub/plainhub/HubException", d ∈ tables_1 := by decide +kernel
theorem own_xin {Z : State} {a0 : Array Value} (hw : ∀ d ∈ tables_1, d.before a0 Z = true) : ∀ d ∈ own_xw "com/example/plain_hub/plainhub/HubException", d.before a0 Z = true := fun d hd => hw d (own_xi0 d hd)
theorem d38_27 : decode jdk_78_method_2_code 27 = .ok (.pop, 1) := by decide +kernel
theorem d38_28 : decode jdk_78_method_2_code 28 = .ok (.aload_n 0, 1) := by decide +kernel
theorem d38_29 : decode jdk_78_method_2_code 29 = .ok (.aload_n 1, 1) := by decide +kernel
theorem d38_30 : decode jdk_78_method_2_code 30 = .ok (.putfield 31, 3) := by decide +kernel
theorem d38_33 : decode jdk_78_method_2_code 33 = .ok (.return_, 1) := by decide +kernel
def Q_rmThr (Z : State) (r0 : Addr) (r1 : Addr) (zc : Int32) (vu : Value) (vq : Value) (h0 : Heap) (n0 : Nat) (v : Option Value) (h : Heap) (L : List Loc) : Prop := (v = none ∧ Fr n0 L ∧ Keep h0 h [r0] ∧ Fld Z h r0 "java/lang/Throwable" "detailMessage" "Ljava/lang/String;" (.ref r1) ∧ Fld Z h r0 "com/example/plain_hub/plainhub/HubException" "status" "I" z0 ∧ Fld Z h r0 "com/example/plain_hub/plainhub/HubException" "code" "I" z0)
set_option maxRecDepth 65536 in
set_option maxHeartbeats 40000000 in
theorem rmThr (l : Launch) (Z : State) (a0 : Array Value) (hw : ∀ d ∈ tables_1, d.before a0 Z = true) (ws : List Jvm.Cond) (r0 : Addr) (r1 : Addr) (zc : Int32) (vu : Value) (vq : Value) (h0 : Heap) (n0 : Nat) (Z0 : n0 ≤ h0.size) (uO : Old Z n0 h0) (uS : Sta Z Z.heap "java/lang/String" "COMPACT_STRINGS" "Z" (.int zc)) (uP : ¬ zc = 0) (uLt : l.stackTraces = true) (uZu : Sta Z Z.heap "java/lang/Throwable" "UNASSIGNED_STACK" "[Ljava/lang/StackTraceElement;" vu) (uRu : vu.isRef = true) (uZs : Sta Z Z.heap "java/lang/Throwable" "SUPPRESSED_SENTINEL" "Ljava/util/List;" vq) (uRs : vq.isRef = true) (uE : Exa Z h0 r0 "com/example/plain_hub/plainhub/HubException") (uU : Unt h0 r0) (uca : Fld Z h0 r0 "java/lang/Throwable" "cause" "Ljava/lang/Throwable;" .null) (ust : Fld Z h0 r0 "java/lang/Throwable" "stackTrace" "[Ljava/lang/StackTraceElement;" .null) (usu : Fld Z h0 r0 "java/lang/Throwable" "suppressedExceptions" "Ljava/util/List;" .null) (ubt : Fld Z h0 r0 "java/lang/Throwable" "backtrace" "Ljava/lang/Object;" .null) (udm : Fld Z h0 r0 "java/lang/Throwable" "detailMessage" "Ljava/lang/String;" .null) (ux0 : Fld Z h0 r0 "com/example/plain_hub/plainhub/HubException" "status" "I" z0) (ux1 : Fld Z h0 r0 "com/example/plain_hub/plainhub/HubException" "code" "I" z0) (ug : n0 ≤ r0) :
    MetFree l M26 (head1 (Jvm.Cond.code M26 jdk_78_method_2_code 2 none :: ws) ({ frames := 3, cells := 1, slots := 2752, locals := 42 } : Room)) (fun a U => a = #[(.ref r0), (.ref r1)] ∧ Z.Warmed39 U.vm ∧ U.heap = h0 ∧ CHv Z own_EL U.vm h0) (fun _ _ bl s _ => s.vm.MethodsKnown ∧ s.vm.FramesKnown bl) (fun _ U o U' => ∃ v L, o = .returned v ∧ Q_rmThr Z r0 r1 zc vu vq h0 n0 v U'.heap L ∧ CHr Z own_EL U.vm U.heap U'.vm U'.heap ∧ ReturnedEndW U o U' L ({ frames := 3, cells := 1, slots := 2752, locals := 42 } : Room).cells ({ frames := 3, cells := 1, slots := 2752, locals := 42 } : Room).slots) := by
  refine MetFree.of_bodySF (plainFor_of_name pn_5) hisR ?_
  intro p e s m args below meth c s₁ Bd hml0 hP hK
  obtain ⟨rfl, hZ, hh, hC0⟩ := hP
  have hx := Bd.exec
  have hby := Bd.bytes
  have hml : c.maxLocals = 2 := hml0
  have hown : s.vm.findClass "java/lang/Throwable" = some m.cls := findClass_of_methodNamed Bd.named
  have hnm := (name_of_methodNamed Bd.named Bd.method).1
  have X0 : Stand p l e ({ frames := 3, cells := 1, slots := 2752, locals := 42 } : Room) (s.setVm s.vm) m #[(.ref r0), (.ref r1)] below meth c s₁ [] 0 0 := Stand.of_body Bd
  have e0 : s₁.heap = h0 := by rw [← hh, Bd.state]; rfl
  have N0 := Fr.nil n0
  have pre0 : ∀ t, Steps p.tables e below (s₁.setTop (mkF m 0 #[vr r0, vr r1] [])) t → Steps p.tables e below (s₁.setTop (entryFrame m #[(.ref r0), (.ref r1)] 2)) t := fun t k => castTop (ef_32 m r0 r1) k
  have hS0 : s.Since s.vm 0 := (State.WarmedH.refl s).since _
  have hk0 : 0 ≤ h0.size := Nat.zero_le _
  have R0 := CHr.refl hC0
  obtain ⟨T1, X1, e1, st1⟩ := initO X0 hx hZ hown (wd hw 194 rfl) (wd hw 16 rfl) (wd hw 17 rfl) e0 (g := (mkF m 1 #[vr r0, vr r1] [(.ref r0)])) rfl (by rw [hml]; rfl) rfl (hb hby d38_1) (by decide) (W := 0) (by show 2 * 0 + _ ≤ _; exact Nat.le_of_eq rfl) (by decide)
  obtain ⟨T2, h2, X2, e2, W2, st2⟩ := putF X1 hx hZ hown (host := "") (Or.inl (wd hw 195 rfl)) Via.refl e1 uca uE (Or.inl (wd hw 196 rfl)) (wd hw 45 rfl) (ty := (.object "java/lang/Throwable")) (by decide) rfl rfl (g := (mkF m 6 #[vr r0, vr r1] [(.ref r0), (.ref r0)])) rfl rfl (hb hby d38_6)
  have Re3 := R0.trans (CHr.wr W2 (Safe.exa hZ.alike uE (by decide) (by decide)) hC0)
  have hCe3 := Re3.1
  have Fw2 := uca.same W2
  have N2 := Fr.snoc X2 N0 ug
  have K2 : Keep h0 h2 [r0] := (Keep.refl h0 [r0]).wr W2 (Or.inl (List.mem_of_getElem? (i := 0) rfl))
  have Z2 : n0 ≤ h2.size := by rw [W2.size]; exact Z0
  have hk2 := own_szW W2 hk0
  have c5 := (uO.wr W2 ug)
  obtain ⟨T4, X4, e4, st4⟩ := getS2 X2 hx hZ hown (host := "") (Or.inl (wd hw 197 rfl)) Via.refl e2 (uZu.ext c5.2) (g := (mkF m 10 #[vr r0, vr r1] [(.ref r0)])) rfl (hb hby d38_10)
  have c7 := (uE.wr W2)
  have c8 := (ust.other W2 (Or.inr (slot_ne (Or.inl (wd hw 199 rfl)) (Or.inl (wd hw 196 rfl)) (by decide) (t := (.array (.object "java/lang/StackTraceElement"))) (t' := (.object "java/lang/Throwable")) (by decide) (by decide))))
  obtain ⟨T6, h6, X6, e6, W6, st6⟩ := putF X4 hx hZ hown (host := "") (Or.inl (wd hw 198 rfl)) Via.refl e4 c8 c7 (Or.inl (wd hw 199 rfl)) (wd hw 45 rfl) (ty := (.array (.object "java/lang/StackTraceElement"))) (by decide) (own_nA uRu) (own_fA uRu) (g := (mkF m 13 #[vr r0, vr r1] [vu, (.ref r0)])) rfl rfl (hb hby d38_13)
  have Re9 := Re3.trans (CHr.wr W6 (Safe.exa hZ.alike c7 (by decide) (by decide)) hCe3)
  have hCe9 := Re9.1
  have Fw6 := c8.same W6
  have N6 := Fr.snoc X6 N2 ug
  have K6 : Keep h0 h6 [r0] := K2.wr W6 (Or.inl (List.mem_of_getElem? (i := 0) rfl))
  have Z6 : n0 ≤ h6.size := by rw [W6.size]; exact Z2
  have hk6 := own_szW W6 hk2
  have c11 := (c5.wr W6 ug)
  obtain ⟨T10, X10, e10, st10⟩ := getS2 X6 hx hZ hown (host := "") (Or.inl (wd hw 200 rfl)) Via.refl e6 (uZs.ext c11.2) (g := (mkF m 17 #[vr r0, vr r1] [(.ref r0)])) rfl (hb hby d38_17)
  have c13 := (c7.wr W6)
  have c14 := ((usu.other W2 (Or.inr (slot_ne (Or.inl (wd hw 202 rfl)) (Or.inl (wd hw 196 rfl)) (by decide) (t := (.object "java/util/List")) (t' := (.object "java/lang/Throwable")) (by decide) (by decide)))).other W6 (Or.inr (slot_ne (Or.inl (wd hw 202 rfl)) (Or.inl (wd hw 199 rfl)) (by decide) (t := (.object "java/util/List")) (t' := (.array (.object "java/lang/StackTraceElement"))) (by decide) (by decide))))
  obtain ⟨T12, h12, X12, e12, W12, st12⟩ := putF X10 hx hZ hown (host := "") (Or.inl (wd hw 201 rfl)) Via.refl e10 c14 c13 (Or.inl (wd hw 202 rfl)) (wd hw 45 rfl) (ty := (.object "java/util/List")) (by decide) (own_nO uRs) (own_fO uRs) (g := (mkF m 20 #[vr r0, vr r1] [vq, (.ref r0)])) rfl rfl (hb hby d38_20)
  have Re15 := Re9.trans (CHr.wr W12 (Safe.exa hZ.alike c13 (by decide) (by decide)) hCe9)
  have hCe15 := Re15.1
  have Fw12 := c14.same W12
  have N12 := Fr.snoc X12 N6 ug
  have K12 : Keep h0 h12 [r0] := K6.wr W12 (Or.inl (List.mem_of_getElem? (i := 0) rfl))
  have Z12 : n0 ≤ h12.size := by rw [W12.size]; exact Z6
  have hk12 := own_szW W12 hk6
  have c17 := (c13.wr W12)
  have c18 := (((uU.wr W2).wr W6).wr W12)
  have c19 := (Fw6.other W12 (Or.inr (slot_ne (Or.inl (wd hw 199 rfl)) (Or.inl (wd hw 202 rfl)) (by decide) (t := (.array (.object "java/lang/StackTraceElement"))) (t' := (.object "java/util/List")) (by decide) (by decide))))
  have c20 := (c11.wr W12 ug)
  have c21 := (((ubt.other W2 (Or.inr (slot_ne (Or.inl (wd hw 227 rfl)) (Or.inl (wd hw 196 rfl)) (by decide) (t := (.object "java/lang/Object")) (t' := (.object "java/lang/Throwable")) (by decide) (by decide)))).other W6 (Or.inr (slot_ne (Or.inl (wd hw 227 rfl)) (Or.inl (wd hw 199 rfl)) (by decide) (t := (.object "java/lang/Object")) (t' := (.array (.object "java/lang/StackTraceElement"))) (by decide) (by decide)))).other W12 (Or.inr (slot_ne (Or.inl (wd hw 227 rfl)) (Or.inl (wd hw 202 rfl)) (by decide) (t := (.object "java/lang/Object")) (t' := (.object "java/util/List")) (by decide) (by decide))))
  have c22 := (((udm.other W2 (Or.inr (slot_ne (Or.inl (wd hw 226 rfl)) (Or.inl (wd hw 196 rfl)) (by decide) (t := (.object "java/lang/String")) (t' := (.object "java/lang/Throwable")) (by decide) (by decide)))).other W6 (Or.inr (slot_ne (Or.inl (wd hw 226 rfl)) (Or.inl (wd hw 199 rfl)) (by decide) (t := (.object "java/lang/String")) (t' := (.array (.object "java/lang/StackTraceElement"))) (by decide) (by decide)))).other W12 (Or.inr (slot_ne (Or.inl (wd hw 226 rfl)) (Or.inl (wd hw 202 rfl)) (by decide) (t := (.object "java/lang/String")) (t' := (.object "java/util/List")) (by decide) (by decide))))
  obtain ⟨T16, h16, Lf16, X16, e16, hlf16, Kpz16, fM16, st16⟩ := own_fill X12 hx uLt hZ hown (own_xin hw) (wd hw 45 rfl) (by show ThS Z s.heap; rw [hh]; exact ThS.ext uO.2 ThS.start) (Vm.MethodsKnown.alikeC hS0.1.alike hK.1) (Vm.FramesKnown.alikeC hS0.1.alike hK.2) e12 c17 c18 uRu c19 (uZu.ext c20.2) c21 c22 own_l3 (g := (mkF m 24 #[vr r0, vr r1] [(.ref r0)])) rfl (by rw [hml]; rfl) (rest := []) rfl (hb hby d38_24) (by decide) (by show 2 * 0 + 0 + 42 ≤ _; decide) (by decide) (by decide)
  have Kp16 : Kp Z h0 h16 r0 := by rw [← hh]; exact Kpz16
  have Kq16 := keep_of_kp Kp16
  have N16 := own_frsix hlf16 ug
  have fk16_status := Fld.kp Kp16 ux0 (Or.inr (own_six (own_xin hw) (Or.inr (wd hw 232 rfl)) (ty := .int) (by decide) (by decide)))
  have fk16_code := Fld.kp Kp16 ux1 (Or.inr (own_six (own_xin hw) (Or.inr (wd hw 234 rfl)) (ty := .int) (by decide) (by decide)))
  have fU16 := Unt.kp Kp16 uU
  have Re23 := R0.trans (CHr.keep Kq16 (allS (Safe.exa hZ.alike uE (by decide) (by decide)) all0) hC0)
  have hCe23 := Re23.1
  have Z16 : n0 ≤ h16.size := Nat.le_trans Z0 Kq16.1
  have hk16 : _ ≤ h16.size := Nat.le_trans hk0 Kq16.1
  have c25 := (uE.keep Kq16)
  obtain ⟨T24, h24, X24, e24, W24, st24⟩ := putF X16 hx hZ hown (host := "") (Or.inl (wd hw 230 rfl)) Via.refl e16 fM16 c25 (Or.inl (wd hw 226 rfl)) (wd hw 45 rfl) (ty := (.object "java/lang/String")) (by decide) rfl rfl (g := (mkF m 30 #[vr r0, vr r1] [(.ref r1), (.ref r0)])) rfl rfl (hb hby d38_30)
  have Re26 := Re23.trans (CHr.wr W24 (Safe.exa hZ.alike c25 (by decide) (by decide)) hCe23)
  have hCe26 := Re26.1
  have Fw24 := fM16.same W24
  have N24 := Fr.snoc X24 N16 ug
  have K24 : Keep h0 h24 [r0] := Kq16.wr W24 (Or.inl (List.mem_of_getElem? (i := 0) rfl))
  have Z24 : n0 ≤ h24.size := by rw [W24.size]; exact Z16
  have hk24 := own_szW W24 hk16
  have c27 := (fk16_status.other W24 (Or.inr (slot_ne (Or.inr (wd hw 232 rfl)) (Or.inl (wd hw 226 rfl)) (by decide) (t := .int) (t' := (.object "java/lang/String")) (by decide) (by decide))))
  have c28 := (fk16_code.other W24 (Or.inr (slot_ne (Or.inr (wd hw 234 rfl)) (Or.inl (wd hw 226 rfl)) (by decide) (t := .int) (t' := (.object "java/lang/String")) (by decide) (by decide))))
  obtain ⟨fs, hr, hrun, hended, en1, en2, en3, en4⟩ := X24.leaveW hS0 (own_hk e24 hk24) (v := none) (fun _ => rfl)
  refine ⟨_, _, pre0 _ ?_, hrun, hended, _, _, rfl, ?_, own_chr (T := T24) hh e24 (Re26.trans (CHv.at X24 hZ (own_EW hw) hCe26)), en1, en2, en3, en4.mono (by decide) (by decide)⟩
  · show SS p e below s₁ (mkF m 0 #[vr r0, vr r1] []) _
    refine XS.aloadN X0.here hx rfl (hb hby d38_0) rfl rfl ?_
    show SS p e below s₁ (mkF m 1 #[vr r0, vr r1] [(.ref r0)]) _
    refine st1 _ ?_
    refine XS.aloadN X1.here hx rfl (hb hby d38_4) rfl rfl ?_
    refine XS.aloadN X1.here hx rfl (hb hby d38_5) rfl rfl ?_
    refine st2 _ ?_
    refine XS.aloadN X2.here hx rfl (hb hby d38_9) rfl rfl ?_
    show SS p e below T2 (mkF m 10 #[vr r0, vr r1] [(.ref r0)]) _
    refine st4 _ ?_
    refine st6 _ ?_
    refine XS.aloadN X6.here hx rfl (hb hby d38_16) rfl rfl ?_
    show SS p e below T6 (mkF m 17 #[vr r0, vr r1] [(.ref r0)]) _
    refine st10 _ ?_
    refine st12 _ ?_
    refine XS.aloadN X12.here hx rfl (hb hby d38_23) rfl rfl ?_
    show SS p e below T12 (mkF m 24 #[vr r0, vr r1] [(.ref r0)]) _
    refine st16 _ ?_
    refine XS.pop X16.here hx rfl (hb hby d38_27) rfl rfl ?_
    refine XS.aloadN X16.here hx rfl (hb hby d38_28) rfl rfl ?_
    refine XS.aloadN X16.here hx rfl (hb hby d38_29) rfl rfl ?_
    refine st24 _ ?_
    exact X24.returnOut hx Bd.returns (hb hby d38_33) hr
  · show Q_rmThr Z r0 r1 zc vu vq h0 n0 _ T24.heap _
    rw [e24]
    exact ⟨rfl, N24, K24, Fw24, c27, c28⟩
theorem ef_33 (m : MethodId) (x0 : Addr) (x1 : Addr) : entryFrame m #[(.ref x0), (.ref x1)] 2 = mkF m 0 #[vr x0, vr x1] [] := by first | (simp [entryFrame, mkF, argsToLocals, Value.category]; done) | rfl
theorem pn_6 : plainName "java/lang/Exception" = true := by first | (simp [plainName, overriddenIn]; done) | decide +kernel
theorem d37_0 : decode jdk_59_method_2_code 0 = .ok (.aload_n 0, 1) := by decide +kernel
theorem d37_1 : decode jdk_59_method_2_code 1 = .ok (.aload_n 1, 1) := by decide +kernel
theorem d37_2 : decode jdk_59_method_2_code 2 = .ok (.invokespecial 7, 3) := by decide +kernel
theorem d37_5 : decode jdk_59_method_2_code 5 = .ok (.return_, 1) := by decide +kernel
def Q_rmException (Z : State) (r0 : Addr) (r1 : Addr) (zc : Int32) (vu : Value) (vq : Value) (h0 : Heap) (n0 : Nat) (v : Option Value) (h : Heap) (L : List Loc) : Prop := (v = none ∧ Fr n0 L ∧ Keep h0 h [r0] ∧ Fld Z h r0 "java/lang/Throwable" "detailMessage" "Ljava/lang/String;" (.ref r1) ∧ Fld Z h r0 "com/example/plain_hub/plainhub/HubException" "status" "I" z0 ∧ Fld Z h r0 "com/example/plain_hub/plainhub/HubException" "code" "I" z0)
set_option maxRecDepth 65536 in
set_option maxHeartbeats 40000000 in
theorem rmException (l : Launch) (Z : State) (a0 : Array Value) (hw : ∀ d ∈ tables_1, d.before a0 Z = true) (ws : List Jvm.Cond) (r0 : Addr) (r1 : Addr) (zc : Int32) (vu : Value) (vq : Value) (h0 : Heap) (n0 : Nat) (Z0 : n0 ≤ h0.size) (uO : Old Z n0 h0) (uS : Sta Z Z.heap "java/lang/String" "COMPACT_STRINGS" "Z" (.int zc)) (uP : ¬ zc = 0) (uLt : l.stackTraces = true) (uZu : Sta Z Z.heap "java/lang/Throwable" "UNASSIGNED_STACK" "[Ljava/lang/StackTraceElement;" vu) (uRu : vu.isRef = true) (uZs : Sta Z Z.heap "java/lang/Throwable" "SUPPRESSED_SENTINEL" "Ljava/util/List;" vq) (uRs : vq.isRef = true) (uE : Exa Z h0 r0 "com/example/plain_hub/plainhub/HubException") (uU : Unt h0 r0) (uca : Fld Z h0 r0 "java/lang/Throwable" "cause" "Ljava/lang/Throwable;" .null) (ust : Fld Z h0 r0 "java/lang/Throwable" "stackTrace" "[Ljava/lang/StackTraceElement;" .null) (usu : Fld Z h0 r0 "java/lang/Throwable" "suppressedExceptions" "Ljava/util/List;" .null) (ubt : Fld Z h0 r0 "java/lang/Throwable" "backtrace" "Ljava/lang/Object;" .null) (udm : Fld Z h0 r0 "java/lang/Throwable" "detailMessage" "Ljava/lang/String;" .null) (ux0 : Fld Z h0 r0 "com/example/plain_hub/plainhub/HubException" "status" "I" z0) (ux1 : Fld Z h0 r0 "com/example/plain_hub/plainhub/HubException" "code" "I" z0) (ug : n0 ≤ r0) :
    MetFree l M27 (head1 (Jvm.Cond.code M27 jdk_59_method_2_code 2 none :: ws) ({ frames := 4, cells := 1, slots := 2752, locals := 55 } : Room)) (fun a U => a = #[(.ref r0), (.ref r1)] ∧ Z.Warmed39 U.vm ∧ U.heap = h0 ∧ CHv Z own_EL U.vm h0) (fun _ _ bl s _ => s.vm.MethodsKnown ∧ s.vm.FramesKnown bl) (fun _ U o U' => ∃ v L, o = .returned v ∧ Q_rmException Z r0 r1 zc vu vq h0 n0 v U'.heap L ∧ CHr Z own_EL U.vm U.heap U'.vm U'.heap ∧ ReturnedEndW U o U' L ({ frames := 4, cells := 1, slots := 2752, locals := 55 } : Room).cells ({ frames := 4, cells := 1, slots := 2752, locals := 55 } : Room).slots) := by
  refine MetFree.of_bodySF (plainFor_of_name pn_6) hisR ?_
  intro p e s m args below meth c s₁ Bd hml0 hP hK
  obtain ⟨rfl, hZ, hh, hC0⟩ := hP
  have hx := Bd.exec
  have hby := Bd.bytes
  have hml : c.maxLocals = 2 := hml0
  have hown : s.vm.findClass "java/lang/Exception" = some m.cls := findClass_of_methodNamed Bd.named
  have hnm := (name_of_methodNamed Bd.named Bd.method).1
  have X0 : Stand p l e ({ frames := 4, cells := 1, slots := 2752, locals := 55 } : Room) (s.setVm s.vm) m #[(.ref r0), (.ref r1)] below meth c s₁ [] 0 0 := Stand.of_body Bd
  have e0 : s₁.heap = h0 := by rw [← hh, Bd.state]; rfl
  have N0 := Fr.nil n0
  have pre0 : ∀ t, Steps p.tables e below (s₁.setTop (mkF m 0 #[vr r0, vr r1] [])) t → Steps p.tables e below (s₁.setTop (entryFrame m #[(.ref r0), (.ref r1)] 2)) t := fun t k => castTop (ef_33 m r0 r1) k
  have hS0 : s.Since s.vm 0 := (State.WarmedH.refl s).since _
  have hk0 : 0 ≤ h0.size := Nat.zero_le _
  have R0 := CHr.refl hC0
  obtain ⟨_, _, ⟨T1, Lw1, kw1, nw1⟩, -, X1', hS1', hg1, ⟨Lc1, hQ1, lq1, yq1, zq1, CH1⟩, st1⟩ := X0.specialBackS hx (y := M26) rfl hown (mvT hZ (wd hw 188 rfl)) (mvT hZ (wd hw 189 rfl)) (mvT hZ (wd hw 193 rfl)) (by decide) (backOfSKH (W := 0) (rmThr l Z a0 hw [] r0 r1 zc vu vq h0 n0 Z0 uO uS uP uLt uZu uRu uZs uRs uE uU uca ust usu ubt udm ux0 ux1 ug) hZ (wd hw 193 rfl) (wd hw 192 rfl) (by decide) (by decide) (own_EW hw) hC0 (Vm.MethodsKnown.alikeC hS0.1.alike hK.1) (Vm.FramesKnown.alikeC hS0.1.alike hK.2)) (g := (mkF m 2 #[vr r0, vr r1] [(.ref r1), (.ref r0)])) rfl (by rw [hml]; rfl) (Steps.refl _) (a := r0) (argsL := [(.ref r1)]) (rest := []) (lenOf pd_3 rfl) rfl (by show 2 * 0 + _ ≤ _; exact Nat.le_of_eq rfl) (hb hby d37_2) (fun _ _ => ⟨rfl, e0, (by decide : 0 + 1 ≤ _), (by decide : 0 + 2752 ≤ _)⟩)
  dsimp only [Pt.U, Pt.locs, Pt.cells, Pt.slots] at X1' hS1' hg1 lq1 yq1 zq1 st1 hQ1 CH1
  have X1' := own_reb X1' lq1 yq1 zq1
  obtain ⟨X1, hS1, hZ1, hown1⟩ := rebS hS0 (own_hk e0 hk0) X1' hS1' hg1 hZ hown
  obtain ⟨rfl, Nq1, Kq1, f1_0, f1_1, f1_2⟩ := hQ1
  have N1 := Fr.app N0 Nq1
  have Re2 := R0.trans CH1
  have hCe2 := Re2.1
  have K1 : Keep h0 T1.heap [r0] := (Keep.refl h0 [r0]).trans Kq1 (allS (Or.inl (List.mem_of_getElem? (i := 0) rfl)) all0)
  have Z1 : n0 ≤ T1.heap.size := Nat.le_trans Z0 Kq1.1
  have hk1 : T1.heap.size ≤ T1.heap.size := Nat.le_refl _
  obtain ⟨fs, hr, hrun, hended, en1, en2, en3, en4⟩ := X1.leaveW hS1 (own_hk rfl hk1) (v := none) (fun _ => rfl)
  refine ⟨_, _, pre0 _ ?_, hrun, hended, _, _, rfl, ?_, own_chr (T := T1) hh rfl (Re2.trans (CHv.at X1 hZ1 (own_EW hw) hCe2)), en1, en2, en3, en4.mono (by decide) (by decide)⟩
  · show SS p e below s₁ (mkF m 0 #[vr r0, vr r1] []) _
    refine XS.aloadN X0.here hx rfl (hb hby d37_0) rfl rfl ?_
    refine XS.aloadN X0.here hx rfl (hb hby d37_1) rfl rfl ?_
    show SS p e below s₁ (mkF m 2 #[vr r0, vr r1] [(.ref r1), (.ref r0)]) _
    refine st1.trans ?_
    exact X1.returnOut hx Bd.returns (hb hby d37_5) hr
  · show Q_rmException Z r0 r1 zc vu vq h0 n0 _ T1.heap _
    exact ⟨rfl, N1, K1, f1_0, f1_1, f1_2⟩
theorem ef_34 (m : MethodId) (x0 : Addr) (x1 : Addr) : entryFrame m #[(.ref x0), (.ref x1)] 2 = mkF m 0 #[vr x0, vr x1] [] := by first | (simp [entryFrame, mkF, argsToLocals, Value.category]; done) | rfl
theorem pn_7 : plainName "java/lang/RuntimeException" = true := by first | (simp [plainName, overriddenIn]; done) | decide +kernel
theorem d36_0 : decode jdk_58_method_2_code 0 = .ok (.aload_n 0, 1) := by decide +kernel
theorem d36_1 : decode jdk_58_method_2_code 1 = .ok (.aload_n 1, 1) := by decide +kernel
theorem d36_2 : decode jdk_58_method_2_code 2 = .ok (.invokespecial 7, 3) := by decide +kernel
theorem d36_5 : decode jdk_58_method_2_code 5 = .ok (.return_, 1) := by decide +kernel
def Q_rmRuntimeException (Z : State) (r0 : Addr) (r1 : Addr) (zc : Int32) (vu : Value) (vq : Value) (h0 : Heap) (n0 : Nat) (v : Option Value) (h : Heap) (L : List Loc) : Prop := (v = none ∧ Fr n0 L ∧ Keep h0 h [r0] ∧ Fld Z h r0 "java/lang/Throwable" "detailMessage" "Ljava/lang/String;" (.ref r1) ∧ Fld Z h r0 "com/example/plain_hub/plainhub/HubException" "status" "I" z0 ∧ Fld Z h r0 "com/example/plain_hub/plainhub/HubException" "code" "I" z0)
set_option maxRecDepth 65536 in
set_option maxHeartbeats 40000000 in
theorem rmRuntimeException (l : Launch) (Z : State) (a0 : Array Value) (hw : ∀ d ∈ tables_1, d.before a0 Z = true) (ws : List Jvm.Cond) (r0 : Addr) (r1 : Addr) (zc : Int32) (vu : Value) (vq : Value) (h0 : Heap) (n0 : Nat) (Z0 : n0 ≤ h0.size) (uO : Old Z n0 h0) (uS : Sta Z Z.heap "java/lang/String" "COMPACT_STRINGS" "Z" (.int zc)) (uP : ¬ zc = 0) (uLt : l.stackTraces = true) (uZu : Sta Z Z.heap "java/lang/Throwable" "UNASSIGNED_STACK" "[Ljava/lang/StackTraceElement;" vu) (uRu : vu.isRef = true) (uZs : Sta Z Z.heap "java/lang/Throwable" "SUPPRESSED_SENTINEL" "Ljava/util/List;" vq) (uRs : vq.isRef = true) (uE : Exa Z h0 r0 "com/example/plain_hub/plainhub/HubException") (uU : Unt h0 r0) (uca : Fld Z h0 r0 "java/lang/Throwable" "cause" "Ljava/lang/Throwable;" .null) (ust : Fld Z h0 r0 "java/lang/Throwable" "stackTrace" "[Ljava/lang/StackTraceElement;" .null) (usu : Fld Z h0 r0 "java/lang/Throwable" "suppressedExceptions" "Ljava/util/List;" .null) (ubt : Fld Z h0 r0 "java/lang/Throwable" "backtrace" "Ljava/lang/Object;" .null) (udm : Fld Z h0 r0 "java/lang/Throwable" "detailMessage" "Ljava/lang/String;" .null) (ux0 : Fld Z h0 r0 "com/example/plain_hub/plainhub/HubException" "status" "I" z0) (ux1 : Fld Z h0 r0 "com/example/plain_hub/plainhub/HubException" "code" "I" z0) (ug : n0 ≤ r0) :
    MetFree l M28 (head1 (Jvm.Cond.code M28 jdk_58_method_2_code 2 none :: ws) ({ frames := 5, cells := 1, slots := 2752, locals := 68 } : Room)) (fun a U => a = #[(.ref r0), (.ref r1)] ∧ Z.Warmed39 U.vm ∧ U.heap = h0 ∧ CHv Z own_EL U.vm h0) (fun _ _ bl s _ => s.vm.MethodsKnown ∧ s.vm.FramesKnown bl) (fun _ U o U' => ∃ v L, o = .returned v ∧ Q_rmRuntimeException Z r0 r1 zc vu vq h0 n0 v U'.heap L ∧ CHr Z own_EL U.vm U.heap U'.vm U'.heap ∧ ReturnedEndW U o U' L ({ frames := 5, cells := 1, slots := 2752, locals := 68 } : Room).cells ({ frames := 5, cells := 1, slots := 2752, locals := 68 } : Room).slots) := by
  refine MetFree.of_bodySF (plainFor_of_name pn_7) hisR ?_
  intro p e s m args below meth c s₁ Bd hml0 hP hK
  obtain ⟨rfl, hZ, hh, hC0⟩ := hP
  have hx := Bd.exec
  have hby := Bd.bytes
  have hml : c.maxLocals = 2 := hml0
  have hown : s.vm.findClass "java/lang/RuntimeException" = some m.cls := findClass_of_methodNamed Bd.named
  have hnm := (name_of_methodNamed Bd.named Bd.method).1
  have X0 : Stand p l e ({ frames := 5, cells := 1, slots := 2752, locals := 68 } : Room) (s.setVm s.vm) m #[(.ref r0), (.ref r1)] below meth c s₁ [] 0 0 := Stand.of_body Bd
  have e0 : s₁.heap = h0 := by rw [← hh, Bd.state]; rfl
  have N0 := Fr.nil n0
  have pre0 : ∀ t, Steps p.tables e below (s₁.setTop (mkF m 0 #[vr r0, vr r1] [])) t → Steps p.tables e below (s₁.setTop (entryFrame m #[(.ref r0), (.ref r1)] 2)) t := fun t k => castTop (ef_34 m r0 r1) k
  have hS0 : s.Since s.vm 0 := (State.WarmedH.refl s).since _
  have hk0 : 0 ≤ h0.size := Nat.zero_le _
  have R0 := CHr.refl hC0
  obtain ⟨_, _, ⟨T1, Lw1, kw1, nw1⟩, -, X1', hS1', hg1, ⟨Lc1, hQ1, lq1, yq1, zq1, CH1⟩, st1⟩ := X0.specialBackS hx (y := M27) rfl hown (mvT hZ (wd hw 182 rfl)) (mvT hZ (wd hw 183 rfl)) (mvT hZ (wd hw 187 rfl)) (by decide) (backOfSKH (W := 0) (rmException l Z a0 hw [] r0 r1 zc vu vq h0 n0 Z0 uO uS uP uLt uZu uRu uZs uRs uE uU uca ust usu ubt udm ux0 ux1 ug) hZ (wd hw 187 rfl) (wd hw 186 rfl) (by decide) (by decide) (own_EW hw) hC0 (Vm.MethodsKnown.alikeC hS0.1.alike hK.1) (Vm.FramesKnown.alikeC hS0.1.alike hK.2)) (g := (mkF m 2 #[vr r0, vr r1] [(.ref r1), (.ref r0)])) rfl (by rw [hml]; rfl) (Steps.refl _) (a := r0) (argsL := [(.ref r1)]) (rest := []) (lenOf pd_3 rfl) rfl (by show 2 * 0 + _ ≤ _; exact Nat.le_of_eq rfl) (hb hby d36_2) (fun _ _ => ⟨rfl, e0, (by decide : 0 + 1 ≤ _), (by decide : 0 + 2752 ≤ _)⟩)
  dsimp only [Pt.U, Pt.locs, Pt.cells, Pt.slots] at X1' hS1' hg1 lq1 yq1 zq1 st1 hQ1 CH1
  have X1' := own_reb X1' lq1 yq1 zq1
  obtain ⟨X1, hS1, hZ1, hown1⟩ := rebS hS0 (own_hk e0 hk0) X1' hS1' hg1 hZ hown
  obtain ⟨rfl, Nq1, Kq1, f1_0, f1_1, f1_2⟩ := hQ1
  have N1 := Fr.app N0 Nq1
  have Re2 := R0.trans CH1
  have hCe2 := Re2.1
  have K1 : Keep h0 T1.heap [r0] := (Keep.refl h0 [r0]).trans Kq1 (allS (Or.inl (List.mem_of_getElem? (i := 0) rfl)) all0)
  have Z1 : n0 ≤ T1.heap.size := Nat.le_trans Z0 Kq1.1
  have hk1 : T1.heap.size ≤ T1.heap.size := Nat.le_refl _
  obtain ⟨fs, hr, hrun, hended, en1, en2, en3, en4⟩ := X1.leaveW hS1 (own_hk rfl hk1) (v := none) (fun _ => rfl)
  refine ⟨_, _, pre0 _ ?_, hrun, hended, _, _, rfl, ?_, own_chr (T := T1) hh rfl (Re2.trans (CHv.at X1 hZ1 (own_EW hw) hCe2)), en1, en2, en3, en4.mono (by decide) (by decide)⟩
  · show SS p e below s₁ (mkF m 0 #[vr r0, vr r1] []) _
    refine XS.aloadN X0.here hx rfl (hb hby d36_0) rfl rfl ?_
    refine XS.aloadN X0.here hx rfl (hb hby d36_1) rfl rfl ?_
    show SS p e below s₁ (mkF m 2 #[vr r0, vr r1] [(.ref r1), (.ref r0)]) _
    refine st1.trans ?_
    exact X1.returnOut hx Bd.returns (hb hby d36_5) hr
  · show Q_rmRuntimeException Z r0 r1 zc vu vq h0 n0 _ T1.heap _
    exact ⟨rfl, N1, K1, f1_0, f1_1, f1_2⟩
theorem ef_35 (m : MethodId) (x0 : Addr) (x1 : Int32) (x2 : Int32) (x3 : Addr) : entryFrame m #[(.ref x0), (.int x1), (.int x2), (.ref x3)] 4 = mkF m 0 #[vr x0, vi x1, vi x2, vr x3] [] := by first | (simp [entryFrame, mkF, argsToLocals, Value.category]; done) | rfl
theorem pn_8 : plainName "com/example/plain_hub/plainhub/HubException" = true := by first | (simp [plainName, overriddenIn]; done) | decide +kernel
theorem d35_0 : decode prog_2_method_1_code 0 = .ok (.aload_n 0, 1) := by decide +kernel
theorem d35_1 : decode prog_2_method_1_code 1 = .ok (.aload_n 3, 1) := by decide +kernel
theorem d35_2 : decode prog_2_method_1_code 2 = .ok (.invokespecial 1, 3) := by decide +kernel
theorem d35_5 : decode prog_2_method_1_code 5 = .ok (.aload_n 0, 1) := by decide +kernel
theorem d35_6 : decode prog_2_method_1_code 6 = .ok (.iload_n 1, 1) := by decide +kernel
theorem d35_7 : decode prog_2_method_1_code 7 = .ok (.putfield 7, 3) := by decide +kernel
theorem d35_10 : decode prog_2_method_1_code 10 = .ok (.aload_n 0, 1) := by decide +kernel
theorem d35_11 : decode prog_2_method_1_code 11 = .ok (.iload_n 2, 1) := by decide +kernel
theorem d35_12 : decode prog_2_method_1_code 12 = .ok (.putfield 13, 3) := by decide +kernel
theorem d35_15 : decode prog_2_method_1_code 15 = .ok (.return_, 1) := by decide +kernel
def Q_rmX (Z : State) (r0 : Addr) (p1 : Int32) (p2 : Int32) (r3 : Addr) (zc : Int32) (vu : Value) (vq : Value) (h0 : Heap) (n0 : Nat) (v : Option Value) (h : Heap) (L : List Loc) : Prop := (v = none ∧ Fr n0 L ∧ Keep h0 h [r0] ∧ Fld Z h r0 "com/example/plain_hub/plainhub/HubException" "status" "I" (.int p1) ∧ Fld Z h r0 "com/example/plain_hub/plainhub/HubException" "code" "I" (.int p2) ∧ Fld Z h r0 "java/lang/Throwable" "detailMessage" "Ljava/lang/String;" (.ref r3))
set_option maxRecDepth 65536 in
set_option maxHeartbeats 40000000 in
theorem rmX (l : Launch) (Z : State) (a0 : Array Value) (hw : ∀ d ∈ tables_1, d.before a0 Z = true) (ws : List Jvm.Cond) (r0 : Addr) (p1 : Int32) (p2 : Int32) (r3 : Addr) (zc : Int32) (vu : Value) (vq : Value) (h0 : Heap) (n0 : Nat) (Z0 : n0 ≤ h0.size) (uO : Old Z n0 h0) (uS : Sta Z Z.heap "java/lang/String" "COMPACT_STRINGS" "Z" (.int zc)) (uP : ¬ zc = 0) (uLt : l.stackTraces = true) (uZu : Sta Z Z.heap "java/lang/Throwable" "UNASSIGNED_STACK" "[Ljava/lang/StackTraceElement;" vu) (uRu : vu.isRef = true) (uZs : Sta Z Z.heap "java/lang/Throwable" "SUPPRESSED_SENTINEL" "Ljava/util/List;" vq) (uRs : vq.isRef = true) (uE : Exa Z h0 r0 "com/example/plain_hub/plainhub/HubException") (uU : Unt h0 r0) (uca : Fld Z h0 r0 "java/lang/Throwable" "cause" "Ljava/lang/Throwable;" .null) (ust : Fld Z h0 r0 "java/lang/Throwable" "stackTrace" "[Ljava/lang/StackTraceElement;" .null) (usu : Fld Z h0 r0 "java/lang/Throwable" "suppressedExceptions" "Ljava/util/List;" .null) (ubt : Fld Z h0 r0 "java/lang/Throwable" "backtrace" "Ljava/lang/Object;" .null) (udm : Fld Z h0 r0 "java/lang/Throwable" "detailMessage" "Ljava/lang/String;" .null) (ux0 : Fld Z h0 r0 "com/example/plain_hub/plainhub/HubException" "status" "I" z0) (ux1 : Fld Z h0 r0 "com/example/plain_hub/plainhub/HubException" "code" "I" z0) (ug : n0 ≤ r0) :
    MetFree l M29 (head1 (Jvm.Cond.code M29 prog_2_method_1_code 4 none :: ws) ({ frames := 6, cells := 1, slots := 2752, locals := 81 } : Room)) (fun a U => a = #[(.ref r0), (.int p1), (.int p2), (.ref r3)] ∧ Z.Warmed39 U.vm ∧ U.heap = h0 ∧ CHv Z own_EL U.vm h0) (fun _ _ bl s _ => s.vm.MethodsKnown ∧ s.vm.FramesKnown bl) (fun _ U o U' => ∃ v L, o = .returned v ∧ Q_rmX Z r0 p1 p2 r3 zc vu vq h0 n0 v U'.heap L ∧ CHr Z own_EL U.vm U.heap U'.vm U'.heap ∧ ReturnedEndW U o U' L ({ frames := 6, cells := 1, slots := 2752, locals := 81 } : Room).cells ({ frames := 6, cells := 1, slots := 2752, locals := 81 } : Room).slots) := by
  refine MetFree.of_bodySF (plainFor_of_name pn_8) hisR ?_
  intro p e s m args below meth c s₁ Bd hml0 hP hK
  obtain ⟨rfl, hZ, hh, hC0⟩ := hP
  have hx := Bd.exec
  have hby := Bd.bytes
  have hml : c.maxLocals = 4 := hml0
  have hown : s.vm.findClass "com/example/plain_hub/plainhub/HubException" = some m.cls := findClass_of_methodNamed Bd.named
  have hnm := (name_of_methodNamed Bd.named Bd.method).1
  have X0 : Stand p l e ({ frames := 6, cells := 1, slots := 2752, locals := 81 } : Room) (s.setVm s.vm) m #[(.ref r0), (.int p1), (.int p2), (.ref r3)] below meth c s₁ [] 0 0 := Stand.of_body Bd
  have e0 : s₁.heap = h0 := by rw [← hh, Bd.state]; rfl
  have N0 := Fr.nil n0
  have pre0 : ∀ t, Steps p.tables e below (s₁.setTop (mkF m 0 #[vr r0, vi p1, vi p2, vr r3] [])) t → Steps p.tables e below (s₁.setTop (entryFrame m #[(.ref r0), (.int p1), (.int p2), (.ref r3)] 4)) t := fun t k => castTop (ef_35 m r0 p1 p2 r3) k
  have hS0 : s.Since s.vm 0 := (State.WarmedH.refl s).since _
  have hk0 : 0 ≤ h0.size := Nat.zero_le _
  have R0 := CHr.refl hC0
  obtain ⟨_, _, ⟨T1, Lw1, kw1, nw1⟩, -, X1', hS1', hg1, ⟨Lc1, hQ1, lq1, yq1, zq1, CH1⟩, st1⟩ := X0.specialBackS hx (y := M28) rfl hown (mvT hZ (wd hw 177 rfl)) (mvT hZ (wd hw 178 rfl)) (mvT hZ (wd hw 181 rfl)) (by decide) (backOfSKH (W := 0) (rmRuntimeException l Z a0 hw [] r0 r3 zc vu vq h0 n0 Z0 uO uS uP uLt uZu uRu uZs uRs uE uU uca ust usu ubt udm ux0 ux1 ug) hZ (wd hw 181 rfl) (wd hw 180 rfl) (by decide) (by decide) (own_EW hw) hC0 (Vm.MethodsKnown.alikeC hS0.1.alike hK.1) (Vm.FramesKnown.alikeC hS0.1.alike hK.2)) (g := (mkF m 2 #[vr r0, vi p1, vi p2, vr r3] [(.ref r3), (.ref r0)])) rfl (by rw [hml]; rfl) (Steps.refl _) (a := r0) (argsL := [(.ref r3)]) (rest := []) (lenOf pd_3 rfl) rfl (by show 2 * 0 + _ ≤ _; exact Nat.le_of_eq rfl) (hb hby d35_2) (fun _ _ => ⟨rfl, e0, (by decide : 0 + 1 ≤ _), (by decide : 0 + 2752 ≤ _)⟩)
  dsimp only [Pt.U, Pt.locs, Pt.cells, Pt.slots] at X1' hS1' hg1 lq1 yq1 zq1 st1 hQ1 CH1
  have X1' := own_reb X1' lq1 yq1 zq1
  obtain ⟨X1, hS1, hZ1, hown1⟩ := rebS hS0 (own_hk e0 hk0) X1' hS1' hg1 hZ hown
  obtain ⟨rfl, Nq1, Kq1, f1_0, f1_1, f1_2⟩ := hQ1
  have N1 := Fr.app N0 Nq1
  have Re2 := R0.trans CH1
  have hCe2 := Re2.1
  have K1 : Keep h0 T1.heap [r0] := (Keep.refl h0 [r0]).trans Kq1 (allS (Or.inl (List.mem_of_getElem? (i := 0) rfl)) all0)
  have Z1 : n0 ≤ T1.heap.size := Nat.le_trans Z0 Kq1.1
  have hk1 : T1.heap.size ≤ T1.heap.size := Nat.le_refl _
  have c4 := (uE.keep Kq1)
  obtain ⟨T3, h3, X3, e3, W3, st3⟩ := putF X1 hx hZ1 hown1 (host := "") (Or.inl (wd hw 231 rfl)) Via.refl rfl f1_1 c4 (Or.inr ⟨(wd hw 232 rfl), rfl, hnm⟩) (wd hw 45 rfl) (ty := .int) (by decide) rfl rfl (g := (mkF m 7 #[vr r0, vi p1, vi p2, vr r3] [(.int p1), (.ref r0)])) rfl rfl (hb hby d35_7)
  have Re5 := Re2.trans (CHr.wr W3 (Safe.exa hZ1.alike c4 (by decide) (by decide)) hCe2)
  have hCe5 := Re5.1
  have Fw3 := f1_1.same W3
  have N3 := Fr.snoc X3 N1 ug
  have K3 : Keep h0 h3 [r0] := K1.wr W3 (Or.inl (List.mem_of_getElem? (i := 0) rfl))
  have Z3 : n0 ≤ h3.size := by rw [W3.size]; exact Z1
  have hk3 := own_szW W3 hk1
  have c7 := (c4.wr W3)
  have c8 := (f1_2.other W3 (Or.inr (slot_ne (Or.inr (wd hw 234 rfl)) (Or.inr (wd hw 232 rfl)) (by decide) (t := .int) (t' := .int) (by decide) (by decide))))
  obtain ⟨T6, h6, X6, e6, W6, st6⟩ := putF X3 hx hZ1 hown1 (host := "") (Or.inl (wd hw 233 rfl)) Via.refl e3 c8 c7 (Or.inr ⟨(wd hw 234 rfl), rfl, hnm⟩) (wd hw 45 rfl) (ty := .int) (by decide) rfl rfl (g := (mkF m 12 #[vr r0, vi p1, vi p2, vr r3] [(.int p2), (.ref r0)])) rfl rfl (hb hby d35_12)
  have Re9 := Re5.trans (CHr.wr W6 (Safe.exa hZ1.alike c7 (by decide) (by decide)) hCe5)
  have hCe9 := Re9.1
  have Fw6 := c8.same W6
  have N6 := Fr.snoc X6 N3 ug
  have K6 : Keep h0 h6 [r0] := K3.wr W6 (Or.inl (List.mem_of_getElem? (i := 0) rfl))
  have Z6 : n0 ≤ h6.size := by rw [W6.size]; exact Z3
  have hk6 := own_szW W6 hk3
  have c10 := (Fw3.other W6 (Or.inr (slot_ne (Or.inr (wd hw 232 rfl)) (Or.inr (wd hw 234 rfl)) (by decide) (t := .int) (t' := .int) (by decide) (by decide))))
  have c11 := ((f1_0.other W3 (Or.inr (slot_ne (Or.inl (wd hw 226 rfl)) (Or.inr (wd hw 232 rfl)) (by decide) (t := (.object "java/lang/String")) (t' := .int) (by decide) (by decide)))).other W6 (Or.inr (slot_ne (Or.inl (wd hw 226 rfl)) (Or.inr (wd hw 234 rfl)) (by decide) (t := (.object "java/lang/String")) (t' := .int) (by decide) (by decide))))
  obtain ⟨fs, hr, hrun, hended, en1, en2, en3, en4⟩ := X6.leaveW hS1 (own_hk e6 hk6) (v := none) (fun _ => rfl)
  refine ⟨_, _, pre0 _ ?_, hrun, hended, _, _, rfl, ?_, own_chr (T := T6) hh e6 (Re9.trans (CHv.at X6 hZ1 (own_EW hw) hCe9)), en1, en2, en3, en4.mono (by decide) (by decide)⟩
  · show SS p e below s₁ (mkF m 0 #[vr r0, vi p1, vi p2, vr r3] []) _
    refine XS.aloadN X0.here hx rfl (hb hby d35_0) rfl rfl ?_
    refine XS.aloadN X0.here hx rfl (hb hby d35_1) rfl rfl ?_
    show SS p e below s₁ (mkF m 2 #[vr r0, vi p1, vi p2, vr r3] [(.ref r3), (.ref r0)]) _
    refine st1.trans ?_
    refine XS.aloadN X1.here hx rfl (hb hby d35_5) rfl rfl ?_
    refine XS.iloadN X1.here hx rfl (hb hby d35_6) rfl ?_
    refine st3 _ ?_
    refine XS.aloadN X3.here hx rfl (hb hby d35_10) rfl rfl ?_
    refine XS.iloadN X3.here hx rfl (hb hby d35_11) rfl ?_
    refine st6 _ ?_
    exact X6.returnOut hx Bd.returns (hb hby d35_15) hr
  · show Q_rmX Z r0 p1 p2 r3 zc vu vq h0 n0 _ T6.heap _
    rw [e6]
    exact ⟨rfl, N6, K6, c10, Fw6, c11⟩
theorem ef_36 (m : MethodId) (x0 : Addr) : entryFrame m #[(.ref x0)] 1 = mkF m 0 #[vr x0] [] := by first | (simp [entryFrame, mkF, argsToLocals, Value.category]; done) | rfl
theorem d41_0 : decode jdk_78_method_6_code 0 = .ok (.aload_n 0, 1) := by decide +kernel
theorem d41_1 : decode jdk_78_method_6_code 1 = .ok (.getfield 31, 3) := by decide +kernel
theorem d41_4 : decode jdk_78_method_6_code 4 = .ok (.areturn, 1) := by decide +kernel
def Q_rmGM (Z : State) (r0 : Addr) (rm : Addr) (h0 : Heap) (n0 : Nat) (v : Option Value) (h : Heap) (L : List Loc) : Prop := (v = some (.ref rm) ∧ Fr n0 L ∧ h = h0)
set_option maxRecDepth 65536 in
set_option maxHeartbeats 40000000 in
theorem rmGM (l : Launch) (Z : State) (a0 : Array Value) (hw : ∀ d ∈ tables_1, d.before a0 Z = true) (ws : List Jvm.Cond) (r0 : Addr) (rm : Addr) (h0 : Heap) (n0 : Nat) (Z0 : n0 ≤ h0.size) (udm : Fld Z h0 r0 "java/lang/Throwable" "detailMessage" "Ljava/lang/String;" (.ref rm)) :
    MetFree l M30 (head1 (Jvm.Cond.code M30 jdk_78_method_6_code 1 (some (.object "java/lang/String")) :: ws) ({ frames := 0, cells := 0, slots := 0, locals := 0 } : Room)) (fun a U => a = #[(.ref r0)] ∧ Z.Warmed39 U.vm ∧ U.heap = h0) (fun _ _ _ _ _ => True) (fun _ U o U' => ∃ v L, o = .returned v ∧ Q_rmGM Z r0 rm h0 n0 v U'.heap L ∧ FrameEnd U o U' L ({ frames := 0, cells := 0, slots := 0, locals := 0 } : Room).cells ({ frames := 0, cells := 0, slots := 0, locals := 0 } : Room).slots) := by
  refine MetFree.of_bodySF (plainFor_of_name pn_5) hisR ?_
  intro p e s m args below meth c s₁ Bd hml0 hP hK
  obtain ⟨rfl, hZ, hh⟩ := hP
  have hx := Bd.exec
  have hby := Bd.bytes
  have hml : c.maxLocals = 1 := hml0
  have hown : s.vm.findClass "java/lang/Throwable" = some m.cls := findClass_of_methodNamed Bd.named
  have hnm := (name_of_methodNamed Bd.named Bd.method).1
  have X0 : Stand p l e ({ frames := 0, cells := 0, slots := 0, locals := 0 } : Room) s m #[(.ref r0)] below meth c s₁ [] 0 0 := Stand.of_body Bd
  have e0 : s₁.heap = h0 := by rw [← hh, Bd.state]; rfl
  have N0 := Fr.nil n0
  have pre0 : ∀ t, Steps p.tables e below (s₁.setTop (mkF m 0 #[vr r0] [])) t → Steps p.tables e below (s₁.setTop (entryFrame m #[(.ref r0)] 1)) t := fun t k => castTop (ef_36 m r0) k
  obtain ⟨T1, X1, e1, st1⟩ := getF X0 hx hZ hown (host := "") (Or.inl (wd hw 230 rfl)) Via.refl e0 udm (g := (mkF m 1 #[vr r0] [(.ref r0)])) rfl rfl (hb hby d41_1)
  obtain ⟨fs, hr, hrun, hended, hW, hsame⟩ := X1.leave (v := some (.ref rm)) (fun h => by rw [Bd.returns] at h; cases h)
  refine ⟨_, _, pre0 _ ?_, hrun, hended, _, _, rfl, ?_, ⟨_, rfl⟩, hW, hsame.mono (by decide) (by decide)⟩
  · show SS p e below s₁ (mkF m 0 #[vr r0] []) _
    refine XS.aloadN X0.here hx rfl (hb hby d41_0) rfl rfl ?_
    refine st1 _ ?_
    exact retOut X1 hx Bd.returns rfl (Or.inr (Or.inr (Or.inr (Or.inr ⟨rfl, rfl, rfl⟩)))) (hb hby d41_4) hr
  · show Q_rmGM Z r0 rm h0 n0 _ T1.heap _
    rw [e1]
    exact ⟨rfl, N0, rfl⟩
theorem ef_37 (m : MethodId) (x0 : Addr) : entryFrame m #[(.ref x0)] 1 = mkF m 0 #[vr x0] [] := by first | (simp [entryFrame, mkF, argsToLocals, Value.category]; done) | rfl
theorem d42_0 : decode prog_2_method_8_code 0 = .ok (.aload_n 0, 1) := by decide +kernel
theorem d42_1 : decode prog_2_method_8_code 1 = .ok (.getfield 7, 3) := by decide +kernel
theorem d42_4 : decode prog_2_method_8_code 4 = .ok (.ireturn, 1) := by decide +kernel
def Q_rmSt (Z : State) (r0 : Addr) (st : Int32) (h0 : Heap) (n0 : Nat) (v : Option Value) (h : Heap) (L : List Loc) : Prop := (v = some (.int st) ∧ Fr n0 L ∧ h = h0)
set_option maxRecDepth 65536 in
set_option maxHeartbeats 40000000 in
theorem rmSt (l : Launch) (Z : State) (a0 : Array Value) (hw : ∀ d ∈ tables_1, d.before a0 Z = true) (ws : List Jvm.Cond) (r0 : Addr) (st : Int32) (h0 : Heap) (n0 : Nat) (Z0 : n0 ≤ h0.size) (uE : Exa Z h0 r0 "com/example/plain_hub/plainhub/HubException") (uof : Fld Z h0 r0 "com/example/plain_hub/plainhub/HubException" "status" "I" (.int st)) :
    MetFree l M31 (head1 (Jvm.Cond.code M31 prog_2_method_8_code 1 (some .int) :: ws) ({ frames := 0, cells := 0, slots := 0, locals := 0 } : Room)) (fun a U => a = #[(.ref r0)] ∧ Z.Warmed39 U.vm ∧ U.heap = h0) (fun _ _ _ _ _ => True) (fun _ U o U' => ∃ v L, o = .returned v ∧ Q_rmSt Z r0 st h0 n0 v U'.heap L ∧ FrameEnd U o U' L ({ frames := 0, cells := 0, slots := 0, locals := 0 } : Room).cells ({ frames := 0, cells := 0, slots := 0, locals := 0 } : Room).slots) := by
  refine MetFree.of_bodySF (plainFor_of_name pn_8) hisR ?_
  intro p e s m args below meth c s₁ Bd hml0 hP hK
  obtain ⟨rfl, hZ, hh⟩ := hP
  have hx := Bd.exec
  have hby := Bd.bytes
  have hml : c.maxLocals = 1 := hml0
  have hown : s.vm.findClass "com/example/plain_hub/plainhub/HubException" = some m.cls := findClass_of_methodNamed Bd.named
  have hnm := (name_of_methodNamed Bd.named Bd.method).1
  have X0 : Stand p l e ({ frames := 0, cells := 0, slots := 0, locals := 0 } : Room) s m #[(.ref r0)] below meth c s₁ [] 0 0 := Stand.of_body Bd
  have e0 : s₁.heap = h0 := by rw [← hh, Bd.state]; rfl
  have N0 := Fr.nil n0
  have pre0 : ∀ t, Steps p.tables e below (s₁.setTop (mkF m 0 #[vr r0] [])) t → Steps p.tables e below (s₁.setTop (entryFrame m #[(.ref r0)] 1)) t := fun t k => castTop (ef_37 m r0) k
  obtain ⟨T1, X1, e1, st1⟩ := getF X0 hx hZ hown (host := "") (Or.inl (wd hw 231 rfl)) Via.refl e0 uof (g := (mkF m 1 #[vr r0] [(.ref r0)])) rfl rfl (hb hby d42_1)
  obtain ⟨fs, hr, hrun, hended, hW, hsame⟩ := X1.leave (v := some (.int st)) (fun h => by rw [Bd.returns] at h; cases h)
  refine ⟨_, _, pre0 _ ?_, hrun, hended, _, _, rfl, ?_, ⟨_, rfl⟩, hW, hsame.mono (by decide) (by decide)⟩
  · show SS p e below s₁ (mkF m 0 #[vr r0] []) _
    refine XS.aloadN X0.here hx rfl (hb hby d42_0) rfl rfl ?_
    refine st1 _ ?_
    exact retI X1 hx Bd.returns (hb hby d42_4) hr
  · show Q_rmSt Z r0 st h0 n0 _ T1.heap _
    rw [e1]
    exact ⟨rfl, N0, rfl⟩
theorem ef_38 (m : MethodId) (x0 : Addr) : entryFrame m #[(.ref x0)] 1 = mkF m 0 #[vr x0] [] := by first | (simp [entryFrame, mkF, argsToLocals, Value.category]; done) | rfl
theorem d43_0 : decode prog_2_method_9_code 0 = .ok (.aload_n 0, 1) := by decide +kernel
theorem d43_1 : decode prog_2_method_9_code 1 = .ok (.getfield 13, 3) := by decide +kernel
theorem d43_4 : decode prog_2_method_9_code 4 = .ok (.ireturn, 1) := by decide +kernel
def Q_rmCo (Z : State) (r0 : Addr) (st : Int32) (h0 : Heap) (n0 : Nat) (v : Option Value) (h : Heap) (L : List Loc) : Prop := (v = some (.int st) ∧ Fr n0 L ∧ h = h0)
set_option maxRecDepth 65536 in
set_option maxHeartbeats 40000000 in
theorem rmCo (l : Launch) (Z : State) (a0 : Array Value) (hw : ∀ d ∈ tables_1, d.before a0 Z = true) (ws : List Jvm.Cond) (r0 : Addr) (st : Int32) (h0 : Heap) (n0 : Nat) (Z0 : n0 ≤ h0.size) (uE : Exa Z h0 r0 "com/example/plain_hub/plainhub/HubException") (uof : Fld Z h0 r0 "com/example/plain_hub/plainhub/HubException" "code" "I" (.int st)) :
    MetFree l M32 (head1 (Jvm.Cond.code M32 prog_2_method_9_code 1 (some .int) :: ws) ({ frames := 0, cells := 0, slots := 0, locals := 0 } : Room)) (fun a U => a = #[(.ref r0)] ∧ Z.Warmed39 U.vm ∧ U.heap = h0) (fun _ _ _ _ _ => True) (fun _ U o U' => ∃ v L, o = .returned v ∧ Q_rmCo Z r0 st h0 n0 v U'.heap L ∧ FrameEnd U o U' L ({ frames := 0, cells := 0, slots := 0, locals := 0 } : Room).cells ({ frames := 0, cells := 0, slots := 0, locals := 0 } : Room).slots) := by
  refine MetFree.of_bodySF (plainFor_of_name pn_8) hisR ?_
  intro p e s m args below meth c s₁ Bd hml0 hP hK
  obtain ⟨rfl, hZ, hh⟩ := hP
  have hx := Bd.exec
  have hby := Bd.bytes
  have hml : c.maxLocals = 1 := hml0
  have hown : s.vm.findClass "com/example/plain_hub/plainhub/HubException" = some m.cls := findClass_of_methodNamed Bd.named
  have hnm := (name_of_methodNamed Bd.named Bd.method).1
  have X0 : Stand p l e ({ frames := 0, cells := 0, slots := 0, locals := 0 } : Room) s m #[(.ref r0)] below meth c s₁ [] 0 0 := Stand.of_body Bd
  have e0 : s₁.heap = h0 := by rw [← hh, Bd.state]; rfl
  have N0 := Fr.nil n0
  have pre0 : ∀ t, Steps p.tables e below (s₁.setTop (mkF m 0 #[vr r0] [])) t → Steps p.tables e below (s₁.setTop (entryFrame m #[(.ref r0)] 1)) t := fun t k => castTop (ef_38 m r0) k
  obtain ⟨T1, X1, e1, st1⟩ := getF X0 hx hZ hown (host := "") (Or.inl (wd hw 233 rfl)) Via.refl e0 uof (g := (mkF m 1 #[vr r0] [(.ref r0)])) rfl rfl (hb hby d43_1)
  obtain ⟨fs, hr, hrun, hended, hW, hsame⟩ := X1.leave (v := some (.int st)) (fun h => by rw [Bd.returns] at h; cases h)
  refine ⟨_, _, pre0 _ ?_, hrun, hended, _, _, rfl, ?_, ⟨_, rfl⟩, hW, hsame.mono (by decide) (by decide)⟩
  · show SS p e below s₁ (mkF m 0 #[vr r0] []) _
    refine XS.aloadN X0.here hx rfl (hb hby d43_0) rfl rfl ?_
    refine st1 _ ?_
    exact retI X1 hx Bd.returns (hb hby d43_4) hr
  · show Q_rmCo Z r0 st h0 n0 _ T1.heap _
    rw [e1]
    exact ⟨rfl, N0, rfl⟩
theorem ef_39 (m : MethodId) (x0 : Addr) (x1 : Addr) : entryFrame m #[(.ref x0), (.ref x1), z0, z0] 4 = mkF m 0 #[vr x0, vr x1, vi (0 : Int32), vi (0 : Int32)] [] := by first | (simp [entryFrame, mkF, argsToLocals, Value.category]; done) | rfl
def Q_rm_gb_0_26_34 (Z : State) (r0 : Addr) (r1 : Addr) (zc : Int32) (rt : Addr) (kt : ClassId) (vt : List Value) (kd : ClassId) (vd : List Value) (h0 : Heap) (n0 : Nat) (v : Option Value) (h : Heap) (L : List Loc) : Prop := ∃ (nv : List Value), (v = none ∧ Fr n0 L ∧ Keep h0 h [r1] ∧ Arv Z h r1 kd .byte (34 : Int32) nv z0 ∧ nv.length = 34 ∧ nv = own_put 0 26 vd vt)
set_option maxRecDepth 65536 in
set_option maxHeartbeats 40000000 in
theorem rm_gb_0_26_34 (l : Launch) (Z : State) (a0 : Array Value) (hw : ∀ d ∈ tables_1, d.before a0 Z = true) (ws : List Jvm.Cond) (r0 : Addr) (r1 : Addr) (zc : Int32) (rt : Addr) (kt : ClassId) (vt : List Value) (kd : ClassId) (vd : List Value) (h0 : Heap) (n0 : Nat) (Z0 : n0 ≤ h0.size) (uO : Old Z n0 h0) (uS : Sta Z Z.heap "java/lang/String" "COMPACT_STRINGS" "Z" (.int zc)) (uP : ¬ zc = 0) (us : Exa Z h0 r0 "java/lang/String") (usv : Fld Z h0 r0 "java/lang/String" "value" "[B" (.ref rt)) (usc : Fld Z h0 r0 "java/lang/String" "coder" "B" z0) (usV : Arv Z h0 rt kt .byte (26 : Int32) vt z0) (uVd : Arv Z h0 r1 kd .byte (34 : Int32) vd z0) (uL : vd.length = 34) (ug : n0 ≤ r1) :
    MetFree l M13 (head1 (Jvm.Cond.code M13 jdk_42_method_147_code 4 none :: ws) ({ frames := 1, cells := 0, slots := 0, locals := 18 } : Room)) (fun a U => a = #[(.ref r0), (.ref r1), z0, z0] ∧ Z.Warmed39 U.vm ∧ U.heap = h0) (fun _ _ _ _ _ => True) (fun _ U o U' => ∃ v L, o = .returned v ∧ Q_rm_gb_0_26_34 Z r0 r1 zc rt kt vt kd vd h0 n0 v U'.heap L ∧ FrameEnd U o U' L ({ frames := 1, cells := 0, slots := 0, locals := 18 } : Room).cells ({ frames := 1, cells := 0, slots := 0, locals := 18 } : Room).slots) := by
  refine MetFree.of_bodySF (plainFor_of_name pn_0) hisR ?_
  intro p e s m args below meth c s₁ Bd hml0 hP hK
  obtain ⟨rfl, hZ, hh⟩ := hP
  have hx := Bd.exec
  have hby := Bd.bytes
  have hml : c.maxLocals = 4 := hml0
  have hown : s.vm.findClass "java/lang/String" = some m.cls := findClass_of_methodNamed Bd.named
  have hnm := (name_of_methodNamed Bd.named Bd.method).1
  have X0 : Stand p l e ({ frames := 1, cells := 0, slots := 0, locals := 18 } : Room) s m #[(.ref r0), (.ref r1), z0, z0] below meth c s₁ [] 0 0 := Stand.of_body Bd
  have e0 : s₁.heap = h0 := by rw [← hh, Bd.state]; rfl
  have N0 := Fr.nil n0
  have pre0 : ∀ t, Steps p.tables e below (s₁.setTop (mkF m 0 #[vr r0, vr r1, vi (0 : Int32), vi (0 : Int32)] [])) t → Steps p.tables e below (s₁.setTop (entryFrame m #[(.ref r0), (.ref r1), z0, z0] 4)) t := fun t k => castTop (ef_39 m r0 r1) k
  obtain ⟨cq1, kq1, q1a, q1b, q1c⟩ := isOf hZ e0 us
  obtain ⟨_, _, ⟨T1, Lw1, kw1, nw1⟩, -, X1, ⟨Lc1, hQ1, lq1, yq1, zq1⟩, st1⟩ := X0.virtualBack hx (y := M2) (z := M2) hown (mvT hZ (wd hw 80 rfl)) (mvT hZ (wd hw 81 rfl)) (notFace_of_selects (args := #[]) (mvT hZ (wd hw 83 rfl))) (mvT hZ (wd hw 83 rfl)) (mvT hZ (wd hw 82 rfl)) (by decide) (backOf (W := 0) (rmCoder l Z a0 hw [] r0 zc h0 n0 Z0 uO uS uP usc) hZ (wd hw 84 rfl) (wd hw 6 rfl) (by decide) (by decide)) q1a q1c (g := (mkF m 1 #[vr r0, vr r1, vi (0 : Int32), vi (0 : Int32)] [(.ref r0)])) rfl (by rw [hml]; rfl) (Steps.refl _) (argsL := []) (rest := []) (lenOf pd_0 rfl) rfl (by show 2 * 0 + _ ≤ _; exact Nat.le_of_eq rfl) (hb hby d24_1) (fun _ _ => ⟨rfl, e0, (by decide : 0 + 0 ≤ _), (by decide : 0 + 0 ≤ _)⟩)
  dsimp only [Pt.U, Pt.locs, Pt.cells, Pt.slots] at X1 lq1 yq1 zq1 st1 hQ1
  have X1 := own_reb X1 lq1 yq1 zq1
  obtain ⟨rfl, Nq1, eh1⟩ := hQ1
  have N1 := Fr.app N0 Nq1
  obtain ⟨T2, X2, e2, st2⟩ := getF X1 hx hZ hown (host := "") (Or.inl (wd hw 24 rfl)) Via.refl eh1 usv (g := (mkF m 9 #[vr r0, vr r1, vi (0 : Int32), vi (0 : Int32)] [(.ref r0)])) rfl rfl (hb hby d24_9)
  obtain ⟨T3, X3, e3, st3⟩ := getF X2 hx hZ hown (host := "") (Or.inl (wd hw 24 rfl)) Via.refl e2 usv (g := (mkF m 18 #[vr r0, vr r1, vi (0 : Int32), vi (0 : Int32)] [(.ref r0), z0, (.ref r1), z0, (.ref rt)])) rfl rfl (hb hby d24_18)
  obtain ⟨cl4, Ar4, q4, S4, Nn4, H4, G4⟩ := (id usV)
  obtain ⟨T5, h5, L5, X5, e5, N5, Kq5, V5, st5⟩ := cpA X3 hx hZ hown (wd hw 134 rfl) (wd hw 117 rfl) (wd hw 115 rfl) (wd hw 116 rfl) e3 (us := ((List.range ((26 : Int32)).toNatClampNeg).map fun i => List.getD vt (((0 : Int32)).toNatClampNeg + i) z0)) usV uVd (Or.inl ⟨rfl, rfl⟩) (by decide) (by decide) (by decide) (by decide) (by decide) rfl (by rw [uL]; decide) N1 ug (g := (mkF m 22 #[vr r0, vr r1, vi (0 : Int32), vi (0 : Int32)] [(vI 26), z0, (.ref r1), z0, (.ref rt)])) rfl (by rw [hml]; rfl) rfl (hb hby d24_22) (by decide) (W := 0) (by show 2 * 0 + _ ≤ _; exact Nat.le_of_eq rfl) (by decide)
  have K5 : Keep h0 h5 [r1] := (Keep.refl h0 [r1]).trans Kq5 (allS (Or.inl (List.mem_of_getElem? (i := 0) rfl)) all0)
  have Z5 : n0 ≤ h5.size := Nat.le_trans Z0 Kq5.1
  obtain ⟨fs, hr, hrun, hended, hW, hsame⟩ := X5.leave (v := none) (fun _ => rfl)
  refine ⟨_, _, pre0 _ ?_, hrun, hended, _, _, rfl, ?_, ⟨_, rfl⟩, hW, hsame.mono (by decide) (by decide)⟩
  · show SS p e below s₁ (mkF m 0 #[vr r0, vr r1, vi (0 : Int32), vi (0 : Int32)] []) _
    refine XS.aloadN X0.here hx rfl (hb hby d24_0) rfl rfl ?_
    show SS p e below s₁ (mkF m 1 #[vr r0, vr r1, vi (0 : Int32), vi (0 : Int32)] [(.ref r0)]) _
    refine st1.trans ?_
    refine XS.iloadN X1.here hx rfl (hb hby d24_4) rfl ?_
    show SS p e below T1 (mkF m 5 #[vr r0, vr r1, vi (0 : Int32), vi (0 : Int32)] [z0, z0]) _
    refine XS.icmpNo X1.here hx rfl (hb hby d24_5) rfl (teq (by decide : (0 : Int32) = (0 : Int32))).2 ?_
    refine XS.aloadN X1.here hx rfl (hb hby d24_8) rfl rfl ?_
    refine st2 _ ?_
    refine XS.iconst X2.here hx rfl (hb hby d24_12) ?_
    refine XS.aloadN X2.here hx rfl (hb hby d24_13) rfl rfl ?_
    refine XS.iloadN X2.here hx rfl (hb hby d24_14) rfl ?_
    refine XS.iloadN X2.here hx rfl (hb hby d24_15) rfl ?_
    show SS p e below T2 (mkF m 16 #[vr r0, vr r1, vi (0 : Int32), vi (0 : Int32)] [z0, z0, (.ref r1), z0, (.ref rt)]) _
    refine XS.ishl X2.here hx rfl (hb hby d24_16) rfl ?_
    show SS p e below T2 (mkF m 17 #[vr r0, vr r1, vi (0 : Int32), vi (0 : Int32)] [(.int ((0 : Int32) <<< ((0 : Int32) &&& 31))), (.ref r1), z0, (.ref rt)]) _
    rw [(show ((0 : Int32) <<< ((0 : Int32) &&& 31)) = (0 : Int32) from by decide)]
    refine XS.aloadN X2.here hx rfl (hb hby d24_17) rfl rfl ?_
    refine st3 _ ?_
    show SS p e below T3 (mkF m 21 #[vr r0, vr r1, vi (0 : Int32), vi (0 : Int32)] [(.ref rt), z0, (.ref r1), z0, (.ref rt)]) _
    refine X3.arraylength hx (own_at e3 Ar4.1) (State.isArrayOf_alike hZ.alike Ar4.2.1) (g := (mkF m 21 #[vr r0, vr r1, vi (0 : Int32), vi (0 : Int32)] [(.ref rt), z0, (.ref r1), z0, (.ref rt)])) rfl rfl (hb hby d24_21) _ ?_
    rw [len_of S4 Nn4]
    show SS p e below T3 (mkF m 22 #[vr r0, vr r1, vi (0 : Int32), vi (0 : Int32)] [(vI 26), z0, (.ref r1), z0, (.ref rt)]) _
    refine st5 _ ?_
    refine XS.goto X5.here hx rfl (pc0 := 25) (pc' := 43) rfl (hb hby d24_25) (by decide) (by decide) ?_
    exact X5.returnOut hx Bd.returns (hb hby d24_43) hr
  · show Q_rm_gb_0_26_34 Z r0 r1 zc rt kt vt kd vd h0 n0 _ T5.heap _
    rw [e5]
    exact ⟨(List.take ((0 : Int32)).toNatClampNeg vd ++ ((List.range ((26 : Int32)).toNatClampNeg).map fun i => List.getD vt (((0 : Int32)).toNatClampNeg + i) z0) ++ List.drop (((0 : Int32)).toNatClampNeg + ((26 : Int32)).toNatClampNeg) vd), rfl, N5, K5, V5, (own_len3 uL (by simp only [List.length_map, List.length_range]) (by decide)), rfl⟩
theorem ef_40 (m : MethodId) (x0 : Addr) (x2 : Addr) : entryFrame m #[(.ref x0), z0, (.ref x2)] 3 = mkF m 0 #[vr x0, vi (0 : Int32), vr x2] [] := by first | (simp [entryFrame, mkF, argsToLocals, Value.category]; done) | rfl
def Q_rm_ps_0_26_34 (Z : State) (r0 : Addr) (r2 : Addr) (zc : Int32) (rv : Addr) (kv : ClassId) (vv : List Value) (rt : Addr) (kt : ClassId) (vt : List Value) (h0 : Heap) (n0 : Nat) (v : Option Value) (h : Heap) (L : List Loc) : Prop := ∃ (nv : List Value), (v = none ∧ Fr n0 L ∧ Keep h0 h [rv] ∧ Arv Z h rv kv .byte (34 : Int32) nv z0 ∧ nv.length = 34 ∧ nv = own_put 0 26 vv vt)
set_option maxRecDepth 65536 in
set_option maxHeartbeats 40000000 in
theorem rm_ps_0_26_34 (l : Launch) (Z : State) (a0 : Array Value) (hw : ∀ d ∈ tables_1, d.before a0 Z = true) (ws : List Jvm.Cond) (r0 : Addr) (r2 : Addr) (zc : Int32) (rv : Addr) (kv : ClassId) (vv : List Value) (rt : Addr) (kt : ClassId) (vt : List Value) (h0 : Heap) (n0 : Nat) (Z0 : n0 ≤ h0.size) (uO : Old Z n0 h0) (uS : Sta Z Z.heap "java/lang/String" "COMPACT_STRINGS" "Z" (.int zc)) (uP : ¬ zc = 0) (uE : Exa Z h0 r0 "java/lang/StringBuilder") (uv : Fld Z h0 r0 "java/lang/AbstractStringBuilder" "value" "[B" (.ref rv)) (uc : Fld Z h0 r0 "java/lang/AbstractStringBuilder" "coder" "B" z0) (uV : Arv Z h0 rv kv .byte (34 : Int32) vv z0) (uL : vv.length = 34) (us : Exa Z h0 r2 "java/lang/String") (usv : Fld Z h0 r2 "java/lang/String" "value" "[B" (.ref rt)) (usc : Fld Z h0 r2 "java/lang/String" "coder" "B" z0) (usV : Arv Z h0 rt kt .byte (26 : Int32) vt z0) (ug : n0 ≤ rv) :
    MetFree l M14 (head1 (Jvm.Cond.code M14 jdk_68_method_73_code 3 none :: ws) ({ frames := 2, cells := 0, slots := 0, locals := 33 } : Room)) (fun a U => a = #[(.ref r0), z0, (.ref r2)] ∧ Z.Warmed39 U.vm ∧ U.heap = h0) (fun _ _ _ _ _ => True) (fun _ U o U' => ∃ v L, o = .returned v ∧ Q_rm_ps_0_26_34 Z r0 r2 zc rv kv vv rt kt vt h0 n0 v U'.heap L ∧ FrameEnd U o U' L ({ frames := 2, cells := 0, slots := 0, locals := 33 } : Room).cells ({ frames := 2, cells := 0, slots := 0, locals := 33 } : Room).slots) := by
  refine MetFree.of_bodySF (plainFor_of_name pn_1) hisR ?_
  intro p e s m args below meth c s₁ Bd hml0 hP hK
  obtain ⟨rfl, hZ, hh⟩ := hP
  have hx := Bd.exec
  have hby := Bd.bytes
  have hml : c.maxLocals = 3 := hml0
  have hown : s.vm.findClass "java/lang/AbstractStringBuilder" = some m.cls := findClass_of_methodNamed Bd.named
  have hnm := (name_of_methodNamed Bd.named Bd.method).1
  have X0 : Stand p l e ({ frames := 2, cells := 0, slots := 0, locals := 33 } : Room) s m #[(.ref r0), z0, (.ref r2)] below meth c s₁ [] 0 0 := Stand.of_body Bd
  have e0 : s₁.heap = h0 := by rw [← hh, Bd.state]; rfl
  have N0 := Fr.nil n0
  have pre0 : ∀ t, Steps p.tables e below (s₁.setTop (mkF m 0 #[vr r0, vi (0 : Int32), vr r2] [])) t → Steps p.tables e below (s₁.setTop (entryFrame m #[(.ref r0), z0, (.ref r2)] 3)) t := fun t k => castTop (ef_40 m r0 r2) k
  obtain ⟨cq1, kq1, q1a, q1b, q1c⟩ := isOf hZ e0 uE
  obtain ⟨_, _, ⟨T1, Lw1, kw1, nw1⟩, -, X1, ⟨Lc1, hQ1, lq1, yq1, zq1⟩, st1⟩ := X0.virtualBack hx (y := M5) (z := M5) hown (mvT hZ (wd hw 123 rfl)) (mvT hZ (own_decl (wd hw 124 rfl) (wd hw 127 rfl))) (notFace_of_selects (args := #[]) (mvT hZ (wd hw 126 rfl))) (mvT hZ (wd hw 126 rfl)) (mvT hZ (wd hw 124 rfl)) (by decide) (backOf (W := 0) (rmInf l Z a0 hw [] r0 r2 zc h0 n0 Z0 uO uS uP uc us usc) hZ (wd hw 127 rfl) (wd hw 56 rfl) (by decide) (by decide)) q1a q1c (g := (mkF m 2 #[vr r0, vi (0 : Int32), vr r2] [(.ref r2), (.ref r0)])) rfl (by rw [hml]; rfl) (Steps.refl _) (argsL := [(.ref r2)]) (rest := []) (lenOf pd_3 rfl) rfl (by show 2 * 0 + _ ≤ _; exact Nat.le_of_eq rfl) (hb hby d22_2) (fun _ _ => ⟨rfl, e0, (by decide : 0 + 0 ≤ _), (by decide : 0 + 0 ≤ _)⟩)
  dsimp only [Pt.U, Pt.locs, Pt.cells, Pt.slots] at X1 lq1 yq1 zq1 st1 hQ1
  have X1 := own_reb X1 lq1 yq1 zq1
  obtain ⟨rfl, Nq1, eh1⟩ := hQ1
  have N1 := Fr.app N0 Nq1
  obtain ⟨T2, X2, e2, st2⟩ := getF X1 hx hZ hown (host := "") (Or.inl (wd hw 60 rfl)) Via.refl eh1 uv (g := (mkF m 7 #[vr r0, vi (0 : Int32), vr r2] [(.ref r0), (.ref r2)])) rfl rfl (hb hby d22_7)
  obtain ⟨T3, X3, e3, st3⟩ := getF X2 hx hZ hown (host := "") (Or.inl (wd hw 62 rfl)) Via.refl e2 uc (g := (mkF m 12 #[vr r0, vi (0 : Int32), vr r2] [(.ref r0), z0, (.ref rv), (.ref r2)])) rfl rfl (hb hby d22_12)
  obtain ⟨cq4, kq4, q4a, q4b, q4c⟩ := isOf hZ e3 us
  obtain ⟨_, _, ⟨T4, Lw4, kw4, nw4⟩, -, X4, ⟨Lc4, hQ4, lq4, yq4, zq4⟩, st4⟩ := X3.virtualBack hx (y := M13) (z := M13) hown (mvT hZ (wd hw 129 rfl)) (mvT hZ (wd hw 130 rfl)) (notFace_of_selects (args := #[]) (mvT hZ (wd hw 132 rfl))) (mvT hZ (wd hw 132 rfl)) (mvT hZ (wd hw 131 rfl)) (by decide) (backOf (W := 0) (rm_gb_0_26_34 l Z a0 hw [] r2 rv zc rt kt vt kv vv h0 n0 Z0 uO uS uP us usv usc usV uV uL ug) hZ (wd hw 133 rfl) (wd hw 6 rfl) (by decide) (by decide)) q4a q4c (g := (mkF m 15 #[vr r0, vi (0 : Int32), vr r2] [z0, z0, (.ref rv), (.ref r2)])) rfl (by rw [hml]; rfl) (Steps.refl _) (argsL := [(.ref rv), z0, z0]) (rest := []) (lenOf pd_4 rfl) rfl (by show 2 * 0 + _ ≤ _; exact Nat.le_of_eq rfl) (hb hby d22_15) (fun _ _ => ⟨rfl, e3, (by decide : 0 + 0 ≤ _), (by decide : 0 + 0 ≤ _)⟩)
  dsimp only [Pt.U, Pt.locs, Pt.cells, Pt.slots] at X4 lq4 yq4 zq4 st4 hQ4
  have X4 := own_reb X4 lq4 yq4 zq4
  obtain ⟨nv_4, rfl, Nq4, Kq4, f4_0, f4_1, f4_2⟩ := hQ4
  have N4 := Fr.app N1 Nq4
  have K4 : Keep h0 T4.heap [rv] := (Keep.refl h0 [rv]).trans Kq4 (allS (Or.inl (List.mem_of_getElem? (i := 0) rfl)) all0)
  have Z4 : n0 ≤ T4.heap.size := Nat.le_trans Z0 Kq4.1
  obtain ⟨fs, hr, hrun, hended, hW, hsame⟩ := X4.leave (v := none) (fun _ => rfl)
  refine ⟨_, _, pre0 _ ?_, hrun, hended, _, _, rfl, ?_, ⟨_, rfl⟩, hW, hsame.mono (by decide) (by decide)⟩
  · show SS p e below s₁ (mkF m 0 #[vr r0, vi (0 : Int32), vr r2] []) _
    refine XS.aloadN X0.here hx rfl (hb hby d22_0) rfl rfl ?_
    refine XS.aloadN X0.here hx rfl (hb hby d22_1) rfl rfl ?_
    show SS p e below s₁ (mkF m 2 #[vr r0, vi (0 : Int32), vr r2] [(.ref r2), (.ref r0)]) _
    refine st1.trans ?_
    refine XS.aloadN X1.here hx rfl (hb hby d22_5) rfl rfl ?_
    refine XS.aloadN X1.here hx rfl (hb hby d22_6) rfl rfl ?_
    refine st2 _ ?_
    refine XS.iloadN X2.here hx rfl (hb hby d22_10) rfl ?_
    refine XS.aloadN X2.here hx rfl (hb hby d22_11) rfl rfl ?_
    refine st3 _ ?_
    show SS p e below T3 (mkF m 15 #[vr r0, vi (0 : Int32), vr r2] [z0, z0, (.ref rv), (.ref r2)]) _
    refine st4.trans ?_
    exact X4.returnOut hx Bd.returns (hb hby d22_18) hr
  · show Q_rm_ps_0_26_34 Z r0 r2 zc rv kv vv rt kt vt h0 n0 _ T4.heap _
    exact ⟨nv_4, rfl, N4, K4, f4_0, f4_1, f4_2⟩
theorem ef_41 (m : MethodId)  : entryFrame m #[(vI 16), (vI 10), (vI 18)] 4 = mkF m 0 #[vi (16 : Int32), vi (10 : Int32), vi (18 : Int32), uu] [] := by first | (simp [entryFrame, mkF, argsToLocals, Value.category]; done) | rfl
theorem pn_9 : plainName "jdk/internal/util/ArraysSupport" = true := by first | (simp [plainName, overriddenIn]; done) | decide +kernel
theorem d18_0 : decode jdk_48_method_27_code 0 = .ok (.iload_n 0, 1) := by decide +kernel
theorem d18_1 : decode jdk_48_method_27_code 1 = .ok (.iload_n 1, 1) := by decide +kernel
theorem d18_2 : decode jdk_48_method_27_code 2 = .ok (.iload_n 2, 1) := by decide +kernel
theorem d18_3 : decode jdk_48_method_27_code 3 = .ok (.invokestatic 194, 3) := by decide +kernel
theorem d18_6 : decode jdk_48_method_27_code 6 = .ok (.iadd, 1) := by decide +kernel
theorem d18_7 : decode jdk_48_method_27_code 7 = .ok (.istore_n 3, 1) := by decide +kernel
theorem d18_8 : decode jdk_48_method_27_code 8 = .ok (.iconst 0, 1) := by decide +kernel
theorem d18_9 : decode jdk_48_method_27_code 9 = .ok (.iload_n 3, 1) := by decide +kernel
theorem d18_10 : decode jdk_48_method_27_code 10 = .ok (.if_icmp .ge 11, 3) := by decide +kernel
theorem d18_13 : decode jdk_48_method_27_code 13 = .ok (.iload_n 3, 1) := by decide +kernel
theorem d18_14 : decode jdk_48_method_27_code 14 = .ok (.ldc 200, 2) := by decide +kernel
theorem d18_16 : decode jdk_48_method_27_code 16 = .ok (.if_icmp .gt 5, 3) := by decide +kernel
theorem d18_19 : decode jdk_48_method_27_code 19 = .ok (.iload_n 3, 1) := by decide +kernel
theorem d18_20 : decode jdk_48_method_27_code 20 = .ok (.ireturn, 1) := by decide +kernel
def Q_rm_nl_16_10_18 (Z : State)  (h0 : Heap) (n0 : Nat) (v : Option Value) (h : Heap) (L : List Loc) : Prop := (v = some (vI 34) ∧ Fr n0 L ∧ h = h0)
set_option maxRecDepth 65536 in
set_option maxHeartbeats 40000000 in
theorem rm_nl_16_10_18 (l : Launch) (Z : State) (a0 : Array Value) (hw : ∀ d ∈ tables_1, d.before a0 Z = true) (ws : List Jvm.Cond)  (h0 : Heap) (n0 : Nat) (Z0 : n0 ≤ h0.size) :
    MetFree l M33 (head1 (Jvm.Cond.code M33 jdk_48_method_27_code 4 (some .int) :: ws) ({ frames := 1, cells := 0, slots := 0, locals := 14 } : Room)) (fun a U => a = #[(vI 16), (vI 10), (vI 18)] ∧ Z.Warmed39 U.vm ∧ U.heap = h0) (fun _ _ _ _ _ => True) (fun _ U o U' => ∃ v L, o = .returned v ∧ Q_rm_nl_16_10_18 Z  h0 n0 v U'.heap L ∧ FrameEnd U o U' L ({ frames := 1, cells := 0, slots := 0, locals := 14 } : Room).cells ({ frames := 1, cells := 0, slots := 0, locals := 14 } : Room).slots) := by
  refine MetFree.of_bodySF (plainFor_of_name pn_9) hisR ?_
  intro p e s m args below meth c s₁ Bd hml0 hP hK
  obtain ⟨rfl, hZ, hh⟩ := hP
  have hx := Bd.exec
  have hby := Bd.bytes
  have hml : c.maxLocals = 4 := hml0
  have hown : s.vm.findClass "jdk/internal/util/ArraysSupport" = some m.cls := findClass_of_methodNamed Bd.named
  have hnm := (name_of_methodNamed Bd.named Bd.method).1
  have X0 : Stand p l e ({ frames := 1, cells := 0, slots := 0, locals := 14 } : Room) s m #[(vI 16), (vI 10), (vI 18)] below meth c s₁ [] 0 0 := Stand.of_body Bd
  have e0 : s₁.heap = h0 := by rw [← hh, Bd.state]; rfl
  have N0 := Fr.nil n0
  have pre0 : ∀ t, Steps p.tables e below (s₁.setTop (mkF m 0 #[vi (16 : Int32), vi (10 : Int32), vi (18 : Int32), uu] [])) t → Steps p.tables e below (s₁.setTop (entryFrame m #[(vI 16), (vI 10), (vI 18)] 4)) t := fun t k => castTop (ef_41 m ) k
  obtain ⟨_, _, ⟨T1, Lw1, kw1, nw1⟩, -, X1, ⟨Lc1, hQ1, lq1, yq1, zq1⟩, st1⟩ := Jvm.LawKit.callS X0 hx (y := M0) hown (mvT hZ (wd hw 101 rfl)) (mvT hZ (wd hw 102 rfl)) (mvT hZ (wd hw 103 rfl)) (mvT hZ (wd hw 104 rfl)) (by decide) (backOf (W := 1) (rmMax l Z a0 hw [] (10 : Int32) (18 : Int32) h0 n0 Z0) hZ (wd hw 104 rfl) (wd hw 103 rfl) (by decide) (by decide)) (g := (mkF m 3 #[vi (16 : Int32), vi (10 : Int32), vi (18 : Int32), uu] [(vI 18), (vI 10), (vI 16)])) rfl (by rw [hml]; rfl) (argsL := [(vI 10), (vI 18)]) (rest := [(vI 16)]) (lenOf pd_8 rfl) rfl (by show 2 * 0 + _ ≤ _; exact Nat.le_of_eq rfl) (hb hby d18_3) (fun _ _ => ⟨rfl, e0, (by decide : 0 + 0 ≤ _), (by decide : 0 + 0 ≤ _)⟩)
  dsimp only [Pt.U, Pt.locs, Pt.cells, Pt.slots] at X1 lq1 yq1 zq1 st1 hQ1
  have X1 := own_reb X1 lq1 yq1 zq1
  obtain ⟨rfl, Nq1, eh1⟩ := hQ1
  have N1 := Fr.app N0 Nq1
  obtain ⟨fs, hr, hrun, hended, hW, hsame⟩ := X1.leave (v := some (vI 34)) (fun h => by rw [Bd.returns] at h; cases h)
  refine ⟨_, _, pre0 _ ?_, hrun, hended, _, _, rfl, ?_, ⟨_, rfl⟩, hW, hsame.mono (by decide) (by decide)⟩
  · show SS p e below s₁ (mkF m 0 #[vi (16 : Int32), vi (10 : Int32), vi (18 : Int32), uu] []) _
    refine XS.iloadN X0.here hx rfl (hb hby d18_0) rfl ?_
    refine XS.iloadN X0.here hx rfl (hb hby d18_1) rfl ?_
    refine XS.iloadN X0.here hx rfl (hb hby d18_2) rfl ?_
    show SS p e below s₁ (mkF m 3 #[vi (16 : Int32), vi (10 : Int32), vi (18 : Int32), uu] [(vI 18), (vI 10), (vI 16)]) _
    refine st1 _ ?_
    show SS p e below T1 (mkF m 6 #[vi (16 : Int32), vi (10 : Int32), vi (18 : Int32), uu] [(.int (if (10 : Int32) < (18 : Int32) then (18 : Int32) else (10 : Int32))), (vI 16)]) _
    rw [(show (if (10 : Int32) < (18 : Int32) then (18 : Int32) else (10 : Int32)) = (18 : Int32) from by decide)]
    refine XS.iadd X1.here hx rfl (hb hby d18_6) rfl ?_
    show SS p e below T1 (mkF m 7 #[vi (16 : Int32), vi (10 : Int32), vi (18 : Int32), uu] [(.int ((16 : Int32) + (18 : Int32)))]) _
    rw [(show ((16 : Int32) + (18 : Int32)) = (34 : Int32) from by decide)]
    refine XS.istoreN X1.here hx rfl (hb hby d18_7) rfl (l' := #[vi (16 : Int32), vi (10 : Int32), vi (18 : Int32), vi (34 : Int32)]) rfl ?_
    refine XS.iconst X1.here hx rfl (hb hby d18_8) ?_
    refine XS.iloadN X1.here hx rfl (hb hby d18_9) rfl ?_
    show SS p e below T1 (mkF m 10 #[vi (16 : Int32), vi (10 : Int32), vi (18 : Int32), vi (34 : Int32)] [(vI 34), z0]) _
    refine XS.icmpNo X1.here hx rfl (hb hby d18_10) rfl (tlt (by decide : (0 : Int32) < (34 : Int32))).2.1 ?_
    refine XS.iloadN X1.here hx rfl (hb hby d18_13) rfl ?_
    show SS p e below T1 (mkF m 14 #[vi (16 : Int32), vi (10 : Int32), vi (18 : Int32), vi (34 : Int32)] [(vI 34)]) _
    refine X1.ldcInt hx hown (mvT hZ (wd hw 105 rfl)) (g := (mkF m 14 #[vi (16 : Int32), vi (10 : Int32), vi (18 : Int32), vi (34 : Int32)] [(vI 34)])) rfl (hb hby d18_14) _ ?_
    show SS p e below T1 (mkF m 16 #[vi (16 : Int32), vi (10 : Int32), vi (18 : Int32), vi (34 : Int32)] [(vI 2147483639), (vI 34)]) _
    refine XS.icmpNo X1.here hx rfl (hb hby d18_16) rfl (flt (by decide : ¬ ((2147483639 : Int32) < (34 : Int32)))).2.2.1 ?_
    refine XS.iloadN X1.here hx rfl (hb hby d18_19) rfl ?_
    exact retI X1 hx Bd.returns (hb hby d18_20) hr
  · show Q_rm_nl_16_10_18 Z  h0 n0 _ T1.heap _
    rw [eh1]
    exact ⟨rfl, N1, rfl⟩
theorem ef_42 (m : MethodId) (x0 : Addr) : entryFrame m #[(.ref x0), (vI 26)] 6 = mkF m 0 #[vr x0, vi (26 : Int32), uu, uu, uu, uu] [] := by first | (simp [entryFrame, mkF, argsToLocals, Value.category]; done) | rfl
theorem d17_0 : decode jdk_68_method_10_code 0 = .ok (.aload_n 0, 1) := by decide +kernel
theorem d17_1 : decode jdk_68_method_10_code 1 = .ok (.getfield 15, 3) := by decide +kernel
theorem d17_4 : decode jdk_68_method_10_code 4 = .ok (.arraylength, 1) := by decide +kernel
theorem d17_5 : decode jdk_68_method_10_code 5 = .ok (.istore_n 2, 1) := by decide +kernel
theorem d17_6 : decode jdk_68_method_10_code 6 = .ok (.iload_n 1, 1) := by decide +kernel
theorem d17_7 : decode jdk_68_method_10_code 7 = .ok (.aload_n 0, 1) := by decide +kernel
theorem d17_8 : decode jdk_68_method_10_code 8 = .ok (.getfield 22, 3) := by decide +kernel
theorem d17_11 : decode jdk_68_method_10_code 11 = .ok (.ishl, 1) := by decide +kernel
theorem d17_12 : decode jdk_68_method_10_code 12 = .ok (.istore_n 3, 1) := by decide +kernel
theorem d17_13 : decode jdk_68_method_10_code 13 = .ok (.iload_n 3, 1) := by decide +kernel
theorem d17_14 : decode jdk_68_method_10_code 14 = .ok (.iload_n 2, 1) := by decide +kernel
theorem d17_15 : decode jdk_68_method_10_code 15 = .ok (.isub, 1) := by decide +kernel
theorem d17_16 : decode jdk_68_method_10_code 16 = .ok (.istore 4, 2) := by decide +kernel
theorem d17_18 : decode jdk_68_method_10_code 18 = .ok (.iload_n 2, 1) := by decide +kernel
theorem d17_19 : decode jdk_68_method_10_code 19 = .ok (.iload 4, 2) := by decide +kernel
theorem d17_21 : decode jdk_68_method_10_code 21 = .ok (.iload_n 2, 1) := by decide +kernel
theorem d17_22 : decode jdk_68_method_10_code 22 = .ok (.iconst 2, 1) := by decide +kernel
theorem d17_23 : decode jdk_68_method_10_code 23 = .ok (.aload_n 0, 1) := by decide +kernel
theorem d17_24 : decode jdk_68_method_10_code 24 = .ok (.getfield 22, 3) := by decide +kernel
theorem d17_27 : decode jdk_68_method_10_code 27 = .ok (.ishl, 1) := by decide +kernel
theorem d17_28 : decode jdk_68_method_10_code 28 = .ok (.iadd, 1) := by decide +kernel
theorem d17_29 : decode jdk_68_method_10_code 29 = .ok (.invokestatic 114, 3) := by decide +kernel
theorem pd_16 : parseMethodDescriptor "(III)I" = some ⟨[.int, .int, .int], some .int⟩ := by decide +kernel
theorem d17_32 : decode jdk_68_method_10_code 32 = .ok (.istore 5, 2) := by decide +kernel
theorem d17_34 : decode jdk_68_method_10_code 34 = .ok (.iload 5, 2) := by decide +kernel
theorem d17_36 : decode jdk_68_method_10_code 36 = .ok (.ldc 39, 2) := by decide +kernel
theorem d17_38 : decode jdk_68_method_10_code 38 = .ok (.if_icmp .ne 13, 3) := by decide +kernel
theorem d17_51 : decode jdk_68_method_10_code 51 = .ok (.iload 5, 2) := by decide +kernel
theorem d17_53 : decode jdk_68_method_10_code 53 = .ok (.aload_n 0, 1) := by decide +kernel
theorem d17_54 : decode jdk_68_method_10_code 54 = .ok (.getfield 22, 3) := by decide +kernel
theorem d17_57 : decode jdk_68_method_10_code 57 = .ok (.ishr, 1) := by decide +kernel
theorem d17_58 : decode jdk_68_method_10_code 58 = .ok (.ireturn, 1) := by decide +kernel
def Q_rm_nc_26_16 (Z : State) (r0 : Addr) (rv : Addr) (kv : ClassId) (vv : List Value) (h0 : Heap) (n0 : Nat) (v : Option Value) (h : Heap) (L : List Loc) : Prop := (v = some (vI 34) ∧ Fr n0 L ∧ h = h0)
set_option maxRecDepth 65536 in
set_option maxHeartbeats 40000000 in
theorem rm_nc_26_16 (l : Launch) (Z : State) (a0 : Array Value) (hw : ∀ d ∈ tables_1, d.before a0 Z = true) (ws : List Jvm.Cond) (r0 : Addr) (rv : Addr) (kv : ClassId) (vv : List Value) (h0 : Heap) (n0 : Nat) (Z0 : n0 ≤ h0.size) (uE : Exa Z h0 r0 "java/lang/StringBuilder") (uv : Fld Z h0 r0 "java/lang/AbstractStringBuilder" "value" "[B" (.ref rv)) (uc : Fld Z h0 r0 "java/lang/AbstractStringBuilder" "coder" "B" z0) (uV : Arv Z h0 rv kv .byte (16 : Int32) vv z0) :
    MetFree l M34 (head1 (Jvm.Cond.code M34 jdk_68_method_10_code 6 (some .int) :: ws) ({ frames := 2, cells := 0, slots := 0, locals := 29 } : Room)) (fun a U => a = #[(.ref r0), (vI 26)] ∧ Z.Warmed39 U.vm ∧ U.heap = h0) (fun _ _ _ _ _ => True) (fun _ U o U' => ∃ v L, o = .returned v ∧ Q_rm_nc_26_16 Z r0 rv kv vv h0 n0 v U'.heap L ∧ FrameEnd U o U' L ({ frames := 2, cells := 0, slots := 0, locals := 29 } : Room).cells ({ frames := 2, cells := 0, slots := 0, locals := 29 } : Room).slots) := by
  refine MetFree.of_bodySF (plainFor_of_name pn_1) hisR ?_
  intro p e s m args below meth c s₁ Bd hml0 hP hK
  obtain ⟨rfl, hZ, hh⟩ := hP
  have hx := Bd.exec
  have hby := Bd.bytes
  have hml : c.maxLocals = 6 := hml0
  have hown : s.vm.findClass "java/lang/AbstractStringBuilder" = some m.cls := findClass_of_methodNamed Bd.named
  have hnm := (name_of_methodNamed Bd.named Bd.method).1
  have X0 : Stand p l e ({ frames := 2, cells := 0, slots := 0, locals := 29 } : Room) s m #[(.ref r0), (vI 26)] below meth c s₁ [] 0 0 := Stand.of_body Bd
  have e0 : s₁.heap = h0 := by rw [← hh, Bd.state]; rfl
  have N0 := Fr.nil n0
  have pre0 : ∀ t, Steps p.tables e below (s₁.setTop (mkF m 0 #[vr r0, vi (26 : Int32), uu, uu, uu, uu] [])) t → Steps p.tables e below (s₁.setTop (entryFrame m #[(.ref r0), (vI 26)] 6)) t := fun t k => castTop (ef_42 m r0) k
  obtain ⟨T1, X1, e1, st1⟩ := getF X0 hx hZ hown (host := "") (Or.inl (wd hw 60 rfl)) Via.refl e0 uv (g := (mkF m 1 #[vr r0, vi (26 : Int32), uu, uu, uu, uu] [(.ref r0)])) rfl rfl (hb hby d17_1)
  obtain ⟨cl2, Ar2, q2, S2, Nn2, H2, G2⟩ := (id uV)
  obtain ⟨T3, X3, e3, st3⟩ := getF X1 hx hZ hown (host := "") (Or.inl (wd hw 62 rfl)) Via.refl e1 uc (g := (mkF m 8 #[vr r0, vi (26 : Int32), vi (16 : Int32), uu, uu, uu] [(.ref r0), (vI 26)])) rfl rfl (hb hby d17_8)
  obtain ⟨T4, X4, e4, st4⟩ := getF X3 hx hZ hown (host := "") (Or.inl (wd hw 62 rfl)) Via.refl e3 uc (g := (mkF m 24 #[vr r0, vi (26 : Int32), vi (16 : Int32), vi (26 : Int32), vi (10 : Int32), uu] [(.ref r0), (vI 2), (vI 16), (vI 10), (vI 16)])) rfl rfl (hb hby d17_24)
  obtain ⟨_, _, ⟨T5, Lw5, kw5, nw5⟩, -, X5, ⟨Lc5, hQ5, lq5, yq5, zq5⟩, st5⟩ := Jvm.LawKit.callS X4 hx (y := M33) hown (mvT hZ (wd hw 97 rfl)) (mvT hZ (wd hw 98 rfl)) (mvT hZ (wd hw 99 rfl)) (mvT hZ (wd hw 100 rfl)) (by decide) (backOf (W := 0) (rm_nl_16_10_18 l Z a0 hw []  h0 n0 Z0) hZ (wd hw 100 rfl) (wd hw 99 rfl) (by decide) (by decide)) (g := (mkF m 29 #[vr r0, vi (26 : Int32), vi (16 : Int32), vi (26 : Int32), vi (10 : Int32), uu] [(vI 18), (vI 10), (vI 16)])) rfl (by rw [hml]; rfl) (argsL := [(vI 16), (vI 10), (vI 18)]) (rest := []) (lenOf pd_16 rfl) rfl (by show 2 * 0 + _ ≤ _; exact Nat.le_of_eq rfl) (hb hby d17_29) (fun _ _ => ⟨rfl, e4, (by decide : 0 + 0 ≤ _), (by decide : 0 + 0 ≤ _)⟩)
  dsimp only [Pt.U, Pt.locs, Pt.cells, Pt.slots] at X5 lq5 yq5 zq5 st5 hQ5
  have X5 := own_reb X5 lq5 yq5 zq5
  obtain ⟨rfl, Nq5, eh5⟩ := hQ5
  have N5 := Fr.app N0 Nq5
  obtain ⟨T6, X6, e6, st6⟩ := getF X5 hx hZ hown (host := "") (Or.inl (wd hw 62 rfl)) Via.refl eh5 uc (g := (mkF m 54 #[vr r0, vi (26 : Int32), vi (16 : Int32), vi (26 : Int32), vi (10 : Int32), vi (34 : Int32)] [(.ref r0), (vI 34)])) rfl rfl (hb hby d17_54)
  obtain ⟨fs, hr, hrun, hended, hW, hsame⟩ := X6.leave (v := some (vI 34)) (fun h => by rw [Bd.returns] at h; cases h)
  refine ⟨_, _, pre0 _ ?_, hrun, hended, _, _, rfl, ?_, ⟨_, rfl⟩, hW, hsame.mono (by decide) (by decide)⟩
  · show SS p e below s₁ (mkF m 0 #[vr r0, vi (26 : Int32), uu, uu, uu, uu] []) _
    refine XS.aloadN X0.here hx rfl (hb hby d17_0) rfl rfl ?_
    refine st1 _ ?_
    show SS p e below T1 (mkF m 4 #[vr r0, vi (26 : Int32), uu, uu, uu, uu] [(.ref rv)]) _
    refine X1.arraylength hx (own_at e1 Ar2.1) (State.isArrayOf_alike hZ.alike Ar2.2.1) (g := (mkF m 4 #[vr r0, vi (26 : Int32), uu, uu, uu, uu] [(.ref rv)])) rfl rfl (hb hby d17_4) _ ?_
    rw [len_of S2 Nn2]
    refine XS.istoreN X1.here hx rfl (hb hby d17_5) rfl (l' := #[vr r0, vi (26 : Int32), vi (16 : Int32), uu, uu, uu]) rfl ?_
    refine XS.iloadN X1.here hx rfl (hb hby d17_6) rfl ?_
    refine XS.aloadN X1.here hx rfl (hb hby d17_7) rfl rfl ?_
    refine st3 _ ?_
    show SS p e below T3 (mkF m 11 #[vr r0, vi (26 : Int32), vi (16 : Int32), uu, uu, uu] [z0, (vI 26)]) _
    refine XS.ishl X3.here hx rfl (hb hby d17_11) rfl ?_
    show SS p e below T3 (mkF m 12 #[vr r0, vi (26 : Int32), vi (16 : Int32), uu, uu, uu] [(.int ((26 : Int32) <<< ((0 : Int32) &&& 31)))]) _
    rw [(show ((26 : Int32) <<< ((0 : Int32) &&& 31)) = (26 : Int32) from by decide)]
    refine XS.istoreN X3.here hx rfl (hb hby d17_12) rfl (l' := #[vr r0, vi (26 : Int32), vi (16 : Int32), vi (26 : Int32), uu, uu]) rfl ?_
    refine XS.iloadN X3.here hx rfl (hb hby d17_13) rfl ?_
    refine XS.iloadN X3.here hx rfl (hb hby d17_14) rfl ?_
    refine XS.isub X3.here hx rfl (hb hby d17_15) rfl ?_
    show SS p e below T3 (mkF m 16 #[vr r0, vi (26 : Int32), vi (16 : Int32), vi (26 : Int32), uu, uu] [(.int ((26 : Int32) - (16 : Int32)))]) _
    rw [(show ((26 : Int32) - (16 : Int32)) = (10 : Int32) from by decide)]
    refine XS.istore X3.here hx rfl (hb hby d17_16) rfl (l' := #[vr r0, vi (26 : Int32), vi (16 : Int32), vi (26 : Int32), vi (10 : Int32), uu]) rfl ?_
    refine XS.iloadN X3.here hx rfl (hb hby d17_18) rfl ?_
    refine XS.iload X3.here hx rfl (hb hby d17_19) rfl ?_
    refine XS.iloadN X3.here hx rfl (hb hby d17_21) rfl ?_
    refine XS.iconst X3.here hx rfl (hb hby d17_22) ?_
    refine XS.aloadN X3.here hx rfl (hb hby d17_23) rfl rfl ?_
    refine st4 _ ?_
    show SS p e below T4 (mkF m 27 #[vr r0, vi (26 : Int32), vi (16 : Int32), vi (26 : Int32), vi (10 : Int32), uu] [z0, (vI 2), (vI 16), (vI 10), (vI 16)]) _
    refine XS.ishl X4.here hx rfl (hb hby d17_27) rfl ?_
    show SS p e below T4 (mkF m 28 #[vr r0, vi (26 : Int32), vi (16 : Int32), vi (26 : Int32), vi (10 : Int32), uu] [(.int ((2 : Int32) <<< ((0 : Int32) &&& 31))), (vI 16), (vI 10), (vI 16)]) _
    rw [(show ((2 : Int32) <<< ((0 : Int32) &&& 31)) = (2 : Int32) from by decide)]
    refine XS.iadd X4.here hx rfl (hb hby d17_28) rfl ?_
    show SS p e below T4 (mkF m 29 #[vr r0, vi (26 : Int32), vi (16 : Int32), vi (26 : Int32), vi (10 : Int32), uu] [(.int ((16 : Int32) + (2 : Int32))), (vI 10), (vI 16)]) _
    rw [(show ((16 : Int32) + (2 : Int32)) = (18 : Int32) from by decide)]
    show SS p e below T4 (mkF m 29 #[vr r0, vi (26 : Int32), vi (16 : Int32), vi (26 : Int32), vi (10 : Int32), uu] [(vI 18), (vI 10), (vI 16)]) _
    refine st5 _ ?_
    refine XS.istore X5.here hx rfl (hb hby d17_32) rfl (l' := #[vr r0, vi (26 : Int32), vi (16 : Int32), vi (26 : Int32), vi (10 : Int32), vi (34 : Int32)]) rfl ?_
    refine XS.iload X5.here hx rfl (hb hby d17_34) rfl ?_
    show SS p e below T5 (mkF m 36 #[vr r0, vi (26 : Int32), vi (16 : Int32), vi (26 : Int32), vi (10 : Int32), vi (34 : Int32)] [(vI 34)]) _
    refine X5.ldcInt hx hown (mvT hZ (wd hw 106 rfl)) (g := (mkF m 36 #[vr r0, vi (26 : Int32), vi (16 : Int32), vi (26 : Int32), vi (10 : Int32), vi (34 : Int32)] [(vI 34)])) rfl (hb hby d17_36) _ ?_
    show SS p e below T5 (mkF m 38 #[vr r0, vi (26 : Int32), vi (16 : Int32), vi (26 : Int32), vi (10 : Int32), vi (34 : Int32)] [(vI 2147483647), (vI 34)]) _
    refine XS.icmpYes X5.here hx rfl (pc0 := 38) (pc' := 51) rfl (hb hby d17_38) rfl (feq (by decide : ¬ ((34 : Int32) = (2147483647 : Int32)))).2 (by decide) (by decide) ?_
    refine XS.iload X5.here hx rfl (hb hby d17_51) rfl ?_
    refine XS.aloadN X5.here hx rfl (hb hby d17_53) rfl rfl ?_
    refine st6 _ ?_
    show SS p e below T6 (mkF m 57 #[vr r0, vi (26 : Int32), vi (16 : Int32), vi (26 : Int32), vi (10 : Int32), vi (34 : Int32)] [z0, (vI 34)]) _
    refine XS.ishr X6.here hx rfl (hb hby d17_57) rfl ?_
    show SS p e below T6 (mkF m 58 #[vr r0, vi (26 : Int32), vi (16 : Int32), vi (26 : Int32), vi (10 : Int32), vi (34 : Int32)] [(.int ((34 : Int32) >>> ((0 : Int32) &&& 31)))]) _
    rw [own_shr0 _]
    exact retI X6 hx Bd.returns (hb hby d17_58) hr
  · show Q_rm_nc_26_16 Z r0 rv kv vv h0 n0 _ T6.heap _
    rw [e6]
    exact ⟨rfl, N5, rfl⟩
theorem ef_43 (m : MethodId) (x0 : Addr) : entryFrame m #[(.ref x0), (vI 34)] 3 = mkF m 0 #[vr x0, vi (34 : Int32), uu] [] := by first | (simp [entryFrame, mkF, argsToLocals, Value.category]; done) | rfl
theorem d20_0 : decode jdk_65_method_121_code 0 = .ok (.iload_n 1, 1) := by decide +kernel
theorem d20_1 : decode jdk_65_method_121_code 1 = .ok (.aload_n 0, 1) := by decide +kernel
theorem d20_2 : decode jdk_65_method_121_code 2 = .ok (.arraylength, 1) := by decide +kernel
theorem d20_3 : decode jdk_65_method_121_code 3 = .ok (.if_icmp .ne 11, 3) := by decide +kernel
theorem d20_14 : decode jdk_65_method_121_code 14 = .ok (.iload_n 1, 1) := by decide +kernel
theorem d20_15 : decode jdk_65_method_121_code 15 = .ok (.newarray .byte, 2) := by decide +kernel
theorem d20_17 : decode jdk_65_method_121_code 17 = .ok (.astore_n 2, 1) := by decide +kernel
theorem d20_18 : decode jdk_65_method_121_code 18 = .ok (.aload_n 0, 1) := by decide +kernel
theorem d20_19 : decode jdk_65_method_121_code 19 = .ok (.iconst 0, 1) := by decide +kernel
theorem d20_20 : decode jdk_65_method_121_code 20 = .ok (.aload_n 2, 1) := by decide +kernel
theorem d20_21 : decode jdk_65_method_121_code 21 = .ok (.iconst 0, 1) := by decide +kernel
theorem d20_22 : decode jdk_65_method_121_code 22 = .ok (.aload_n 0, 1) := by decide +kernel
theorem d20_23 : decode jdk_65_method_121_code 23 = .ok (.arraylength, 1) := by decide +kernel
theorem d20_24 : decode jdk_65_method_121_code 24 = .ok (.iload_n 1, 1) := by decide +kernel
theorem d20_25 : decode jdk_65_method_121_code 25 = .ok (.invokestatic 304, 3) := by decide +kernel
theorem d20_28 : decode jdk_65_method_121_code 28 = .ok (.invokestatic 150, 3) := by decide +kernel
theorem d20_31 : decode jdk_65_method_121_code 31 = .ok (.aload_n 2, 1) := by decide +kernel
theorem d20_32 : decode jdk_65_method_121_code 32 = .ok (.areturn, 1) := by decide +kernel
def Q_rm_co_16_34 (Z : State) (r0 : Addr) (kv : ClassId) (vv : List Value) (h0 : Heap) (n0 : Nat) (v : Option Value) (h : Heap) (L : List Loc) : Prop := ∃ (nb : Addr), ∃ (nk : ClassId), ∃ (nv : List Value), (v = some (.ref nb) ∧ Fr n0 L ∧ Keep h0 h [] ∧ h0.size ≤ nb ∧ Exa Z h nb "[B" ∧ Arv Z h nb nk .byte (34 : Int32) nv z0 ∧ nv.length = 34 ∧ nv = own_grow 16 34 vv)
set_option maxRecDepth 65536 in
set_option maxHeartbeats 40000000 in
theorem rm_co_16_34 (l : Launch) (Z : State) (a0 : Array Value) (hw : ∀ d ∈ tables_1, d.before a0 Z = true) (ws : List Jvm.Cond) (r0 : Addr) (kv : ClassId) (vv : List Value) (h0 : Heap) (n0 : Nat) (Z0 : n0 ≤ h0.size) (uV : Arv Z h0 r0 kv .byte (16 : Int32) vv z0) :
    MetFree l M35 (head1 (Jvm.Cond.code M35 jdk_65_method_121_code 3 (some (.array .byte)) :: ws) ({ frames := 1, cells := 1, slots := 34, locals := 18 } : Room)) (fun a U => a = #[(.ref r0), (vI 34)] ∧ Z.Warmed39 U.vm ∧ U.heap = h0) (fun _ _ _ _ _ => True) (fun _ U o U' => ∃ v L, o = .returned v ∧ Q_rm_co_16_34 Z r0 kv vv h0 n0 v U'.heap L ∧ FrameEnd U o U' L ({ frames := 1, cells := 1, slots := 34, locals := 18 } : Room).cells ({ frames := 1, cells := 1, slots := 34, locals := 18 } : Room).slots) := by
  refine MetFree.of_bodySF (plainFor_of_name pn_3) hisR ?_
  intro p e s m args below meth c s₁ Bd hml0 hP hK
  obtain ⟨rfl, hZ, hh⟩ := hP
  have hx := Bd.exec
  have hby := Bd.bytes
  have hml : c.maxLocals = 3 := hml0
  have hown : s.vm.findClass "java/util/Arrays" = some m.cls := findClass_of_methodNamed Bd.named
  have hnm := (name_of_methodNamed Bd.named Bd.method).1
  have X0 : Stand p l e ({ frames := 1, cells := 1, slots := 34, locals := 18 } : Room) s m #[(.ref r0), (vI 34)] below meth c s₁ [] 0 0 := Stand.of_body Bd
  have e0 : s₁.heap = h0 := by rw [← hh, Bd.state]; rfl
  have N0 := Fr.nil n0
  have pre0 : ∀ t, Steps p.tables e below (s₁.setTop (mkF m 0 #[vr r0, vi (34 : Int32), uu] [])) t → Steps p.tables e below (s₁.setTop (entryFrame m #[(.ref r0), (vI 34)] 3)) t := fun t k => castTop (ef_43 m r0) k
  obtain ⟨cl1, Ar1, q1, S1, Nn1, H1, G1⟩ := (id uV)
  obtain ⟨T2, h2, k2, X2, e2, E2, A2, AX2, st2⟩ := newPE X0 hx hZ (wd hw 19 rfl) e0 (g := (mkF m 15 #[vr r0, vi (34 : Int32), uu] [(vI 34)])) rfl (hb hby d20_15) rfl (by decide) (cap := 34) (by decide) (by decide) (by decide) (by decide) (ad := "[B") (by decide)
  obtain ⟨b2, g2⟩ : ∃ z, z = h0.size := ⟨_, rfl⟩
  rw [← g2] at A2 AX2 st2
  have ne_r0_b2 : r0 ≠ b2 := Nat.ne_of_lt (Nat.lt_of_lt_of_le uV.lt (Nat.le_of_eq g2.symm))
  have V2 : Arv Z h2 b2 k2 .byte (34 : Int32) [z0, z0, z0, z0, z0, z0, z0, z0, z0, z0, z0, z0, z0, z0, z0, z0, z0, z0, z0, z0, z0, z0, z0, z0, z0, z0, z0, z0, z0, z0, z0, z0, z0, z0] z0 := (Arv.new A2 (by decide)).pad (pad_rep [] z0 34)
  have g_b2 : n0 ≤ b2 := Nat.le_trans Z0 (Nat.le_of_eq g2.symm)
  have sz_b2 : h0.size ≤ b2 := Nat.le_trans (Keep.refl h0 []).1 (Nat.le_of_eq g2.symm)
  have K2 : Keep h0 h2 [] := (Keep.refl h0 []).ext E2
  have Z2 : n0 ≤ h2.size := Nat.le_trans Z0 E2.1
  have c4 := (uV.ext E2)
  obtain ⟨cl3, Ar3, q3, S3, Nn3, H3, G3⟩ := (id c4)
  obtain ⟨_, _, ⟨T5, Lw5, kw5, nw5⟩, -, X5, ⟨Lc5, hQ5, lq5, yq5, zq5⟩, st5⟩ := Jvm.LawKit.callS X2 hx (y := M1) hown (mvT hZ (wd hw 111 rfl)) (mvT hZ (wd hw 112 rfl)) (mvT hZ (wd hw 103 rfl)) (mvT hZ (wd hw 113 rfl)) (by decide) (backOf (W := 4) (rmMin l Z a0 hw [] (16 : Int32) (34 : Int32) h2 n0 Z2) hZ (wd hw 113 rfl) (wd hw 103 rfl) (by decide) (by decide)) (g := (mkF m 25 #[vr r0, vi (34 : Int32), vr b2] [(vI 34), (vI 16), z0, (.ref b2), z0, (.ref r0)])) rfl (by rw [hml]; rfl) (argsL := [(vI 16), (vI 34)]) (rest := [z0, (.ref b2), z0, (.ref r0)]) (lenOf pd_8 rfl) rfl (by show 2 * 0 + _ ≤ _; exact Nat.le_of_eq rfl) (hb hby d20_25) (fun _ _ => ⟨rfl, e2, (by decide : 1 + 0 ≤ _), (by decide : 34 + 0 ≤ _)⟩)
  dsimp only [Pt.U, Pt.locs, Pt.cells, Pt.slots] at X5 lq5 yq5 zq5 st5 hQ5
  have X5 := own_reb X5 lq5 yq5 zq5
  obtain ⟨rfl, Nq5, eh5⟩ := hQ5
  have N5 := Fr.app N0 Nq5
  obtain ⟨T6, h6, L6, X6, e6, N6, Kq6, V6, st6⟩ := cpA X5 hx hZ hown (wd hw 114 rfl) (wd hw 117 rfl) (wd hw 115 rfl) (wd hw 116 rfl) eh5 (us := ((List.range ((16 : Int32)).toNatClampNeg).map fun i => List.getD vv (((0 : Int32)).toNatClampNeg + i) z0)) c4 V2 (Or.inl ⟨rfl, rfl⟩) (by decide) (by decide) (by decide) (by decide) (by decide) rfl (by decide) N5 g_b2 (g := (mkF m 28 #[vr r0, vi (34 : Int32), vr b2] [(vI 16), z0, (.ref b2), z0, (.ref r0)])) rfl (by rw [hml]; rfl) rfl (hb hby d20_28) (by decide) (W := 0) (by show 2 * 0 + _ ≤ _; exact Nat.le_of_eq rfl) (by decide)
  have K6 : Keep h0 h6 [] := K2.trans Kq6 (allS (Or.inr sz_b2) all0)
  have Z6 : n0 ≤ h6.size := Nat.le_trans Z2 Kq6.1
  have c7 := (AX2.keep Kq6)
  obtain ⟨fs, hr, hrun, hended, hW, hsame⟩ := X6.leave (v := some (.ref b2)) (fun h => by rw [Bd.returns] at h; cases h)
  refine ⟨_, _, pre0 _ ?_, hrun, hended, _, _, rfl, ?_, ⟨_, rfl⟩, hW, hsame.mono (by decide) (by decide)⟩
  · show SS p e below s₁ (mkF m 0 #[vr r0, vi (34 : Int32), uu] []) _
    refine XS.iloadN X0.here hx rfl (hb hby d20_0) rfl ?_
    refine XS.aloadN X0.here hx rfl (hb hby d20_1) rfl rfl ?_
    show SS p e below s₁ (mkF m 2 #[vr r0, vi (34 : Int32), uu] [(.ref r0), (vI 34)]) _
    refine X0.arraylength hx (own_at e0 Ar1.1) (State.isArrayOf_alike hZ.alike Ar1.2.1) (g := (mkF m 2 #[vr r0, vi (34 : Int32), uu] [(.ref r0), (vI 34)])) rfl rfl (hb hby d20_2) _ ?_
    rw [len_of S1 Nn1]
    show SS p e below s₁ (mkF m 3 #[vr r0, vi (34 : Int32), uu] [(vI 16), (vI 34)]) _
    refine XS.icmpYes X0.here hx rfl (pc0 := 3) (pc' := 14) rfl (hb hby d20_3) rfl (feq (by decide : ¬ ((34 : Int32) = (16 : Int32)))).2 (by decide) (by decide) ?_
    refine XS.iloadN X0.here hx rfl (hb hby d20_14) rfl ?_
    refine st2 _ ?_
    refine XS.astoreN X2.here hx rfl (hb hby d20_17) rfl rfl (l' := #[vr r0, vi (34 : Int32), vr b2]) rfl ?_
    refine XS.aloadN X2.here hx rfl (hb hby d20_18) rfl rfl ?_
    refine XS.iconst X2.here hx rfl (hb hby d20_19) ?_
    refine XS.aloadN X2.here hx rfl (hb hby d20_20) rfl rfl ?_
    refine XS.iconst X2.here hx rfl (hb hby d20_21) ?_
    refine XS.aloadN X2.here hx rfl (hb hby d20_22) rfl rfl ?_
    show SS p e below T2 (mkF m 23 #[vr r0, vi (34 : Int32), vr b2] [(.ref r0), z0, (.ref b2), z0, (.ref r0)]) _
    refine X2.arraylength hx (own_at e2 Ar3.1) (State.isArrayOf_alike hZ.alike Ar3.2.1) (g := (mkF m 23 #[vr r0, vi (34 : Int32), vr b2] [(.ref r0), z0, (.ref b2), z0, (.ref r0)])) rfl rfl (hb hby d20_23) _ ?_
    rw [len_of S3 Nn3]
    refine XS.iloadN X2.here hx rfl (hb hby d20_24) rfl ?_
    show SS p e below T2 (mkF m 25 #[vr r0, vi (34 : Int32), vr b2] [(vI 34), (vI 16), z0, (.ref b2), z0, (.ref r0)]) _
    refine st5 _ ?_
    show SS p e below T5 (mkF m 28 #[vr r0, vi (34 : Int32), vr b2] [(.int (if (34 : Int32) < (16 : Int32) then (34 : Int32) else (16 : Int32))), z0, (.ref b2), z0, (.ref r0)]) _
    rw [(show (if (34 : Int32) < (16 : Int32) then (34 : Int32) else (16 : Int32)) = (16 : Int32) from by decide)]
    show SS p e below T5 (mkF m 28 #[vr r0, vi (34 : Int32), vr b2] [(vI 16), z0, (.ref b2), z0, (.ref r0)]) _
    refine st6 _ ?_
    refine XS.aloadN X6.here hx rfl (hb hby d20_31) rfl rfl ?_
    exact retOut X6 hx Bd.returns rfl (Or.inr (Or.inr (Or.inr (Or.inr ⟨rfl, rfl, rfl⟩)))) (hb hby d20_32) hr
  · show Q_rm_co_16_34 Z r0 kv vv h0 n0 _ T6.heap _
    rw [e6]
    exact ⟨b2, k2, (List.take ((0 : Int32)).toNatClampNeg [z0, z0, z0, z0, z0, z0, z0, z0, z0, z0, z0, z0, z0, z0, z0, z0, z0, z0, z0, z0, z0, z0, z0, z0, z0, z0, z0, z0, z0, z0, z0, z0, z0, z0] ++ ((List.range ((16 : Int32)).toNatClampNeg).map fun i => List.getD vv (((0 : Int32)).toNatClampNeg + i) z0) ++ List.drop (((0 : Int32)).toNatClampNeg + ((16 : Int32)).toNatClampNeg) [z0, z0, z0, z0, z0, z0, z0, z0, z0, z0, z0, z0, z0, z0, z0, z0, z0, z0, z0, z0, z0, z0, z0, z0, z0, z0, z0, z0, z0, z0, z0, z0, z0, z0]), rfl, N6, K6, sz_b2, c7, V6, (own_len3 (n := 34) rfl (by simp only [List.length_map, List.length_range]) (by decide)), rfl⟩
theorem ef_44 (m : MethodId) (x0 : Addr) : entryFrame m #[(.ref x0), (vI 26)] 3 = mkF m 0 #[vr x0, vi (26 : Int32), uu] [] := by first | (simp [entryFrame, mkF, argsToLocals, Value.category]; done) | rfl
theorem d16_17 : decode jdk_68_method_9_code 17 = .ok (.aload_n 0, 1) := by decide +kernel
theorem d16_18 : decode jdk_68_method_9_code 18 = .ok (.aload_n 0, 1) := by decide +kernel
theorem d16_19 : decode jdk_68_method_9_code 19 = .ok (.getfield 15, 3) := by decide +kernel
theorem d16_22 : decode jdk_68_method_9_code 22 = .ok (.aload_n 0, 1) := by decide +kernel
theorem d16_23 : decode jdk_68_method_9_code 23 = .ok (.iload_n 1, 1) := by decide +kernel
theorem d16_24 : decode jdk_68_method_9_code 24 = .ok (.invokevirtual 104, 3) := by decide +kernel
theorem pd_17 : parseMethodDescriptor "(I)I" = some ⟨[.int], some .int⟩ := by decide +kernel
theorem d16_27 : decode jdk_68_method_9_code 27 = .ok (.aload_n 0, 1) := by decide +kernel
theorem d16_28 : decode jdk_68_method_9_code 28 = .ok (.getfield 22, 3) := by decide +kernel
theorem d16_31 : decode jdk_68_method_9_code 31 = .ok (.ishl, 1) := by decide +kernel
theorem d16_32 : decode jdk_68_method_9_code 32 = .ok (.invokestatic 108, 3) := by decide +kernel
theorem pd_18 : parseMethodDescriptor "([BI)[B" = some ⟨[(.array .byte), .int], some (.array .byte)⟩ := by decide +kernel
theorem d16_35 : decode jdk_68_method_9_code 35 = .ok (.putfield 15, 3) := by decide +kernel
def Q_rm_ensG_26_16_0 (Z : State) (r0 : Addr) (rv : Addr) (kv : ClassId) (vv : List Value) (h0 : Heap) (n0 : Nat) (v : Option Value) (h : Heap) (L : List Loc) : Prop := ∃ (nb : Addr), ∃ (nk : ClassId), ∃ (nv : List Value), (v = none ∧ Fr n0 L ∧ Keep h0 h [r0] ∧ Fld Z h r0 "java/lang/AbstractStringBuilder" "value" "[B" (.ref nb) ∧ Fld Z h r0 "java/lang/AbstractStringBuilder" "coder" "B" z0 ∧ Fld Z h r0 "java/lang/AbstractStringBuilder" "count" "I" z0 ∧ h0.size ≤ nb ∧ Exa Z h nb "[B" ∧ Arv Z h nb nk .byte (34 : Int32) nv z0 ∧ nv.length = 34 ∧ nv = own_grow 16 34 vv)
set_option maxRecDepth 65536 in
set_option maxHeartbeats 40000000 in
theorem rm_ensG_26_16_0 (l : Launch) (Z : State) (a0 : Array Value) (hw : ∀ d ∈ tables_1, d.before a0 Z = true) (ws : List Jvm.Cond) (r0 : Addr) (rv : Addr) (kv : ClassId) (vv : List Value) (h0 : Heap) (n0 : Nat) (Z0 : n0 ≤ h0.size) (uE : Exa Z h0 r0 "java/lang/StringBuilder") (uv : Fld Z h0 r0 "java/lang/AbstractStringBuilder" "value" "[B" (.ref rv)) (uc : Fld Z h0 r0 "java/lang/AbstractStringBuilder" "coder" "B" z0) (uV : Arv Z h0 rv kv .byte (16 : Int32) vv z0) (uk : Fld Z h0 r0 "java/lang/AbstractStringBuilder" "count" "I" z0) (ug : n0 ≤ r0) :
    MetFree l M12 (head1 (Jvm.Cond.code M12 jdk_68_method_9_code 3 none :: ws) ({ frames := 3, cells := 1, slots := 34, locals := 48 } : Room)) (fun a U => a = #[(.ref r0), (vI 26)] ∧ Z.Warmed39 U.vm ∧ U.heap = h0) (fun _ _ _ _ _ => True) (fun _ U o U' => ∃ v L, o = .returned v ∧ Q_rm_ensG_26_16_0 Z r0 rv kv vv h0 n0 v U'.heap L ∧ FrameEnd U o U' L ({ frames := 3, cells := 1, slots := 34, locals := 48 } : Room).cells ({ frames := 3, cells := 1, slots := 34, locals := 48 } : Room).slots) := by
  refine MetFree.of_bodySF (plainFor_of_name pn_1) hisR ?_
  intro p e s m args below meth c s₁ Bd hml0 hP hK
  obtain ⟨rfl, hZ, hh⟩ := hP
  have hx := Bd.exec
  have hby := Bd.bytes
  have hml : c.maxLocals = 3 := hml0
  have hown : s.vm.findClass "java/lang/AbstractStringBuilder" = some m.cls := findClass_of_methodNamed Bd.named
  have hnm := (name_of_methodNamed Bd.named Bd.method).1
  have X0 : Stand p l e ({ frames := 3, cells := 1, slots := 34, locals := 48 } : Room) s m #[(.ref r0), (vI 26)] below meth c s₁ [] 0 0 := Stand.of_body Bd
  have e0 : s₁.heap = h0 := by rw [← hh, Bd.state]; rfl
  have N0 := Fr.nil n0
  have pre0 : ∀ t, Steps p.tables e below (s₁.setTop (mkF m 0 #[vr r0, vi (26 : Int32), uu] [])) t → Steps p.tables e below (s₁.setTop (entryFrame m #[(.ref r0), (vI 26)] 3)) t := fun t k => castTop (ef_44 m r0) k
  obtain ⟨T1, X1, e1, st1⟩ := getF X0 hx hZ hown (host := "") (Or.inl (wd hw 60 rfl)) Via.refl e0 uv (g := (mkF m 1 #[vr r0, vi (26 : Int32), uu] [(.ref r0)])) rfl rfl (hb hby d16_1)
  obtain ⟨cl2, Ar2, q2, S2, Nn2, H2, G2⟩ := (id uV)
  obtain ⟨T3, X3, e3, st3⟩ := getF X1 hx hZ hown (host := "") (Or.inl (wd hw 62 rfl)) Via.refl e1 uc (g := (mkF m 6 #[vr r0, vi (26 : Int32), uu] [(.ref r0), (vI 16)])) rfl rfl (hb hby d16_6)
  obtain ⟨T4, X4, e4, st4⟩ := getF X3 hx hZ hown (host := "") (Or.inl (wd hw 60 rfl)) Via.refl e3 uv (g := (mkF m 19 #[vr r0, vi (26 : Int32), vi (16 : Int32)] [(.ref r0), (.ref r0)])) rfl rfl (hb hby d16_19)
  obtain ⟨cq5, kq5, q5a, q5b, q5c⟩ := isOf hZ e4 uE
  obtain ⟨_, _, ⟨T5, Lw5, kw5, nw5⟩, -, X5, ⟨Lc5, hQ5, lq5, yq5, zq5⟩, st5⟩ := X4.virtualBack hx (y := M34) (z := M34) hown (mvT hZ (wd hw 92 rfl)) (mvT hZ (own_decl (wd hw 93 rfl) (wd hw 96 rfl))) (notFace_of_selects (args := #[]) (mvT hZ (wd hw 95 rfl))) (mvT hZ (wd hw 95 rfl)) (mvT hZ (wd hw 93 rfl)) (by decide) (backOf (W := 2) (rm_nc_26_16 l Z a0 hw [] r0 rv kv vv h0 n0 Z0 uE uv uc uV) hZ (wd hw 96 rfl) (wd hw 56 rfl) (by decide) (by decide)) q5a q5c (g := (mkF m 24 #[vr r0, vi (26 : Int32), vi (16 : Int32)] [(vI 26), (.ref r0), (.ref rv), (.ref r0)])) rfl (by rw [hml]; rfl) (Steps.refl _) (argsL := [(vI 26)]) (rest := [(.ref rv), (.ref r0)]) (lenOf pd_17 rfl) rfl (by show 2 * 0 + _ ≤ _; exact Nat.le_of_eq rfl) (hb hby d16_24) (fun _ _ => ⟨rfl, e4, (by decide : 0 + 0 ≤ _), (by decide : 0 + 0 ≤ _)⟩)
  dsimp only [Pt.U, Pt.locs, Pt.cells, Pt.slots] at X5 lq5 yq5 zq5 st5 hQ5
  have X5 := own_reb X5 lq5 yq5 zq5
  obtain ⟨rfl, Nq5, eh5⟩ := hQ5
  have N5 := Fr.app N0 Nq5
  obtain ⟨T6, X6, e6, st6⟩ := getF X5 hx hZ hown (host := "") (Or.inl (wd hw 62 rfl)) Via.refl eh5 uc (g := (mkF m 28 #[vr r0, vi (26 : Int32), vi (16 : Int32)] [(.ref r0), (vI 34), (.ref rv), (.ref r0)])) rfl rfl (hb hby d16_28)
  obtain ⟨_, _, ⟨T7, Lw7, kw7, nw7⟩, -, X7, ⟨Lc7, hQ7, lq7, yq7, zq7⟩, st7⟩ := Jvm.LawKit.callS X6 hx (y := M35) hown (mvT hZ (wd hw 107 rfl)) (mvT hZ (wd hw 108 rfl)) (mvT hZ (wd hw 109 rfl)) (mvT hZ (wd hw 110 rfl)) (by decide) (backOf (W := 1) (rm_co_16_34 l Z a0 hw [] rv kv vv h0 n0 Z0 uV) hZ (wd hw 110 rfl) (wd hw 109 rfl) (by decide) (by decide)) (g := (mkF m 32 #[vr r0, vi (26 : Int32), vi (16 : Int32)] [(vI 34), (.ref rv), (.ref r0)])) rfl (by rw [hml]; rfl) (argsL := [(.ref rv), (vI 34)]) (rest := [(.ref r0)]) (lenOf pd_18 rfl) rfl (by show 2 * 0 + _ ≤ _; exact Nat.le_of_eq rfl) (hb hby d16_32) (fun _ _ => ⟨rfl, e6, (by decide : 0 + 1 ≤ _), (by decide : 0 + 34 ≤ _)⟩)
  dsimp only [Pt.U, Pt.locs, Pt.cells, Pt.slots] at X7 lq7 yq7 zq7 st7 hQ7
  have X7 := own_reb X7 lq7 yq7 zq7
  obtain ⟨nb_7, nk_7, nv_7, rfl, Nq7, Kq7, f7_0, f7_1, f7_2, f7_3, f7_4⟩ := hQ7
  have N7 := Fr.app N5 Nq7
  have ne_r0_nb_7 : r0 ≠ nb_7 := Nat.ne_of_lt (Nat.lt_of_lt_of_le uE.lt f7_0)
  have ne_rv_nb_7 : rv ≠ nb_7 := Nat.ne_of_lt (Nat.lt_of_lt_of_le uV.lt f7_0)
  have g_nb_7 : n0 ≤ nb_7 := Nat.le_trans Z0 f7_0
  have sz_nb_7 : h0.size ≤ nb_7 := Nat.le_trans (Keep.refl h0 [r0]).1 f7_0
  have K7 : Keep h0 T7.heap [r0] := (Keep.refl h0 [r0]).trans Kq7 all0
  have Z7 : n0 ≤ T7.heap.size := Nat.le_trans Z0 Kq7.1
  have c9 := (uE.keep Kq7)
  have c10 := (uv.keep Kq7 nin0)
  obtain ⟨T8, h8, X8, e8, W8, st8⟩ := putF X7 hx hZ hown (host := "") (Or.inl (wd hw 60 rfl)) Via.refl rfl c10 c9 (Or.inl (wd hw 61 rfl)) (wd hw 47 rfl) (ty := (.array .byte)) (by decide) rfl rfl (g := (mkF m 35 #[vr r0, vi (26 : Int32), vi (16 : Int32)] [(.ref nb_7), (.ref r0)])) rfl rfl (hb hby d16_35)
  have Fw8 := c10.same W8
  have N8 := Fr.snoc X8 N7 ug
  have K8 : Keep h0 h8 [r0] := K7.wr W8 (Or.inl (List.mem_of_getElem? (i := 0) rfl))
  have Z8 : n0 ≤ h8.size := by rw [W8.size]; exact Z7
  have c11 := ((uc.keep Kq7 nin0).other W8 (Or.inr (slot_ne (Or.inl (wd hw 63 rfl)) (Or.inl (wd hw 61 rfl)) (by decide) (t := .byte) (t' := (.array .byte)) (by decide) (by decide))))
  have c12 := ((uk.keep Kq7 nin0).other W8 (Or.inr (slot_ne (Or.inl (wd hw 86 rfl)) (Or.inl (wd hw 61 rfl)) (by decide) (t := .int) (t' := (.array .byte)) (by decide) (by decide))))
  have c13 := (f7_1.wr W8)
  have c14 := (f7_2.other W8 (Ne.symm ne_r0_nb_7))
  obtain ⟨fs, hr, hrun, hended, hW, hsame⟩ := X8.leave (v := none) (fun _ => rfl)
  refine ⟨_, _, pre0 _ ?_, hrun, hended, _, _, rfl, ?_, ⟨_, rfl⟩, hW, hsame.mono (by decide) (by decide)⟩
  · show SS p e below s₁ (mkF m 0 #[vr r0, vi (26 : Int32), uu] []) _
    refine XS.aloadN X0.here hx rfl (hb hby d16_0) rfl rfl ?_
    refine st1 _ ?_
    show SS p e below T1 (mkF m 4 #[vr r0, vi (26 : Int32), uu] [(.ref rv)]) _
    refine X1.arraylength hx (own_at e1 Ar2.1) (State.isArrayOf_alike hZ.alike Ar2.2.1) (g := (mkF m 4 #[vr r0, vi (26 : Int32), uu] [(.ref rv)])) rfl rfl (hb hby d16_4) _ ?_
    rw [len_of S2 Nn2]
    refine XS.aloadN X1.here hx rfl (hb hby d16_5) rfl rfl ?_
    refine st3 _ ?_
    show SS p e below T3 (mkF m 9 #[vr r0, vi (26 : Int32), uu] [z0, (vI 16)]) _
    refine XS.ishr X3.here hx rfl (hb hby d16_9) rfl ?_
    show SS p e below T3 (mkF m 10 #[vr r0, vi (26 : Int32), uu] [(.int ((16 : Int32) >>> ((0 : Int32) &&& 31)))]) _
    rw [own_shr0 _]
    refine XS.istoreN X3.here hx rfl (hb hby d16_10) rfl (l' := #[vr r0, vi (26 : Int32), vi (16 : Int32)]) rfl ?_
    refine XS.iloadN X3.here hx rfl (hb hby d16_11) rfl ?_
    refine XS.iloadN X3.here hx rfl (hb hby d16_12) rfl ?_
    refine XS.isub X3.here hx rfl (hb hby d16_13) rfl ?_
    show SS p e below T3 (mkF m 14 #[vr r0, vi (26 : Int32), vi (16 : Int32)] [(.int ((26 : Int32) - (16 : Int32)))]) _
    refine XS.ifNo X3.here hx rfl (hb hby d16_14) rfl ((if0 _ _).trans (tlt (by decide : (0 : Int32) < ((26 : Int32) - (16 : Int32)))).2.2.2) ?_
    refine XS.aloadN X3.here hx rfl (hb hby d16_17) rfl rfl ?_
    refine XS.aloadN X3.here hx rfl (hb hby d16_18) rfl rfl ?_
    refine st4 _ ?_
    refine XS.aloadN X4.here hx rfl (hb hby d16_22) rfl rfl ?_
    refine XS.iloadN X4.here hx rfl (hb hby d16_23) rfl ?_
    show SS p e below T4 (mkF m 24 #[vr r0, vi (26 : Int32), vi (16 : Int32)] [(vI 26), (.ref r0), (.ref rv), (.ref r0)]) _
    refine st5.trans ?_
    refine XS.aloadN X5.here hx rfl (hb hby d16_27) rfl rfl ?_
    refine st6 _ ?_
    show SS p e below T6 (mkF m 31 #[vr r0, vi (26 : Int32), vi (16 : Int32)] [z0, (vI 34), (.ref rv), (.ref r0)]) _
    refine XS.ishl X6.here hx rfl (hb hby d16_31) rfl ?_
    show SS p e below T6 (mkF m 32 #[vr r0, vi (26 : Int32), vi (16 : Int32)] [(.int ((34 : Int32) <<< ((0 : Int32) &&& 31))), (.ref rv), (.ref r0)]) _
    rw [(show ((34 : Int32) <<< ((0 : Int32) &&& 31)) = (34 : Int32) from by decide)]
    show SS p e below T6 (mkF m 32 #[vr r0, vi (26 : Int32), vi (16 : Int32)] [(vI 34), (.ref rv), (.ref r0)]) _
    refine st7 _ ?_
    refine st8 _ ?_
    exact X8.returnOut hx Bd.returns (hb hby d16_38) hr
  · show Q_rm_ensG_26_16_0 Z r0 rv kv vv h0 n0 _ T8.heap _
    rw [e8]
    exact ⟨nb_7, nk_7, nv_7, rfl, N8, K8, Fw8, c11, c12, sz_nb_7, c13, c14, f7_3, f7_4⟩
def Q_rm_app_asb_0_26_16 (Z : State) (r0 : Addr) (r1 : Addr) (zc : Int32) (rv : Addr) (kv : ClassId) (vv : List Value) (rt : Addr) (kt : ClassId) (vt : List Value) (h0 : Heap) (n0 : Nat) (v : Option Value) (h : Heap) (L : List Loc) : Prop := ∃ (nb : Addr), ∃ (nk : ClassId), ∃ (nv : List Value), (v = some (.ref r0) ∧ Fr n0 L ∧ Keep h0 h [r0] ∧ Fld Z h r0 "java/lang/AbstractStringBuilder" "value" "[B" (.ref nb) ∧ Fld Z h r0 "java/lang/AbstractStringBuilder" "coder" "B" z0 ∧ Fld Z h r0 "java/lang/AbstractStringBuilder" "count" "I" (vI 26) ∧ h0.size ≤ nb ∧ Exa Z h nb "[B" ∧ Arv Z h nb nk .byte (34 : Int32) nv z0 ∧ nv.length = 34 ∧ nv = own_put 0 26 (own_grow 16 34 vv) vt)
set_option maxRecDepth 65536 in
set_option maxHeartbeats 40000000 in
theorem rm_app_asb_0_26_16 (l : Launch) (Z : State) (a0 : Array Value) (hw : ∀ d ∈ tables_1, d.before a0 Z = true) (ws : List Jvm.Cond) (r0 : Addr) (r1 : Addr) (zc : Int32) (rv : Addr) (kv : ClassId) (vv : List Value) (rt : Addr) (kt : ClassId) (vt : List Value) (h0 : Heap) (n0 : Nat) (Z0 : n0 ≤ h0.size) (uO : Old Z n0 h0) (uS : Sta Z Z.heap "java/lang/String" "COMPACT_STRINGS" "Z" (.int zc)) (uP : ¬ zc = 0) (uE : Exa Z h0 r0 "java/lang/StringBuilder") (uv : Fld Z h0 r0 "java/lang/AbstractStringBuilder" "value" "[B" (.ref rv)) (uc : Fld Z h0 r0 "java/lang/AbstractStringBuilder" "coder" "B" z0) (uV : Arv Z h0 rv kv .byte (16 : Int32) vv z0) (uL : vv.length = 16) (uk : Fld Z h0 r0 "java/lang/AbstractStringBuilder" "count" "I" z0) (us : Exa Z h0 r1 "java/lang/String") (usv : Fld Z h0 r1 "java/lang/String" "value" "[B" (.ref rt)) (usc : Fld Z h0 r1 "java/lang/String" "coder" "B" z0) (usV : Arv Z h0 rt kt .byte (26 : Int32) vt z0) (ug : n0 ≤ r0) (ugv : n0 ≤ rv) :
    MetFree l M15 (head1 (Jvm.Cond.code M15 jdk_68_method_22_code 3 (some (.object "java/lang/AbstractStringBuilder")) :: ws) ({ frames := 4, cells := 1, slots := 34, locals := 62 } : Room)) (fun a U => a = #[(.ref r0), (.ref r1)] ∧ Z.Warmed39 U.vm ∧ U.heap = h0) (fun _ _ _ _ _ => True) (fun _ U o U' => ∃ v L, o = .returned v ∧ Q_rm_app_asb_0_26_16 Z r0 r1 zc rv kv vv rt kt vt h0 n0 v U'.heap L ∧ FrameEnd U o U' L ({ frames := 4, cells := 1, slots := 34, locals := 62 } : Room).cells ({ frames := 4, cells := 1, slots := 34, locals := 62 } : Room).slots) := by
  refine MetFree.of_bodySF (plainFor_of_name pn_1) hisR ?_
  intro p e s m args below meth c s₁ Bd hml0 hP hK
  obtain ⟨rfl, hZ, hh⟩ := hP
  have hx := Bd.exec
  have hby := Bd.bytes
  have hml : c.maxLocals = 3 := hml0
  have hown : s.vm.findClass "java/lang/AbstractStringBuilder" = some m.cls := findClass_of_methodNamed Bd.named
  have hnm := (name_of_methodNamed Bd.named Bd.method).1
  have X0 : Stand p l e ({ frames := 4, cells := 1, slots := 34, locals := 62 } : Room) s m #[(.ref r0), (.ref r1)] below meth c s₁ [] 0 0 := Stand.of_body Bd
  have e0 : s₁.heap = h0 := by rw [← hh, Bd.state]; rfl
  have N0 := Fr.nil n0
  have pre0 : ∀ t, Steps p.tables e below (s₁.setTop (mkF m 0 #[vr r0, vr r1, uu] [])) t → Steps p.tables e below (s₁.setTop (entryFrame m #[(.ref r0), (.ref r1)] 3)) t := fun t k => castTop (ef_15 m r0 r1) k
  obtain ⟨cq1, kq1, q1a, q1b, q1c⟩ := isOf hZ e0 us
  obtain ⟨_, _, ⟨T1, Lw1, kw1, nw1⟩, -, X1, ⟨Lc1, hQ1, lq1, yq1, zq1⟩, st1⟩ := X0.virtualBack hx (y := M3) (z := M3) hown (mvT hZ (wd hw 75 rfl)) (mvT hZ (wd hw 76 rfl)) (notFace_of_selects (args := #[]) (mvT hZ (wd hw 78 rfl))) (mvT hZ (wd hw 78 rfl)) (mvT hZ (wd hw 77 rfl)) (by decide) (backOf (W := 0) (rmLen l Z a0 hw [] r1 zc rt kt (26 : Int32) vt h0 n0 Z0 uO uS uP us usv usc usV) hZ (wd hw 79 rfl) (wd hw 6 rfl) (by decide) (by decide)) q1a q1c (g := (mkF m 10 #[vr r0, vr r1, uu] [(.ref r1)])) rfl (by rw [hml]; rfl) (Steps.refl _) (argsL := []) (rest := []) (lenOf pd_2 rfl) rfl (by show 2 * 0 + _ ≤ _; exact Nat.le_of_eq rfl) (hb hby d13_10) (fun _ _ => ⟨rfl, e0, (by decide : 0 + 0 ≤ _), (by decide : 0 + 0 ≤ _)⟩)
  dsimp only [Pt.U, Pt.locs, Pt.cells, Pt.slots] at X1 lq1 yq1 zq1 st1 hQ1
  have X1 := own_reb X1 lq1 yq1 zq1
  obtain ⟨rfl, Nq1, eh1⟩ := hQ1
  have N1 := Fr.app N0 Nq1
  obtain ⟨T2, X2, e2, st2⟩ := getF X1 hx hZ hown (host := "") (Or.inl (wd hw 85 rfl)) Via.refl eh1 uk (g := (mkF m 16 #[vr r0, vr r1, vi (26 : Int32)] [(.ref r0), (.ref r0)])) rfl rfl (hb hby d13_16)
  obtain ⟨cq3, kq3, q3a, q3b, q3c⟩ := isOf hZ e2 uE
  obtain ⟨_, _, ⟨T3, Lw3, kw3, nw3⟩, -, X3, ⟨Lc3, hQ3, lq3, yq3, zq3⟩, st3⟩ := X2.virtualBack hx (y := M12) (z := M12) hown (mvT hZ (wd hw 87 rfl)) (mvT hZ (own_decl (wd hw 88 rfl) (wd hw 91 rfl))) (notFace_of_selects (args := #[]) (mvT hZ (wd hw 90 rfl))) (mvT hZ (wd hw 90 rfl)) (mvT hZ (wd hw 88 rfl)) (by decide) (backOf (W := 0) (rm_ensG_26_16_0 l Z a0 hw [] r0 rv kv vv h0 n0 Z0 uE uv uc uV uk ug) hZ (wd hw 91 rfl) (wd hw 56 rfl) (by decide) (by decide)) q3a q3c (g := (mkF m 21 #[vr r0, vr r1, vi (26 : Int32)] [(vI 26), (.ref r0)])) rfl (by rw [hml]; rfl) (Steps.refl _) (argsL := [(vI 26)]) (rest := []) (lenOf pd_1 rfl) rfl (by show 2 * 0 + _ ≤ _; exact Nat.le_of_eq rfl) (hb hby d13_21) (fun _ _ => ⟨rfl, e2, (by decide : 0 + 1 ≤ _), (by decide : 0 + 34 ≤ _)⟩)
  dsimp only [Pt.U, Pt.locs, Pt.cells, Pt.slots] at X3 lq3 yq3 zq3 st3 hQ3
  have X3 := own_reb X3 lq3 yq3 zq3
  obtain ⟨nb_3, nk_3, nv_3, rfl, Nq3, Kq3, f3_0, f3_1, f3_2, f3_3, f3_4, f3_5, f3_6, f3_7⟩ := hQ3
  have N3 := Fr.app N1 Nq3
  have ne_r0_nb_3 : r0 ≠ nb_3 := Nat.ne_of_lt (Nat.lt_of_lt_of_le uE.lt f3_3)
  have ne_rv_nb_3 : rv ≠ nb_3 := Nat.ne_of_lt (Nat.lt_of_lt_of_le uV.lt f3_3)
  have ne_r1_nb_3 : r1 ≠ nb_3 := Nat.ne_of_lt (Nat.lt_of_lt_of_le us.lt f3_3)
  have ne_rt_nb_3 : rt ≠ nb_3 := Nat.ne_of_lt (Nat.lt_of_lt_of_le usV.lt f3_3)
  have g_nb_3 : n0 ≤ nb_3 := Nat.le_trans Z0 f3_3
  have sz_nb_3 : h0.size ≤ nb_3 := Nat.le_trans (Keep.refl h0 [r0]).1 f3_3
  have K3 : Keep h0 T3.heap [r0] := (Keep.refl h0 [r0]).trans Kq3 (allS (Or.inl (List.mem_of_getElem? (i := 0) rfl)) all0)
  have Z3 : n0 ≤ T3.heap.size := Nat.le_trans Z0 Kq3.1
  obtain ⟨T4, X4, e4, st4⟩ := getF X3 hx hZ hown (host := "") (Or.inl (wd hw 85 rfl)) Via.refl rfl f3_2 (g := (mkF m 26 #[vr r0, vr r1, vi (26 : Int32)] [(.ref r0), (.ref r0)])) rfl rfl (hb hby d13_26)
  have c6 := (uO.keep Kq3 (allS ug all0))
  have c7 := (uE.keep Kq3)
  have c8 := (us.keep Kq3)
  have c9 := (usv.keep Kq3 (ninS (Exa.ne us uE (by decide)) nin0))
  have c10 := (usc.keep Kq3 (ninS (Exa.ne us uE (by decide)) nin0))
  have c11 := (usV.keep Kq3 (ninS (Ne.symm (Exa.neArv uE usV (wd hw 47 rfl))) nin0))
  obtain ⟨cq5, kq5, q5a, q5b, q5c⟩ := isOf hZ e4 c7
  obtain ⟨_, _, ⟨T5, Lw5, kw5, nw5⟩, -, X5, ⟨Lc5, hQ5, lq5, yq5, zq5⟩, st5⟩ := X4.virtualBack hx (y := M14) (z := M14) hown (mvT hZ (wd hw 118 rfl)) (mvT hZ (own_decl (wd hw 119 rfl) (wd hw 122 rfl))) (notFace_of_selects (args := #[]) (mvT hZ (wd hw 121 rfl))) (mvT hZ (wd hw 121 rfl)) (mvT hZ (wd hw 119 rfl)) (by decide) (backOf (W := 0) (rm_ps_0_26_34 l Z a0 hw [] r0 r1 zc nb_3 nk_3 nv_3 rt kt vt T3.heap n0 Z3 c6 uS uP c7 f3_0 f3_1 f3_5 f3_6 c8 c9 c10 c11 g_nb_3) hZ (wd hw 122 rfl) (wd hw 56 rfl) (by decide) (by decide)) q5a q5c (g := (mkF m 30 #[vr r0, vr r1, vi (26 : Int32)] [(.ref r1), z0, (.ref r0)])) rfl (by rw [hml]; rfl) (Steps.refl _) (argsL := [z0, (.ref r1)]) (rest := []) (lenOf pd_5 rfl) rfl (by show 2 * 0 + _ ≤ _; exact Nat.le_of_eq rfl) (hb hby d13_30) (fun _ _ => ⟨rfl, e4, (by decide : 1 + 0 ≤ _), (by decide : 34 + 0 ≤ _)⟩)
  dsimp only [Pt.U, Pt.locs, Pt.cells, Pt.slots] at X5 lq5 yq5 zq5 st5 hQ5
  have X5 := own_reb X5 lq5 yq5 zq5
  obtain ⟨nv_5, rfl, Nq5, Kq5, f5_0, f5_1, f5_2⟩ := hQ5
  have N5 := Fr.app N3 Nq5
  have K5 : Keep h0 T5.heap [r0] := K3.trans Kq5 (allS (Or.inr sz_nb_3) all0)
  have Z5 : n0 ≤ T5.heap.size := Nat.le_trans Z3 Kq5.1
  have c13 := (f3_2.keep Kq5 (ninS ne_r0_nb_3 nin0))
  obtain ⟨T12, X12, e12, st12⟩ := getF X5 hx hZ hown (host := "") (Or.inl (wd hw 85 rfl)) Via.refl rfl c13 (g := (mkF m 35 #[vr r0, vr r1, vi (26 : Int32)] [(.ref r0), (.ref r0)])) rfl rfl (hb hby d13_35)
  have c15 := (c7.keep Kq5)
  obtain ⟨T14, h14, X14, e14, W14, st14⟩ := putF X12 hx hZ hown (host := "") (Or.inl (wd hw 85 rfl)) Via.refl e12 c13 c15 (Or.inl (wd hw 86 rfl)) (wd hw 47 rfl) (ty := .int) (by decide) rfl rfl (g := (mkF m 40 #[vr r0, vr r1, vi (26 : Int32)] [(vI 26), (.ref r0)])) rfl rfl (hb hby d13_40)
  have Fw14 := c13.same W14
  have N14 := Fr.snoc X14 N5 ug
  have K14 : Keep h0 h14 [r0] := K5.wr W14 (Or.inl (List.mem_of_getElem? (i := 0) rfl))
  have Z14 : n0 ≤ h14.size := by rw [W14.size]; exact Z5
  have c16 := ((f3_0.keep Kq5 (ninS ne_r0_nb_3 nin0)).other W14 (Or.inr (slot_ne (Or.inl (wd hw 61 rfl)) (Or.inl (wd hw 86 rfl)) (by decide) (t := (.array .byte)) (t' := .int) (by decide) (by decide))))
  have c17 := ((f3_1.keep Kq5 (ninS ne_r0_nb_3 nin0)).other W14 (Or.inr (slot_ne (Or.inl (wd hw 63 rfl)) (Or.inl (wd hw 86 rfl)) (by decide) (t := .byte) (t' := .int) (by decide) (by decide))))
  have c18 := ((f3_4.keep Kq5).wr W14)
  have c19 := (f5_0.other W14 (Ne.symm ne_r0_nb_3))
  obtain ⟨fs, hr, hrun, hended, hW, hsame⟩ := X14.leave (v := some (.ref r0)) (fun h => by rw [Bd.returns] at h; cases h)
  refine ⟨_, _, pre0 _ ?_, hrun, hended, _, _, rfl, ?_, ⟨_, rfl⟩, hW, hsame.mono (by decide) (by decide)⟩
  · show SS p e below s₁ (mkF m 0 #[vr r0, vr r1, uu] []) _
    refine XS.aloadN X0.here hx rfl (hb hby d13_0) rfl rfl ?_
    show SS p e below s₁ (mkF m 1 #[vr r0, vr r1, uu] [(.ref r1)]) _
    refine XS.ifnonnullYes X0.here hx rfl (pc0 := 1) (pc' := 9) rfl (hb hby d13_1) rfl (by decide) (by decide) ?_
    refine XS.aloadN X0.here hx rfl (hb hby d13_9) rfl rfl ?_
    show SS p e below s₁ (mkF m 10 #[vr r0, vr r1, uu] [(.ref r1)]) _
    refine st1.trans ?_
    refine XS.istoreN X1.here hx rfl (hb hby d13_13) rfl (l' := #[vr r0, vr r1, vi (26 : Int32)]) rfl ?_
    refine XS.aloadN X1.here hx rfl (hb hby d13_14) rfl rfl ?_
    refine XS.aloadN X1.here hx rfl (hb hby d13_15) rfl rfl ?_
    refine st2 _ ?_
    refine XS.iloadN X2.here hx rfl (hb hby d13_19) rfl ?_
    refine XS.iadd X2.here hx rfl (hb hby d13_20) rfl ?_
    show SS p e below T2 (mkF m 21 #[vr r0, vr r1, vi (26 : Int32)] [(.int ((0 : Int32) + (26 : Int32))), (.ref r0)]) _
    rw [(show ((0 : Int32) + (26 : Int32)) = (26 : Int32) from by decide)]
    show SS p e below T2 (mkF m 21 #[vr r0, vr r1, vi (26 : Int32)] [(vI 26), (.ref r0)]) _
    refine st3.trans ?_
    refine XS.aloadN X3.here hx rfl (hb hby d13_24) rfl rfl ?_
    refine XS.aloadN X3.here hx rfl (hb hby d13_25) rfl rfl ?_
    refine st4 _ ?_
    refine XS.aloadN X4.here hx rfl (hb hby d13_29) rfl rfl ?_
    show SS p e below T4 (mkF m 30 #[vr r0, vr r1, vi (26 : Int32)] [(.ref r1), z0, (.ref r0)]) _
    refine st5.trans ?_
    refine XS.aloadN X5.here hx rfl (hb hby d13_33) rfl rfl ?_
    refine XS.dup X5.here hx rfl (hb hby d13_34) rfl rfl ?_
    refine st12 _ ?_
    refine XS.iloadN X12.here hx rfl (hb hby d13_38) rfl ?_
    refine XS.iadd X12.here hx rfl (hb hby d13_39) rfl ?_
    show SS p e below T12 (mkF m 40 #[vr r0, vr r1, vi (26 : Int32)] [(.int ((0 : Int32) + (26 : Int32))), (.ref r0)]) _
    rw [(show ((0 : Int32) + (26 : Int32)) = (26 : Int32) from by decide)]
    refine st14 _ ?_
    refine XS.aloadN X14.here hx rfl (hb hby d13_43) rfl rfl ?_
    exact retOut X14 hx Bd.returns rfl (Or.inr (Or.inr (Or.inr (Or.inr ⟨rfl, rfl, rfl⟩)))) (hb hby d13_44) hr
  · show Q_rm_app_asb_0_26_16 Z r0 r1 zc rv kv vv rt kt vt h0 n0 _ T14.heap _
    rw [e14]
    exact ⟨nb_3, nk_3, nv_5, rfl, N14, K14, c16, c17, Fw14, sz_nb_3, c18, c19, f5_1, (by rw [f5_2, f3_7])⟩
def Q_rm_app_sb_0_26_16 (Z : State) (r0 : Addr) (r1 : Addr) (zc : Int32) (rv : Addr) (kv : ClassId) (vv : List Value) (rt : Addr) (kt : ClassId) (vt : List Value) (h0 : Heap) (n0 : Nat) (v : Option Value) (h : Heap) (L : List Loc) : Prop := ∃ (nb : Addr), ∃ (nk : ClassId), ∃ (nv : List Value), (v = some (.ref r0) ∧ Fr n0 L ∧ Keep h0 h [r0] ∧ Fld Z h r0 "java/lang/AbstractStringBuilder" "value" "[B" (.ref nb) ∧ Fld Z h r0 "java/lang/AbstractStringBuilder" "coder" "B" z0 ∧ Fld Z h r0 "java/lang/AbstractStringBuilder" "count" "I" (vI 26) ∧ h0.size ≤ nb ∧ Exa Z h nb "[B" ∧ Arv Z h nb nk .byte (34 : Int32) nv z0 ∧ nv.length = 34 ∧ nv = own_put 0 26 (own_grow 16 34 vv) vt)
set_option maxRecDepth 65536 in
set_option maxHeartbeats 40000000 in
theorem rm_app_sb_0_26_16 (l : Launch) (Z : State) (a0 : Array Value) (hw : ∀ d ∈ tables_1, d.before a0 Z = true) (ws : List Jvm.Cond) (r0 : Addr) (r1 : Addr) (zc : Int32) (rv : Addr) (kv : ClassId) (vv : List Value) (rt : Addr) (kt : ClassId) (vt : List Value) (h0 : Heap) (n0 : Nat) (Z0 : n0 ≤ h0.size) (uO : Old Z n0 h0) (uS : Sta Z Z.heap "java/lang/String" "COMPACT_STRINGS" "Z" (.int zc)) (uP : ¬ zc = 0) (uE : Exa Z h0 r0 "java/lang/StringBuilder") (uv : Fld Z h0 r0 "java/lang/AbstractStringBuilder" "value" "[B" (.ref rv)) (uc : Fld Z h0 r0 "java/lang/AbstractStringBuilder" "coder" "B" z0) (uV : Arv Z h0 rv kv .byte (16 : Int32) vv z0) (uL : vv.length = 16) (uk : Fld Z h0 r0 "java/lang/AbstractStringBuilder" "count" "I" z0) (us : Exa Z h0 r1 "java/lang/String") (usv : Fld Z h0 r1 "java/lang/String" "value" "[B" (.ref rt)) (usc : Fld Z h0 r1 "java/lang/String" "coder" "B" z0) (usV : Arv Z h0 rt kt .byte (26 : Int32) vt z0) (ug : n0 ≤ r0) (ugv : n0 ≤ rv) :
    MetFree l M16 (head1 (Jvm.Cond.code M16 jdk_67_method_7_code 2 (some (.object "java/lang/StringBuilder")) :: ws) ({ frames := 5, cells := 1, slots := 34, locals := 76 } : Room)) (fun a U => a = #[(.ref r0), (.ref r1)] ∧ Z.Warmed39 U.vm ∧ U.heap = h0) (fun _ _ _ _ _ => True) (fun _ U o U' => ∃ v L, o = .returned v ∧ Q_rm_app_sb_0_26_16 Z r0 r1 zc rv kv vv rt kt vt h0 n0 v U'.heap L ∧ FrameEnd U o U' L ({ frames := 5, cells := 1, slots := 34, locals := 76 } : Room).cells ({ frames := 5, cells := 1, slots := 34, locals := 76 } : Room).slots) := by
  refine MetFree.of_bodySF (plainFor_of_name pn_2) hisR ?_
  intro p e s m args below meth c s₁ Bd hml0 hP hK
  obtain ⟨rfl, hZ, hh⟩ := hP
  have hx := Bd.exec
  have hby := Bd.bytes
  have hml : c.maxLocals = 2 := hml0
  have hown : s.vm.findClass "java/lang/StringBuilder" = some m.cls := findClass_of_methodNamed Bd.named
  have hnm := (name_of_methodNamed Bd.named Bd.method).1
  have X0 : Stand p l e ({ frames := 5, cells := 1, slots := 34, locals := 76 } : Room) s m #[(.ref r0), (.ref r1)] below meth c s₁ [] 0 0 := Stand.of_body Bd
  have e0 : s₁.heap = h0 := by rw [← hh, Bd.state]; rfl
  have N0 := Fr.nil n0
  have pre0 : ∀ t, Steps p.tables e below (s₁.setTop (mkF m 0 #[vr r0, vr r1] [])) t → Steps p.tables e below (s₁.setTop (entryFrame m #[(.ref r0), (.ref r1)] 2)) t := fun t k => castTop (ef_16 m r0 r1) k
  obtain ⟨_, _, ⟨T1, Lw1, kw1, nw1⟩, -, X1, ⟨Lc1, hQ1, lq1, yq1, zq1⟩, st1⟩ := superBack X0 hx hZ (y := M15) hown (wd hw 70 rfl) (own_same (wd hw 71 rfl) (own_face (wd hw 90 rfl) rfl) (by decide)) (wd hw 71 rfl) (wd hw 72 rfl) (by decide) (backOf (W := 0) (rm_app_asb_0_26_16 l Z a0 hw [] r0 r1 zc rv kv vv rt kt vt h0 n0 Z0 uO uS uP uE uv uc uV uL uk us usv usc usV ug ugv) hZ (wd hw 74 rfl) (wd hw 56 rfl) (by decide) (by decide)) e0 (Ins.self uE) (g := (mkF m 2 #[vr r0, vr r1] [(.ref r1), (.ref r0)])) rfl (by rw [hml]; rfl) (wd hw 74 rfl) (argsL := [(.ref r1)]) (rest := []) (lenOf pd_6 rfl) rfl (by show 2 * 0 + _ ≤ _; exact Nat.le_of_eq rfl) (hb hby d12_2) (fun _ _ => ⟨rfl, e0, (by decide : 0 + 1 ≤ _), (by decide : 0 + 34 ≤ _)⟩)
  dsimp only [Pt.U, Pt.locs, Pt.cells, Pt.slots] at X1 lq1 yq1 zq1 st1 hQ1
  have X1 := own_reb X1 lq1 yq1 zq1
  obtain ⟨nb_1, nk_1, nv_1, rfl, Nq1, Kq1, f1_0, f1_1, f1_2, f1_3, f1_4, f1_5, f1_6, f1_7⟩ := hQ1
  have N1 := Fr.app N0 Nq1
  have ne_r0_nb_1 : r0 ≠ nb_1 := Nat.ne_of_lt (Nat.lt_of_lt_of_le uE.lt f1_3)
  have ne_rv_nb_1 : rv ≠ nb_1 := Nat.ne_of_lt (Nat.lt_of_lt_of_le uV.lt f1_3)
  have ne_r1_nb_1 : r1 ≠ nb_1 := Nat.ne_of_lt (Nat.lt_of_lt_of_le us.lt f1_3)
  have ne_rt_nb_1 : rt ≠ nb_1 := Nat.ne_of_lt (Nat.lt_of_lt_of_le usV.lt f1_3)
  have g_nb_1 : n0 ≤ nb_1 := Nat.le_trans Z0 f1_3
  have sz_nb_1 : h0.size ≤ nb_1 := Nat.le_trans (Keep.refl h0 [r0]).1 f1_3
  have K1 : Keep h0 T1.heap [r0] := (Keep.refl h0 [r0]).trans Kq1 (allS (Or.inl (List.mem_of_getElem? (i := 0) rfl)) all0)
  have Z1 : n0 ≤ T1.heap.size := Nat.le_trans Z0 Kq1.1
  obtain ⟨fs, hr, hrun, hended, hW, hsame⟩ := X1.leave (v := some (.ref r0)) (fun h => by rw [Bd.returns] at h; cases h)
  refine ⟨_, _, pre0 _ ?_, hrun, hended, _, _, rfl, ?_, ⟨_, rfl⟩, hW, hsame.mono (by decide) (by decide)⟩
  · show SS p e below s₁ (mkF m 0 #[vr r0, vr r1] []) _
    refine XS.aloadN X0.here hx rfl (hb hby d12_0) rfl rfl ?_
    refine XS.aloadN X0.here hx rfl (hb hby d12_1) rfl rfl ?_
    show SS p e below s₁ (mkF m 2 #[vr r0, vr r1] [(.ref r1), (.ref r0)]) _
    refine st1.trans ?_
    refine XS.pop X1.here hx rfl (hb hby d12_5) rfl rfl ?_
    refine XS.aloadN X1.here hx rfl (hb hby d12_6) rfl rfl ?_
    exact retOut X1 hx Bd.returns rfl (Or.inr (Or.inr (Or.inr (Or.inr ⟨rfl, rfl, rfl⟩)))) (hb hby d12_7) hr
  · show Q_rm_app_sb_0_26_16 Z r0 r1 zc rv kv vv rt kt vt h0 n0 _ T1.heap _
    exact ⟨nb_1, nk_1, nv_1, rfl, N1, K1, f1_0, f1_1, f1_2, sz_nb_1, f1_4, f1_5, f1_6, f1_7⟩
theorem ef_45 (m : MethodId) (x0 : Addr) : entryFrame m #[(.ref x0)] 1 = mkF m 0 #[vr x0] [] := by first | (simp [entryFrame, mkF, argsToLocals, Value.category]; done) | rfl
theorem d9_0 : decode prog_2_method_4_code 0 = .ok (.new 8, 3) := by decide +kernel
theorem d9_3 : decode prog_2_method_4_code 3 = .ok (.dup, 1) := by decide +kernel
theorem d9_4 : decode prog_2_method_4_code 4 = .ok (.sipush 403, 3) := by decide +kernel
theorem d9_7 : decode prog_2_method_4_code 7 = .ok (.sipush 403, 3) := by decide +kernel
theorem d9_10 : decode prog_2_method_4_code 10 = .ok (.new 21, 3) := by decide +kernel
theorem d9_13 : decode prog_2_method_4_code 13 = .ok (.dup, 1) := by decide +kernel
theorem d9_14 : decode prog_2_method_4_code 14 = .ok (.invokespecial 23, 3) := by decide +kernel
theorem pd_19 : parseMethodDescriptor "()V" = some ⟨[], none⟩ := by decide +kernel
theorem d9_17 : decode prog_2_method_4_code 17 = .ok (.ldc 26, 2) := by decide +kernel
theorem d9_19 : decode prog_2_method_4_code 19 = .ok (.invokevirtual 28, 3) := by decide +kernel
theorem pd_20 : parseMethodDescriptor "(Ljava/lang/String;)Ljava/lang/StringBuilder;" = some ⟨[(.object "java/lang/String")], some (.object "java/lang/StringBuilder")⟩ := by decide +kernel
theorem d9_22 : decode prog_2_method_4_code 22 = .ok (.aload_n 0, 1) := by decide +kernel
theorem d9_23 : decode prog_2_method_4_code 23 = .ok (.invokevirtual 28, 3) := by decide +kernel
theorem d9_26 : decode prog_2_method_4_code 26 = .ok (.invokevirtual 32, 3) := by decide +kernel
theorem pd_21 : parseMethodDescriptor "()Ljava/lang/String;" = some ⟨[], some (.object "java/lang/String")⟩ := by decide +kernel
theorem d9_29 : decode prog_2_method_4_code 29 = .ok (.invokespecial 16, 3) := by decide +kernel
theorem pd_22 : parseMethodDescriptor "(IILjava/lang/String;)V" = some ⟨[.int, .int, (.object "java/lang/String")], none⟩ := by decide +kernel
theorem d9_32 : decode prog_2_method_4_code 32 = .ok (.areturn, 1) := by decide +kernel
def Q_rmF0 (Z : State) (r0 : Addr) (zc : Int32) (vu : Value) (vq : Value) (rt : Addr) (kt : ClassId) (h0 : Heap) (n0 : Nat) (v : Option Value) (h : Heap) (L : List Loc) : Prop := ∃ (nx : Addr), ∃ (nm : Addr), ∃ (nt : Addr), ∃ (nk : ClassId), (v = some (.ref nx) ∧ Fr n0 L ∧ Keep h0 h [] ∧ h0.size ≤ nx ∧ Exa Z h nx "com/example/plain_hub/plainhub/HubException" ∧ Fld Z h nx "com/example/plain_hub/plainhub/HubException" "status" "I" (vI 403) ∧ Fld Z h nx "com/example/plain_hub/plainhub/HubException" "code" "I" (vI 403) ∧ Fld Z h nx "java/lang/Throwable" "detailMessage" "Ljava/lang/String;" (.ref nm) ∧ Exa Z h nm "java/lang/String" ∧ Fld Z h nm "java/lang/String" "coder" "B" z0 ∧ Fld Z h nm "java/lang/String" "value" "[B" (.ref nt) ∧ Arv Z h nt nk .byte (26 : Int32) ((([73, 110, 115, 117, 102, 102, 105, 99, 105, 101, 110, 116, 32, 112, 101, 114, 109, 105, 115, 115, 105, 111, 110, 115, 58, 32] : List Int32).map (fun c => c.toInt8.toInt32)).map Value.int) z0)
set_option maxRecDepth 65536 in
set_option maxHeartbeats 40000000 in
theorem rmF0 (l : Launch) (Z : State) (a0 : Array Value) (hw : ∀ d ∈ tables_1, d.before a0 Z = true) (ws : List Jvm.Cond) (r0 : Addr) (zc : Int32) (vu : Value) (vq : Value) (rt : Addr) (kt : ClassId) (h0 : Heap) (n0 : Nat) (Z0 : n0 ≤ h0.size) (uO : Old Z n0 h0) (uS : Sta Z Z.heap "java/lang/String" "COMPACT_STRINGS" "Z" (.int zc)) (uP : ¬ zc = 0) (uLt : l.stackTraces = true) (uZu : Sta Z Z.heap "java/lang/Throwable" "UNASSIGNED_STACK" "[Ljava/lang/StackTraceElement;" vu) (uRu : vu.isRef = true) (uZs : Sta Z Z.heap "java/lang/Throwable" "SUPPRESSED_SENTINEL" "Ljava/util/List;" vq) (uRs : vq.isRef = true) (us : Exa Z h0 r0 "java/lang/String") (usv : Fld Z h0 r0 "java/lang/String" "value" "[B" (.ref rt)) (usc : Fld Z h0 r0 "java/lang/String" "coder" "B" z0) (usV : Arv Z h0 rt kt .byte (0 : Int32) ((([] : List Int32).map (fun c => c.toInt8.toInt32)).map Value.int) z0) :
    MetFree l M36 (head1 (Jvm.Cond.code M36 prog_2_method_4_code 1 (some (.object "com/example/plain_hub/plainhub/HubException")) :: ws) ({ frames := 7, cells := 9, slots := 2990, locals := 97 } : Room)) (fun a U => a = #[(.ref r0)] ∧ Z.Warmed39 U.vm ∧ U.heap = h0 ∧ CHv Z own_EL U.vm h0) (fun _ _ bl s _ => s.vm.MethodsKnown ∧ s.vm.FramesKnown bl) (fun _ U o U' => ∃ v L, o = .returned v ∧ Q_rmF0 Z r0 zc vu vq rt kt h0 n0 v U'.heap L ∧ CHr Z own_EL U.vm U.heap U'.vm U'.heap ∧ ReturnedEndW U o U' L ({ frames := 7, cells := 9, slots := 2990, locals := 97 } : Room).cells ({ frames := 7, cells := 9, slots := 2990, locals := 97 } : Room).slots) := by
  refine MetFree.of_bodySF (plainFor_of_name pn_8) hisR ?_
  intro p e s m args below meth c s₁ Bd hml0 hP hK
  obtain ⟨rfl, hZ, hh, hC0⟩ := hP
  have hx := Bd.exec
  have hby := Bd.bytes
  have hml : c.maxLocals = 1 := hml0
  have hown : s.vm.findClass "com/example/plain_hub/plainhub/HubException" = some m.cls := findClass_of_methodNamed Bd.named
  have hnm := (name_of_methodNamed Bd.named Bd.method).1
  have X0 : Stand p l e ({ frames := 7, cells := 9, slots := 2990, locals := 97 } : Room) (s.setVm s.vm) m #[(.ref r0)] below meth c s₁ [] 0 0 := Stand.of_body Bd
  have e0 : s₁.heap = h0 := by rw [← hh, Bd.state]; rfl
  have N0 := Fr.nil n0
  have pre0 : ∀ t, Steps p.tables e below (s₁.setTop (mkF m 0 #[vr r0] [])) t → Steps p.tables e below (s₁.setTop (entryFrame m #[(.ref r0)] 1)) t := fun t k => castTop (ef_45 m r0) k
  have hS0 : s.Since s.vm 0 := (State.WarmedH.refl s).since _
  have hk0 : 0 ≤ h0.size := Nat.zero_le _
  have R0 := CHr.refl hC0
  obtain ⟨T1, h1, X1, e1, E1, A1, D1, Un1, st1⟩ := newO X0 hx hZ hown (wd hw 44 rfl) (wd hw 45 rfl) (wd hw 42 rfl) e0 (g := (mkF m 0 #[vr r0] [])) rfl (hb hby d9_0) (by decide) (by decide)
  obtain ⟨b1, g1⟩ : ∃ z, z = h0.size := ⟨_, rfl⟩
  rw [← g1] at A1 D1 Un1 st1
  have ne_r0_b1 : r0 ≠ b1 := Nat.ne_of_lt (Nat.lt_of_lt_of_le us.lt (Nat.le_of_eq g1.symm))
  have ne_rt_b1 : rt ≠ b1 := Nat.ne_of_lt (Nat.lt_of_lt_of_le usV.lt (Nat.le_of_eq g1.symm))
  have Re2 := R0.trans (CHr.ext E1 hC0)
  have hCe2 := Re2.1
  have Ut1 : Unt h1 b1 := Un1
  have F1_cause : Fld Z h1 b1 "java/lang/Throwable" "cause" "Ljava/lang/Throwable;" .null := D1 (Or.inl (wd hw 196 rfl)) (ty := (.object "java/lang/Throwable")) (by decide)
  have F1_stackTrace : Fld Z h1 b1 "java/lang/Throwable" "stackTrace" "[Ljava/lang/StackTraceElement;" .null := D1 (Or.inl (wd hw 199 rfl)) (ty := (.array (.object "java/lang/StackTraceElement"))) (by decide)
  have F1_suppressedExceptions : Fld Z h1 b1 "java/lang/Throwable" "suppressedExceptions" "Ljava/util/List;" .null := D1 (Or.inl (wd hw 202 rfl)) (ty := (.object "java/util/List")) (by decide)
  have F1_detailMessage : Fld Z h1 b1 "java/lang/Throwable" "detailMessage" "Ljava/lang/String;" .null := D1 (Or.inl (wd hw 226 rfl)) (ty := (.object "java/lang/String")) (by decide)
  have F1_backtrace : Fld Z h1 b1 "java/lang/Throwable" "backtrace" "Ljava/lang/Object;" .null := D1 (Or.inl (wd hw 227 rfl)) (ty := (.object "java/lang/Object")) (by decide)
  have F1_depth : Fld Z h1 b1 "java/lang/Throwable" "depth" "I" z0 := D1 (Or.inl (wd hw 228 rfl)) (ty := .int) (by decide)
  have F1_status : Fld Z h1 b1 "com/example/plain_hub/plainhub/HubException" "status" "I" z0 := D1 (Or.inr (wd hw 232 rfl)) (ty := .int) (by decide)
  have F1_code : Fld Z h1 b1 "com/example/plain_hub/plainhub/HubException" "code" "I" z0 := D1 (Or.inr (wd hw 234 rfl)) (ty := .int) (by decide)
  have g_b1 : n0 ≤ b1 := Nat.le_trans Z0 (Nat.le_of_eq g1.symm)
  have sz_b1 : h0.size ≤ b1 := Nat.le_trans (Keep.refl h0 []).1 (Nat.le_of_eq g1.symm)
  have K1 : Keep h0 h1 [] := (Keep.refl h0 []).ext E1
  have Z1 : n0 ≤ h1.size := Nat.le_trans Z0 E1.1
  have hk1 : _ ≤ h1.size := Nat.le_trans hk0 E1.1
  obtain ⟨T3, h3, X3, e3, E3, A3, D3, Un3, st3⟩ := newO X1 hx hZ hown (wd hw 46 rfl) (wd hw 47 rfl) (wd hw 48 rfl) e1 (g := (mkF m 10 #[vr r0] [(vI 403), (vI 403), (.ref b1), (.ref b1)])) rfl (hb hby d9_10) (by decide) (by decide)
  obtain ⟨b3, g3⟩ : ∃ z, z = h1.size := ⟨_, rfl⟩
  rw [← g3] at A3 D3 Un3 st3
  have c4 := (us.ext E1)
  have ne_r0_b3 : r0 ≠ b3 := Nat.ne_of_lt (Nat.lt_of_lt_of_le c4.lt (Nat.le_of_eq g3.symm))
  have c5 := (usV.ext E1)
  have ne_rt_b3 : rt ≠ b3 := Nat.ne_of_lt (Nat.lt_of_lt_of_le c5.lt (Nat.le_of_eq g3.symm))
  have ne_b1_b3 : b1 ≠ b3 := Nat.ne_of_lt (Nat.lt_of_lt_of_le A1.lt (Nat.le_of_eq g3.symm))
  have Re6 := Re2.trans (CHr.ext E3 hCe2)
  have hCe6 := Re6.1
  have Ut3 : Unt h3 b3 := Un3
  have F3_value : Fld Z h3 b3 "java/lang/AbstractStringBuilder" "value" "[B" .null := D3 (Or.inl (wd hw 61 rfl)) (ty := (.array .byte)) (by decide)
  have F3_coder : Fld Z h3 b3 "java/lang/AbstractStringBuilder" "coder" "B" z0 := D3 (Or.inl (wd hw 63 rfl)) (ty := .byte) (by decide)
  have F3_count : Fld Z h3 b3 "java/lang/AbstractStringBuilder" "count" "I" z0 := D3 (Or.inl (wd hw 86 rfl)) (ty := .int) (by decide)
  have g_b3 : n0 ≤ b3 := Nat.le_trans Z1 (Nat.le_of_eq g3.symm)
  have sz_b3 : h0.size ≤ b3 := Nat.le_trans K1.1 (Nat.le_of_eq g3.symm)
  have K3 : Keep h0 h3 [] := K1.ext E3
  have Z3 : n0 ≤ h3.size := Nat.le_trans Z1 E3.1
  have hk3 : _ ≤ h3.size := Nat.le_trans hk1 E3.1
  have c8 := ((uO.ext E1).ext E3)
  obtain ⟨_, _, ⟨T7, Lw7, kw7, nw7⟩, -, X7, ⟨Lc7, hQ7, lq7, yq7, zq7⟩, st7⟩ := X3.specialBack hx (y := M7) rfl hown (mvT hZ (wd hw 49 rfl)) (mvT hZ (wd hw 50 rfl)) (mvT hZ (wd hw 51 rfl)) (by decide) (backOf (W := 5) (rmSB l Z a0 hw [] b3 zc h3 n0 Z3 c8 uS uP A3 F3_value F3_coder F3_count g_b3) hZ (wd hw 51 rfl) (wd hw 48 rfl) (by decide) (by decide)) (g := (mkF m 14 #[vr r0] [(.ref b3), (.ref b3), (vI 403), (vI 403), (.ref b1), (.ref b1)])) rfl (by rw [hml]; rfl) (Steps.refl _) (a := b3) (argsL := []) (rest := [(.ref b3), (vI 403), (vI 403), (.ref b1), (.ref b1)]) (lenOf pd_19 rfl) rfl (by show 2 * 0 + _ ≤ _; exact Nat.le_of_eq rfl) (hb hby d9_14) (fun _ _ => ⟨rfl, e3, (by decide : 2 + 1 ≤ _), (by decide : 12 + 16 ≤ _)⟩)
  dsimp only [Pt.U, Pt.locs, Pt.cells, Pt.slots] at X7 lq7 yq7 zq7 st7 hQ7
  have X7 := own_reb X7 lq7 yq7 zq7
  obtain ⟨nb_7, nk_7, rfl, Nq7, Kq7, f7_0, f7_1, f7_2, f7_3, f7_4, f7_5⟩ := hQ7
  have N7 := Fr.app N0 Nq7
  have c9 := ((us.ext E1).ext E3)
  have ne_r0_nb_7 : r0 ≠ nb_7 := Nat.ne_of_lt (Nat.lt_of_lt_of_le c9.lt f7_3)
  have c10 := ((usV.ext E1).ext E3)
  have ne_rt_nb_7 : rt ≠ nb_7 := Nat.ne_of_lt (Nat.lt_of_lt_of_le c10.lt f7_3)
  have c11 := (A1.ext E3)
  have ne_b1_nb_7 : b1 ≠ nb_7 := Nat.ne_of_lt (Nat.lt_of_lt_of_le c11.lt f7_3)
  have ne_b3_nb_7 : b3 ≠ nb_7 := Nat.ne_of_lt (Nat.lt_of_lt_of_le A3.lt f7_3)
  have g_nb_7 : n0 ≤ nb_7 := Nat.le_trans Z3 f7_3
  have sz_nb_7 : h0.size ≤ nb_7 := Nat.le_trans K3.1 f7_3
  have Re12 := Re6.trans (CHr.keep Kq7 (allS (Safe.exa hZ.alike A3 (by decide) (by decide)) all0) hCe6)
  have hCe12 := Re12.1
  have sf_nb_7 := Safe.keep Kq7 (allS (Safe.exa hZ.alike A3 (by decide) (by decide)) all0) hCe6 (Safe.new f7_3)
  have K7 : Keep h0 T7.heap [] := K3.trans Kq7 (allS (Or.inr sz_b3) all0)
  have Z7 : n0 ≤ T7.heap.size := Nat.le_trans Z3 Kq7.1
  have hk7 : _ ≤ T7.heap.size := Nat.le_trans hk3 Kq7.1
  obtain ⟨b13, T13, h13, kk13, t13, kc13, X13, e13, E13, hS13, hk13, hZ13, hown13, fE13, fC13, fV13, fK13, lta13, ltb13, CH13, -, SF13, st13⟩ := ldcCH X7 hx hZ hown (wd hw 64 rfl) (fun d hd => hw d (own_strAtoms d hd)) rfl hS0 hk7 (own_EW hw) (by decide) hCe12 (vs := [(vI 73), (vI 110), (vI 115), (vI 117), (vI 102), (vI 102), (vI 105), (vI 99), (vI 105), (vI 101), (vI 110), (vI 116), (vI 32), (vI 112), (vI 101), (vI 114), (vI 109), (vI 105), (vI 115), (vI 115), (vI 105), (vI 111), (vI 110), (vI 115), (vI 58), (vI 32)]) (z := (26 : Int32)) ⟨by decide, by decide⟩ (by decide) (by decide) (g := (mkF m 17 #[vr r0] [(.ref b3), (vI 403), (vI 403), (.ref b1), (.ref b1)])) rfl (hb hby d9_17) (n := 104) (by decide) (by decide) (by decide) (by decide)
  have Re14 := Re12.trans CH13
  have hCe14 := Re14.1
  have c15 := (((A1.ext E3).keep Kq7).ext E13)
  have nlb1_13 := SF13 b1 (Safe.exa hZ13.alike c15 (by decide) (by decide))
  have c16 := ((A3.keep Kq7).ext E13)
  have nlb3_13 := SF13 b3 (Safe.exa hZ13.alike c16 (by decide) (by decide))
  have c17 := (CHr.safe CH13 f7_4.lt sf_nb_7)
  have nlnb_7_13 := SF13 nb_7 c17
  have K13 : Keep h0 h13 [] := K7.ext E13
  have Z13 : n0 ≤ h13.size := Nat.le_trans Z7 E13.1
  have c19 := ((c8.keep Kq7 (allS g_b3 all0)).ext E13)
  have c20 := (f7_0.ext E13)
  have c21 := (f7_1.ext E13)
  have c22 := (f7_5.ext E13)
  have c23 := (f7_2.ext E13)
  obtain ⟨cq18, kq18, q18a, q18b, q18c⟩ := isOf hZ13 e13 c16
  obtain ⟨_, _, ⟨T18, Lw18, kw18, nw18⟩, -, X18, ⟨Lc18, hQ18, lq18, yq18, zq18⟩, st18⟩ := X13.virtualBack hx (y := M16) (z := M16) hown13 (mvT hZ13 (wd hw 65 rfl)) (mvT hZ13 (wd hw 66 rfl)) (notFace_of_selects (args := #[]) (mvT hZ13 (wd hw 68 rfl))) (mvT hZ13 (wd hw 68 rfl)) (mvT hZ13 (wd hw 67 rfl)) (by decide) (backOf (W := 4) (rm_app_sb_0_26_16 l Z a0 hw [] b3 b13 zc nb_7 nk_7 [z0, z0, z0, z0, z0, z0, z0, z0, z0, z0, z0, z0, z0, z0, z0, z0] t13 kc13 [(vI 73), (vI 110), (vI 115), (vI 117), (vI 102), (vI 102), (vI 105), (vI 99), (vI 105), (vI 101), (vI 110), (vI 116), (vI 32), (vI 112), (vI 101), (vI 114), (vI 109), (vI 105), (vI 115), (vI 115), (vI 105), (vI 111), (vI 110), (vI 115), (vI 58), (vI 32)] h13 n0 Z13 c19 uS uP c16 c20 c21 c22 rfl c23 fE13 fV13 fC13 fK13 g_b3 g_nb_7) hZ13 (wd hw 69 rfl) (wd hw 48 rfl) (by decide) (by decide)) q18a q18c (g := (mkF m 19 #[vr r0] [(.ref b13), (.ref b3), (vI 403), (vI 403), (.ref b1), (.ref b1)])) rfl (by rw [hml]; rfl) (Steps.refl _) (argsL := [(.ref b13)]) (rest := [(vI 403), (vI 403), (.ref b1), (.ref b1)]) (lenOf pd_20 rfl) rfl (by show 2 * 0 + _ ≤ _; exact Nat.le_of_eq rfl) (hb hby d9_19) (fun _ _ => ⟨rfl, e13, (by decide : 5 + 1 ≤ _), (by decide : 136 + 34 ≤ _)⟩)
  dsimp only [Pt.U, Pt.locs, Pt.cells, Pt.slots] at X18 lq18 yq18 zq18 st18 hQ18
  have X18 := own_reb X18 lq18 yq18 zq18
  obtain ⟨nb_18, nk_18, nv_18, rfl, Nq18, Kq18, f18_0, f18_1, f18_2, f18_3, f18_4, f18_5, f18_6, f18_7⟩ := hQ18
  have N18 := Fr.app N7 Nq18
  have c24 := ((((us.ext E1).ext E3).keep Kq7).ext E13)
  have ne_r0_nb_18 : r0 ≠ nb_18 := Nat.ne_of_lt (Nat.lt_of_lt_of_le c24.lt f18_3)
  have c25 := ((((usV.ext E1).ext E3).keep Kq7 (ninS ne_rt_b3 nin0)).ext E13)
  have ne_rt_nb_18 : rt ≠ nb_18 := Nat.ne_of_lt (Nat.lt_of_lt_of_le c25.lt f18_3)
  have ne_b1_nb_18 : b1 ≠ nb_18 := Nat.ne_of_lt (Nat.lt_of_lt_of_le c15.lt f18_3)
  have ne_b3_nb_18 : b3 ≠ nb_18 := Nat.ne_of_lt (Nat.lt_of_lt_of_le c16.lt f18_3)
  have c26 := (f7_4.ext E13)
  have ne_nb_7_nb_18 : nb_7 ≠ nb_18 := Nat.ne_of_lt (Nat.lt_of_lt_of_le c26.lt f18_3)
  have ne_b13_nb_18 : b13 ≠ nb_18 := Nat.ne_of_lt (Nat.lt_of_lt_of_le fE13.lt f18_3)
  have ne_t13_nb_18 : t13 ≠ nb_18 := Nat.ne_of_lt (Nat.lt_of_lt_of_le fK13.lt f18_3)
  have g_nb_18 : n0 ≤ nb_18 := Nat.le_trans Z13 f18_3
  have sz_nb_18 : h0.size ≤ nb_18 := Nat.le_trans K13.1 f18_3
  have Re27 := Re14.trans (CHr.keep Kq18 (allS (Safe.exa hZ13.alike c16 (by decide) (by decide)) all0) hCe14)
  have hCe27 := Re27.1
  have sf_nb_18 := Safe.keep Kq18 (allS (Safe.exa hZ13.alike c16 (by decide) (by decide)) all0) hCe14 (Safe.new f18_3)
  have K18 : Keep h0 T18.heap [] := K13.trans Kq18 (allS (Or.inr sz_b3) all0)
  have Z18 : n0 ≤ T18.heap.size := Nat.le_trans Z13 Kq18.1
  have hk18 : _ ≤ T18.heap.size := Nat.le_trans hk13 Kq18.1
  have c29 := (c19.keep Kq18 (allS g_b3 all0))
  have c30 := (c16.keep Kq18)
  have c31 := (((((us.ext E1).ext E3).keep Kq7).ext E13).keep Kq18)
  have c32 := (((((usv.ext E1).ext E3).keep Kq7 (ninS ne_r0_b3 nin0)).ext E13).keep Kq18 (ninS ne_r0_b3 nin0))
  have c33 := (((((usc.ext E1).ext E3).keep Kq7 (ninS ne_r0_b3 nin0)).ext E13).keep Kq18 (ninS ne_r0_b3 nin0))
  have c34 := (((((usV.ext E1).ext E3).keep Kq7 (ninS ne_rt_b3 nin0)).ext E13).keep Kq18 (ninS ne_rt_b3 nin0))
  obtain ⟨cq28, kq28, q28a, q28b, q28c⟩ := isOf hZ13 rfl c30
  obtain ⟨_, _, ⟨T28, Lw28, kw28, nw28⟩, -, X28, ⟨Lc28, hQ28, lq28, yq28, zq28⟩, st28⟩ := X18.virtualBack hx (y := M16) (z := M16) hown13 (mvT hZ13 (wd hw 65 rfl)) (mvT hZ13 (wd hw 66 rfl)) (notFace_of_selects (args := #[]) (mvT hZ13 (wd hw 68 rfl))) (mvT hZ13 (wd hw 68 rfl)) (mvT hZ13 (wd hw 67 rfl)) (by decide) (backOf (W := 4) (rg_app l Z a0 hw [] b3 r0 zc nb_18 nk_18 (34 : Int32) nv_18 rt kt (0 : Int32) ((([] : List Int32).map (fun c => c.toInt8.toInt32)).map Value.int) (26 : Int32) (26 : Int32) T18.heap n0 Z18 c29 uS uP c30 f18_0 f18_1 f18_5 f18_6 f18_2 c31 c32 c33 c34 (by decide) (by decide) (by decide) (by decide) (by decide) g_b3 g_nb_18) hZ13 (wd hw 69 rfl) (wd hw 48 rfl) (by decide) (by decide)) q28a q28c (g := (mkF m 23 #[vr r0] [(.ref r0), (.ref b3), (vI 403), (vI 403), (.ref b1), (.ref b1)])) rfl (by rw [hml]; rfl) (Steps.refl _) (argsL := [(.ref r0)]) (rest := [(vI 403), (vI 403), (.ref b1), (.ref b1)]) (lenOf pd_20 rfl) rfl (by show 2 * 0 + _ ≤ _; exact Nat.le_of_eq rfl) (hb hby d9_23) (fun _ _ => ⟨rfl, rfl, (by decide : 6 + 0 ≤ _), (by decide : 170 + 0 ≤ _)⟩)
  dsimp only [Pt.U, Pt.locs, Pt.cells, Pt.slots] at X28 lq28 yq28 zq28 st28 hQ28
  have X28 := own_reb X28 lq28 yq28 zq28
  obtain ⟨rfl, Nq28, Kq28, f28_0, f28_1, f28_2, f28_3⟩ := hQ28
  have N28 := Fr.app N18 Nq28
  have Re35 := Re27.trans (CHr.keep Kq28 (allS (Safe.exa hZ13.alike c30 (by decide) (by decide)) (allS sf_nb_18 all0)) hCe27)
  have hCe35 := Re35.1
  have K28 : Keep h0 T28.heap [] := K18.trans Kq28 (allS (Or.inr sz_b3) (allS (Or.inr sz_nb_18) all0))
  have Z28 : n0 ≤ T28.heap.size := Nat.le_trans Z18 Kq28.1
  have hk28 : _ ≤ T28.heap.size := Nat.le_trans hk18 Kq28.1
  have c37 := (c29.keep Kq28 (allS g_b3 (allS g_nb_18 all0)))
  have c38 := (c30.keep Kq28)
  obtain ⟨cq36, kq36, q36a, q36b, q36c⟩ := isOf hZ13 rfl c38
  obtain ⟨_, _, ⟨T36, Lw36, kw36, nw36⟩, -, X36, ⟨Lc36, hQ36, lq36, yq36, zq36⟩, st36⟩ := X28.virtualBack hx (y := M21) (z := M21) hown13 (mvT hZ13 (wd hw 135 rfl)) (mvT hZ13 (wd hw 136 rfl)) (notFace_of_selects (args := #[]) (mvT hZ13 (wd hw 138 rfl))) (mvT hZ13 (wd hw 138 rfl)) (mvT hZ13 (wd hw 137 rfl)) (by decide) (backOf (W := 4) (rg_tos l Z a0 hw [] b3 zc nb_18 nk_18 (34 : Int32) (own_put (26 : Int32).toNatClampNeg (0 : Int32).toNatClampNeg nv_18 ((([] : List Int32).map (fun c => c.toInt8.toInt32)).map Value.int)) (26 : Int32) T28.heap n0 Z28 c37 uS uP c38 f28_0 f28_1 f28_3 f28_2 (by decide) (by decide) (by decide) (by decide)) hZ13 (wd hw 139 rfl) (wd hw 48 rfl) (by decide) (by decide)) q36a q36c (g := (mkF m 26 #[vr r0] [(.ref b3), (vI 403), (vI 403), (.ref b1), (.ref b1)])) rfl (by rw [hml]; rfl) (Steps.refl _) (argsL := []) (rest := [(vI 403), (vI 403), (.ref b1), (.ref b1)]) (lenOf pd_21 rfl) rfl (by show 2 * 0 + _ ≤ _; exact Nat.le_of_eq rfl) (hb hby d9_26) (fun _ _ => ⟨rfl, rfl, (by decide : 6 + 2 ≤ _), (by decide : 170 + 68 ≤ _)⟩)
  dsimp only [Pt.U, Pt.locs, Pt.cells, Pt.slots] at X36 lq36 yq36 zq36 st36 hQ36
  have X36 := own_reb X36 lq36 yq36 zq36
  obtain ⟨nx_36, nb_36, nk_36, rfl, Nq36, Kq36, f36_0, f36_1, f36_2, f36_3, f36_4, f36_5⟩ := hQ36
  have N36 := Fr.app N28 Nq36
  have c39 := (c31.keep Kq28)
  have ne_r0_nx_36 : r0 ≠ nx_36 := Nat.ne_of_lt (Nat.lt_of_lt_of_le c39.lt f36_0)
  have c40 := (c34.keep Kq28 (ninS ne_rt_b3 (ninS ne_rt_nb_18 nin0)))
  have ne_rt_nx_36 : rt ≠ nx_36 := Nat.ne_of_lt (Nat.lt_of_lt_of_le c40.lt f36_0)
  have c41 := ((c15.keep Kq18).keep Kq28)
  have ne_b1_nx_36 : b1 ≠ nx_36 := Nat.ne_of_lt (Nat.lt_of_lt_of_le c41.lt f36_0)
  have ne_b3_nx_36 : b3 ≠ nx_36 := Nat.ne_of_lt (Nat.lt_of_lt_of_le c38.lt f36_0)
  have c42 := (((f7_4.ext E13).keep Kq18).keep Kq28)
  have ne_nb_7_nx_36 : nb_7 ≠ nx_36 := Nat.ne_of_lt (Nat.lt_of_lt_of_le c42.lt f36_0)
  have c43 := ((fE13.keep Kq18).keep Kq28)
  have ne_b13_nx_36 : b13 ≠ nx_36 := Nat.ne_of_lt (Nat.lt_of_lt_of_le c43.lt f36_0)
  have c44 := ((fK13.keep Kq18 (ninS (Ne.symm nlb3_13.2) nin0)).keep Kq28 (ninS (Ne.symm nlb3_13.2) (ninS ne_t13_nb_18 nin0)))
  have ne_t13_nx_36 : t13 ≠ nx_36 := Nat.ne_of_lt (Nat.lt_of_lt_of_le c44.lt f36_0)
  have c45 := (f18_4.keep Kq28)
  have ne_nb_18_nx_36 : nb_18 ≠ nx_36 := Nat.ne_of_lt (Nat.lt_of_lt_of_le c45.lt f36_0)
  have g_nx_36 : n0 ≤ nx_36 := Nat.le_trans Z28 f36_0
  have sz_nx_36 : h0.size ≤ nx_36 := Nat.le_trans K28.1 f36_0
  have c46 := (c31.keep Kq28)
  have ne_r0_nb_36 : r0 ≠ nb_36 := Nat.ne_of_lt (Nat.lt_of_lt_of_le c46.lt f36_4)
  have c47 := (c34.keep Kq28 (ninS ne_rt_b3 (ninS ne_rt_nb_18 nin0)))
  have ne_rt_nb_36 : rt ≠ nb_36 := Nat.ne_of_lt (Nat.lt_of_lt_of_le c47.lt f36_4)
  have c48 := ((c15.keep Kq18).keep Kq28)
  have ne_b1_nb_36 : b1 ≠ nb_36 := Nat.ne_of_lt (Nat.lt_of_lt_of_le c48.lt f36_4)
  have ne_b3_nb_36 : b3 ≠ nb_36 := Nat.ne_of_lt (Nat.lt_of_lt_of_le c38.lt f36_4)
  have c49 := (((f7_4.ext E13).keep Kq18).keep Kq28)
  have ne_nb_7_nb_36 : nb_7 ≠ nb_36 := Nat.ne_of_lt (Nat.lt_of_lt_of_le c49.lt f36_4)
  have c50 := ((fE13.keep Kq18).keep Kq28)
  have ne_b13_nb_36 : b13 ≠ nb_36 := Nat.ne_of_lt (Nat.lt_of_lt_of_le c50.lt f36_4)
  have c51 := ((fK13.keep Kq18 (ninS (Ne.symm nlb3_13.2) nin0)).keep Kq28 (ninS (Ne.symm nlb3_13.2) (ninS ne_t13_nb_18 nin0)))
  have ne_t13_nb_36 : t13 ≠ nb_36 := Nat.ne_of_lt (Nat.lt_of_lt_of_le c51.lt f36_4)
  have c52 := (f18_4.keep Kq28)
  have ne_nb_18_nb_36 : nb_18 ≠ nb_36 := Nat.ne_of_lt (Nat.lt_of_lt_of_le c52.lt f36_4)
  have g_nb_36 : n0 ≤ nb_36 := Nat.le_trans Z28 f36_4
  have sz_nb_36 : h0.size ≤ nb_36 := Nat.le_trans K28.1 f36_4
  have Re53 := Re35.trans (CHr.keep Kq36 all0 hCe35)
  have hCe53 := Re53.1
  have sf_nx_36 := Safe.keep Kq36 all0 hCe35 (Safe.new f36_0)
  have sf_nb_36 := Safe.keep Kq36 all0 hCe35 (Safe.new f36_4)
  have K36 : Keep h0 T36.heap [] := K28.trans Kq36 all0
  have Z36 : n0 ≤ T36.heap.size := Nat.le_trans Z28 Kq36.1
  have hk36 : _ ≤ T36.heap.size := Nat.le_trans hk28 Kq36.1
  have Vmsg : Arv Z T36.heap nb_36 nk_36 .byte (26 : Int32) ((([73, 110, 115, 117, 102, 102, 105, 99, 105, 101, 110, 116, 32, 112, 101, 114, 109, 105, 115, 115, 105, 111, 110, 115, 58, 32] : List Int32).map (fun c => c.toInt8.toInt32)).map Value.int) z0 := by have q := f36_5; rw [f18_7] at q; exact q
  have c55 := (c37.keep Kq36 all0)
  have c56 := (((c15.keep Kq18).keep Kq28).keep Kq36)
  have c57 := ((((((Ut1.ext E3).keep Kq7 (ninS ne_b1_b3 nin0)).ext E13).keep Kq18 (ninS ne_b1_b3 nin0)).keep Kq28 (ninS ne_b1_b3 (ninS ne_b1_nb_18 nin0))).keep Kq36 nin0)
  have c58 := ((((((F1_cause.ext E3).keep Kq7 (ninS ne_b1_b3 nin0)).ext E13).keep Kq18 (ninS ne_b1_b3 nin0)).keep Kq28 (ninS ne_b1_b3 (ninS ne_b1_nb_18 nin0))).keep Kq36 nin0)
  have c59 := ((((((F1_stackTrace.ext E3).keep Kq7 (ninS ne_b1_b3 nin0)).ext E13).keep Kq18 (ninS ne_b1_b3 nin0)).keep Kq28 (ninS ne_b1_b3 (ninS ne_b1_nb_18 nin0))).keep Kq36 nin0)
  have c60 := ((((((F1_suppressedExceptions.ext E3).keep Kq7 (ninS ne_b1_b3 nin0)).ext E13).keep Kq18 (ninS ne_b1_b3 nin0)).keep Kq28 (ninS ne_b1_b3 (ninS ne_b1_nb_18 nin0))).keep Kq36 nin0)
  have c61 := ((((((F1_backtrace.ext E3).keep Kq7 (ninS ne_b1_b3 nin0)).ext E13).keep Kq18 (ninS ne_b1_b3 nin0)).keep Kq28 (ninS ne_b1_b3 (ninS ne_b1_nb_18 nin0))).keep Kq36 nin0)
  have c62 := ((((((F1_detailMessage.ext E3).keep Kq7 (ninS ne_b1_b3 nin0)).ext E13).keep Kq18 (ninS ne_b1_b3 nin0)).keep Kq28 (ninS ne_b1_b3 (ninS ne_b1_nb_18 nin0))).keep Kq36 nin0)
  have c63 := ((((((F1_status.ext E3).keep Kq7 (ninS ne_b1_b3 nin0)).ext E13).keep Kq18 (ninS ne_b1_b3 nin0)).keep Kq28 (ninS ne_b1_b3 (ninS ne_b1_nb_18 nin0))).keep Kq36 nin0)
  have c64 := ((((((F1_code.ext E3).keep Kq7 (ninS ne_b1_b3 nin0)).ext E13).keep Kq18 (ninS ne_b1_b3 nin0)).keep Kq28 (ninS ne_b1_b3 (ninS ne_b1_nb_18 nin0))).keep Kq36 nin0)
  obtain ⟨_, _, ⟨T54, Lw54, kw54, nw54⟩, -, X54', hS54', hg54, ⟨Lc54, hQ54, lq54, yq54, zq54, CH54⟩, st54⟩ := X36.specialBackS hx (y := M29) rfl hown13 (mvT hZ13 (wd hw 174 rfl)) (mvT hZ13 (wd hw 175 rfl)) (mvT hZ13 (wd hw 176 rfl)) (by decide) (backOfSKH (W := 1) (rmX l Z a0 hw [] b1 (403 : Int32) (403 : Int32) nx_36 zc vu vq T36.heap n0 Z36 c55 uS uP uLt uZu uRu uZs uRs c56 c57 c58 c59 c60 c61 c62 c63 c64 g_b1) hZ13 (wd hw 176 rfl) (wd hw 42 rfl) (by decide) (by decide) (own_EW hw) hCe53 (Vm.MethodsKnown.alikeC hS13.1.alike hK.1) (Vm.FramesKnown.alikeC hS13.1.alike hK.2)) (g := (mkF m 29 #[vr r0] [(.ref nx_36), (vI 403), (vI 403), (.ref b1), (.ref b1)])) rfl (by rw [hml]; rfl) (Steps.refl _) (a := b1) (argsL := [(vI 403), (vI 403), (.ref nx_36)]) (rest := [(.ref b1)]) (lenOf pd_22 rfl) rfl (by show 2 * 0 + _ ≤ _; exact Nat.le_of_eq rfl) (hb hby d9_29) (fun _ _ => ⟨rfl, rfl, (by decide : 8 + 1 ≤ _), (by decide : 238 + 2752 ≤ _)⟩)
  dsimp only [Pt.U, Pt.locs, Pt.cells, Pt.slots] at X54' hS54' hg54 lq54 yq54 zq54 st54 hQ54 CH54
  have X54' := own_reb X54' lq54 yq54 zq54
  obtain ⟨X54, hS54, hZ54, hown54⟩ := rebS hS13 (own_hk rfl hk36) X54' hS54' hg54 hZ13 hown13
  obtain ⟨rfl, Nq54, Kq54, f54_0, f54_1, f54_2⟩ := hQ54
  have N54 := Fr.app N36 Nq54
  have Re65 := Re53.trans CH54
  have hCe65 := Re65.1
  have K54 : Keep h0 T54.heap [] := K36.trans Kq54 (allS (Or.inr sz_b1) all0)
  have Z54 : n0 ≤ T54.heap.size := Nat.le_trans Z36 Kq54.1
  have hk54 : T54.heap.size ≤ T54.heap.size := Nat.le_refl _
  have c66 := (c56.keep Kq54)
  have c67 := (f36_1.keep Kq54)
  have c68 := (f36_2.keep Kq54 (ninS (Ne.symm ne_b1_nx_36) nin0))
  have c69 := (f36_3.keep Kq54 (ninS (Ne.symm ne_b1_nx_36) nin0))
  have c70 := (Vmsg.keep Kq54 (ninS (Ne.symm ne_b1_nb_36) nin0))
  obtain ⟨fs, hr, hrun, hended, en1, en2, en3, en4⟩ := X54.leaveW hS54 (own_hk rfl hk54) (v := some (.ref b1)) (fun h => by rw [Bd.returns] at h; cases h)
  refine ⟨_, _, pre0 _ ?_, hrun, hended, _, _, rfl, ?_, own_chr (T := T54) hh rfl (Re65.trans (CHv.at X54 hZ54 (own_EW hw) hCe65)), en1, en2, en3, en4.mono (by decide) (by decide)⟩
  · show SS p e below s₁ (mkF m 0 #[vr r0] []) _
    refine st1 _ ?_
    refine XS.dup X1.here hx rfl (hb hby d9_3) rfl rfl ?_
    refine XS.sipush X1.here hx rfl (hb hby d9_4) ?_
    refine XS.sipush X1.here hx rfl (hb hby d9_7) ?_
    refine st3 _ ?_
    refine XS.dup X3.here hx rfl (hb hby d9_13) rfl rfl ?_
    show SS p e below T3 (mkF m 14 #[vr r0] [(.ref b3), (.ref b3), (vI 403), (vI 403), (.ref b1), (.ref b1)]) _
    refine st7.trans ?_
    show SS p e below T7 (mkF m 17 #[vr r0] [(.ref b3), (vI 403), (vI 403), (.ref b1), (.ref b1)]) _
    refine st13 _ ?_
    show SS p e below T13 (mkF m 19 #[vr r0] [(.ref b13), (.ref b3), (vI 403), (vI 403), (.ref b1), (.ref b1)]) _
    refine st18.trans ?_
    refine XS.aloadN X18.here hx rfl (hb hby d9_22) rfl rfl ?_
    show SS p e below T18 (mkF m 23 #[vr r0] [(.ref r0), (.ref b3), (vI 403), (vI 403), (.ref b1), (.ref b1)]) _
    refine st28.trans ?_
    show SS p e below T28 (mkF m 26 #[vr r0] [(.ref b3), (vI 403), (vI 403), (.ref b1), (.ref b1)]) _
    refine st36.trans ?_
    show SS p e below T36 (mkF m 29 #[vr r0] [(.ref nx_36), (vI 403), (vI 403), (.ref b1), (.ref b1)]) _
    refine st54.trans ?_
    exact retOut X54 hx Bd.returns rfl (Or.inr (Or.inr (Or.inr (Or.inr ⟨rfl, rfl, rfl⟩)))) (hb hby d9_32) hr
  · show Q_rmF0 Z r0 zc vu vq rt kt h0 n0 _ T54.heap _
    exact ⟨b1, nx_36, nb_36, nk_36, rfl, N54, K54, sz_b1, c66, f54_0, f54_1, f54_2, c67, c68, c69, c70⟩
def Q_rmF1 (Z : State) (r0 : Addr) (zc : Int32) (vu : Value) (vq : Value) (rt : Addr) (kt : ClassId) (p1 : Int32) (h0 : Heap) (n0 : Nat) (v : Option Value) (h : Heap) (L : List Loc) : Prop := ∃ (nx : Addr), ∃ (nm : Addr), ∃ (nt : Addr), ∃ (nk : ClassId), (v = some (.ref nx) ∧ Fr n0 L ∧ Keep h0 h [] ∧ h0.size ≤ nx ∧ Exa Z h nx "com/example/plain_hub/plainhub/HubException" ∧ Fld Z h nx "com/example/plain_hub/plainhub/HubException" "status" "I" (vI 403) ∧ Fld Z h nx "com/example/plain_hub/plainhub/HubException" "code" "I" (vI 403) ∧ Fld Z h nx "java/lang/Throwable" "detailMessage" "Ljava/lang/String;" (.ref nm) ∧ Exa Z h nm "java/lang/String" ∧ Fld Z h nm "java/lang/String" "coder" "B" z0 ∧ Fld Z h nm "java/lang/String" "value" "[B" (.ref nt) ∧ Arv Z h nt nk .byte (27 : Int32) ((([73, 110, 115, 117, 102, 102, 105, 99, 105, 101, 110, 116, 32, 112, 101, 114, 109, 105, 115, 115, 105, 111, 110, 115, 58, 32, p1] : List Int32).map (fun c => c.toInt8.toInt32)).map Value.int) z0)
set_option maxRecDepth 65536 in
set_option maxHeartbeats 40000000 in
theorem rmF1 (l : Launch) (Z : State) (a0 : Array Value) (hw : ∀ d ∈ tables_1, d.before a0 Z = true) (ws : List Jvm.Cond) (r0 : Addr) (zc : Int32) (vu : Value) (vq : Value) (rt : Addr) (kt : ClassId) (p1 : Int32) (h0 : Heap) (n0 : Nat) (Z0 : n0 ≤ h0.size) (uO : Old Z n0 h0) (uS : Sta Z Z.heap "java/lang/String" "COMPACT_STRINGS" "Z" (.int zc)) (uP : ¬ zc = 0) (uLt : l.stackTraces = true) (uZu : Sta Z Z.heap "java/lang/Throwable" "UNASSIGNED_STACK" "[Ljava/lang/StackTraceElement;" vu) (uRu : vu.isRef = true) (uZs : Sta Z Z.heap "java/lang/Throwable" "SUPPRESSED_SENTINEL" "Ljava/util/List;" vq) (uRs : vq.isRef = true) (us : Exa Z h0 r0 "java/lang/String") (usv : Fld Z h0 r0 "java/lang/String" "value" "[B" (.ref rt)) (usc : Fld Z h0 r0 "java/lang/String" "coder" "B" z0) (usV : Arv Z h0 rt kt .byte (1 : Int32) ((([p1] : List Int32).map (fun c => c.toInt8.toInt32)).map Value.int) z0) :
    MetFree l M36 (head1 (Jvm.Cond.code M36 prog_2_method_4_code 1 (some (.object "com/example/plain_hub/plainhub/HubException")) :: ws) ({ frames := 7, cells := 9, slots := 2990, locals := 97 } : Room)) (fun a U => a = #[(.ref r0)] ∧ Z.Warmed39 U.vm ∧ U.heap = h0 ∧ CHv Z own_EL U.vm h0) (fun _ _ bl s _ => s.vm.MethodsKnown ∧ s.vm.FramesKnown bl) (fun _ U o U' => ∃ v L, o = .returned v ∧ Q_rmF1 Z r0 zc vu vq rt kt p1 h0 n0 v U'.heap L ∧ CHr Z own_EL U.vm U.heap U'.vm U'.heap ∧ ReturnedEndW U o U' L ({ frames := 7, cells := 9, slots := 2990, locals := 97 } : Room).cells ({ frames := 7, cells := 9, slots := 2990, locals := 97 } : Room).slots) := by
  refine MetFree.of_bodySF (plainFor_of_name pn_8) hisR ?_
  intro p e s m args below meth c s₁ Bd hml0 hP hK
  obtain ⟨rfl, hZ, hh, hC0⟩ := hP
  have hx := Bd.exec
  have hby := Bd.bytes
  have hml : c.maxLocals = 1 := hml0
  have hown : s.vm.findClass "com/example/plain_hub/plainhub/HubException" = some m.cls := findClass_of_methodNamed Bd.named
  have hnm := (name_of_methodNamed Bd.named Bd.method).1
  have X0 : Stand p l e ({ frames := 7, cells := 9, slots := 2990, locals := 97 } : Room) (s.setVm s.vm) m #[(.ref r0)] below meth c s₁ [] 0 0 := Stand.of_body Bd
  have e0 : s₁.heap = h0 := by rw [← hh, Bd.state]; rfl
  have N0 := Fr.nil n0
  have pre0 : ∀ t, Steps p.tables e below (s₁.setTop (mkF m 0 #[vr r0] [])) t → Steps p.tables e below (s₁.setTop (entryFrame m #[(.ref r0)] 1)) t := fun t k => castTop (ef_45 m r0) k
  have hS0 : s.Since s.vm 0 := (State.WarmedH.refl s).since _
  have hk0 : 0 ≤ h0.size := Nat.zero_le _
  have R0 := CHr.refl hC0
  obtain ⟨T1, h1, X1, e1, E1, A1, D1, Un1, st1⟩ := newO X0 hx hZ hown (wd hw 44 rfl) (wd hw 45 rfl) (wd hw 42 rfl) e0 (g := (mkF m 0 #[vr r0] [])) rfl (hb hby d9_0) (by decide) (by decide)
  obtain ⟨b1, g1⟩ : ∃ z, z = h0.size := ⟨_, rfl⟩
  rw [← g1] at A1 D1 Un1 st1
  have ne_r0_b1 : r0 ≠ b1 := Nat.ne_of_lt (Nat.lt_of_lt_of_le us.lt (Nat.le_of_eq g1.symm))
  have ne_rt_b1 : rt ≠ b1 := Nat.ne_of_lt (Nat.lt_of_lt_of_le usV.lt (Nat.le_of_eq g1.symm))
  have Re2 := R0.trans (CHr.ext E1 hC0)
  have hCe2 := Re2.1
  have Ut1 : Unt h1 b1 := Un1
  have F1_cause : Fld Z h1 b1 "java/lang/Throwable" "cause" "Ljava/lang/Throwable;" .null := D1 (Or.inl (wd hw 196 rfl)) (ty := (.object "java/lang/Throwable")) (by decide)
  have F1_stackTrace : Fld Z h1 b1 "java/lang/Throwable" "stackTrace" "[Ljava/lang/StackTraceElement;" .null := D1 (Or.inl (wd hw 199 rfl)) (ty := (.array (.object "java/lang/StackTraceElement"))) (by decide)
  have F1_suppressedExceptions : Fld Z h1 b1 "java/lang/Throwable" "suppressedExceptions" "Ljava/util/List;" .null := D1 (Or.inl (wd hw 202 rfl)) (ty := (.object "java/util/List")) (by decide)
  have F1_detailMessage : Fld Z h1 b1 "java/lang/Throwable" "detailMessage" "Ljava/lang/String;" .null := D1 (Or.inl (wd hw 226 rfl)) (ty := (.object "java/lang/String")) (by decide)
  have F1_backtrace : Fld Z h1 b1 "java/lang/Throwable" "backtrace" "Ljava/lang/Object;" .null := D1 (Or.inl (wd hw 227 rfl)) (ty := (.object "java/lang/Object")) (by decide)
  have F1_depth : Fld Z h1 b1 "java/lang/Throwable" "depth" "I" z0 := D1 (Or.inl (wd hw 228 rfl)) (ty := .int) (by decide)
  have F1_status : Fld Z h1 b1 "com/example/plain_hub/plainhub/HubException" "status" "I" z0 := D1 (Or.inr (wd hw 232 rfl)) (ty := .int) (by decide)
  have F1_code : Fld Z h1 b1 "com/example/plain_hub/plainhub/HubException" "code" "I" z0 := D1 (Or.inr (wd hw 234 rfl)) (ty := .int) (by decide)
  have g_b1 : n0 ≤ b1 := Nat.le_trans Z0 (Nat.le_of_eq g1.symm)
  have sz_b1 : h0.size ≤ b1 := Nat.le_trans (Keep.refl h0 []).1 (Nat.le_of_eq g1.symm)
  have K1 : Keep h0 h1 [] := (Keep.refl h0 []).ext E1
  have Z1 : n0 ≤ h1.size := Nat.le_trans Z0 E1.1
  have hk1 : _ ≤ h1.size := Nat.le_trans hk0 E1.1
  obtain ⟨T3, h3, X3, e3, E3, A3, D3, Un3, st3⟩ := newO X1 hx hZ hown (wd hw 46 rfl) (wd hw 47 rfl) (wd hw 48 rfl) e1 (g := (mkF m 10 #[vr r0] [(vI 403), (vI 403), (.ref b1), (.ref b1)])) rfl (hb hby d9_10) (by decide) (by decide)
  obtain ⟨b3, g3⟩ : ∃ z, z = h1.size := ⟨_, rfl⟩
  rw [← g3] at A3 D3 Un3 st3
  have c4 := (us.ext E1)
  have ne_r0_b3 : r0 ≠ b3 := Nat.ne_of_lt (Nat.lt_of_lt_of_le c4.lt (Nat.le_of_eq g3.symm))
  have c5 := (usV.ext E1)
  have ne_rt_b3 : rt ≠ b3 := Nat.ne_of_lt (Nat.lt_of_lt_of_le c5.lt (Nat.le_of_eq g3.symm))
  have ne_b1_b3 : b1 ≠ b3 := Nat.ne_of_lt (Nat.lt_of_lt_of_le A1.lt (Nat.le_of_eq g3.symm))
  have Re6 := Re2.trans (CHr.ext E3 hCe2)
  have hCe6 := Re6.1
  have Ut3 : Unt h3 b3 := Un3
  have F3_value : Fld Z h3 b3 "java/lang/AbstractStringBuilder" "value" "[B" .null := D3 (Or.inl (wd hw 61 rfl)) (ty := (.array .byte)) (by decide)
  have F3_coder : Fld Z h3 b3 "java/lang/AbstractStringBuilder" "coder" "B" z0 := D3 (Or.inl (wd hw 63 rfl)) (ty := .byte) (by decide)
  have F3_count : Fld Z h3 b3 "java/lang/AbstractStringBuilder" "count" "I" z0 := D3 (Or.inl (wd hw 86 rfl)) (ty := .int) (by decide)
  have g_b3 : n0 ≤ b3 := Nat.le_trans Z1 (Nat.le_of_eq g3.symm)
  have sz_b3 : h0.size ≤ b3 := Nat.le_trans K1.1 (Nat.le_of_eq g3.symm)
  have K3 : Keep h0 h3 [] := K1.ext E3
  have Z3 : n0 ≤ h3.size := Nat.le_trans Z1 E3.1
  have hk3 : _ ≤ h3.size := Nat.le_trans hk1 E3.1
  have c8 := ((uO.ext E1).ext E3)
  obtain ⟨_, _, ⟨T7, Lw7, kw7, nw7⟩, -, X7, ⟨Lc7, hQ7, lq7, yq7, zq7⟩, st7⟩ := X3.specialBack hx (y := M7) rfl hown (mvT hZ (wd hw 49 rfl)) (mvT hZ (wd hw 50 rfl)) (mvT hZ (wd hw 51 rfl)) (by decide) (backOf (W := 5) (rmSB l Z a0 hw [] b3 zc h3 n0 Z3 c8 uS uP A3 F3_value F3_coder F3_count g_b3) hZ (wd hw 51 rfl) (wd hw 48 rfl) (by decide) (by decide)) (g := (mkF m 14 #[vr r0] [(.ref b3), (.ref b3), (vI 403), (vI 403), (.ref b1), (.ref b1)])) rfl (by rw [hml]; rfl) (Steps.refl _) (a := b3) (argsL := []) (rest := [(.ref b3), (vI 403), (vI 403), (.ref b1), (.ref b1)]) (lenOf pd_19 rfl) rfl (by show 2 * 0 + _ ≤ _; exact Nat.le_of_eq rfl) (hb hby d9_14) (fun _ _ => ⟨rfl, e3, (by decide : 2 + 1 ≤ _), (by decide : 12 + 16 ≤ _)⟩)
  dsimp only [Pt.U, Pt.locs, Pt.cells, Pt.slots] at X7 lq7 yq7 zq7 st7 hQ7
  have X7 := own_reb X7 lq7 yq7 zq7
  obtain ⟨nb_7, nk_7, rfl, Nq7, Kq7, f7_0, f7_1, f7_2, f7_3, f7_4, f7_5⟩ := hQ7
  have N7 := Fr.app N0 Nq7
  have c9 := ((us.ext E1).ext E3)
  have ne_r0_nb_7 : r0 ≠ nb_7 := Nat.ne_of_lt (Nat.lt_of_lt_of_le c9.lt f7_3)
  have c10 := ((usV.ext E1).ext E3)
  have ne_rt_nb_7 : rt ≠ nb_7 := Nat.ne_of_lt (Nat.lt_of_lt_of_le c10.lt f7_3)
  have c11 := (A1.ext E3)
  have ne_b1_nb_7 : b1 ≠ nb_7 := Nat.ne_of_lt (Nat.lt_of_lt_of_le c11.lt f7_3)
  have ne_b3_nb_7 : b3 ≠ nb_7 := Nat.ne_of_lt (Nat.lt_of_lt_of_le A3.lt f7_3)
  have g_nb_7 : n0 ≤ nb_7 := Nat.le_trans Z3 f7_3
  have sz_nb_7 : h0.size ≤ nb_7 := Nat.le_trans K3.1 f7_3
  have Re12 := Re6.trans (CHr.keep Kq7 (allS (Safe.exa hZ.alike A3 (by decide) (by decide)) all0) hCe6)
  have hCe12 := Re12.1
  have sf_nb_7 := Safe.keep Kq7 (allS (Safe.exa hZ.alike A3 (by decide) (by decide)) all0) hCe6 (Safe.new f7_3)
  have K7 : Keep h0 T7.heap [] := K3.trans Kq7 (allS (Or.inr sz_b3) all0)
  have Z7 : n0 ≤ T7.heap.size := Nat.le_trans Z3 Kq7.1
  have hk7 : _ ≤ T7.heap.size := Nat.le_trans hk3 Kq7.1
  obtain ⟨b13, T13, h13, kk13, t13, kc13, X13, e13, E13, hS13, hk13, hZ13, hown13, fE13, fC13, fV13, fK13, lta13, ltb13, CH13, -, SF13, st13⟩ := ldcCH X7 hx hZ hown (wd hw 64 rfl) (fun d hd => hw d (own_strAtoms d hd)) rfl hS0 hk7 (own_EW hw) (by decide) hCe12 (vs := [(vI 73), (vI 110), (vI 115), (vI 117), (vI 102), (vI 102), (vI 105), (vI 99), (vI 105), (vI 101), (vI 110), (vI 116), (vI 32), (vI 112), (vI 101), (vI 114), (vI 109), (vI 105), (vI 115), (vI 115), (vI 105), (vI 111), (vI 110), (vI 115), (vI 58), (vI 32)]) (z := (26 : Int32)) ⟨by decide, by decide⟩ (by decide) (by decide) (g := (mkF m 17 #[vr r0] [(.ref b3), (vI 403), (vI 403), (.ref b1), (.ref b1)])) rfl (hb hby d9_17) (n := 104) (by decide) (by decide) (by decide) (by decide)
  have Re14 := Re12.trans CH13
  have hCe14 := Re14.1
  have c15 := (((A1.ext E3).keep Kq7).ext E13)
  have nlb1_13 := SF13 b1 (Safe.exa hZ13.alike c15 (by decide) (by decide))
  have c16 := ((A3.keep Kq7).ext E13)
  have nlb3_13 := SF13 b3 (Safe.exa hZ13.alike c16 (by decide) (by decide))
  have c17 := (CHr.safe CH13 f7_4.lt sf_nb_7)
  have nlnb_7_13 := SF13 nb_7 c17
  have K13 : Keep h0 h13 [] := K7.ext E13
  have Z13 : n0 ≤ h13.size := Nat.le_trans Z7 E13.1
  have c19 := ((c8.keep Kq7 (allS g_b3 all0)).ext E13)
  have c20 := (f7_0.ext E13)
  have c21 := (f7_1.ext E13)
  have c22 := (f7_5.ext E13)
  have c23 := (f7_2.ext E13)
  obtain ⟨cq18, kq18, q18a, q18b, q18c⟩ := isOf hZ13 e13 c16
  obtain ⟨_, _, ⟨T18, Lw18, kw18, nw18⟩, -, X18, ⟨Lc18, hQ18, lq18, yq18, zq18⟩, st18⟩ := X13.virtualBack hx (y := M16) (z := M16) hown13 (mvT hZ13 (wd hw 65 rfl)) (mvT hZ13 (wd hw 66 rfl)) (notFace_of_selects (args := #[]) (mvT hZ13 (wd hw 68 rfl))) (mvT hZ13 (wd hw 68 rfl)) (mvT hZ13 (wd hw 67 rfl)) (by decide) (backOf (W := 4) (rm_app_sb_0_26_16 l Z a0 hw [] b3 b13 zc nb_7 nk_7 [z0, z0, z0, z0, z0, z0, z0, z0, z0, z0, z0, z0, z0, z0, z0, z0] t13 kc13 [(vI 73), (vI 110), (vI 115), (vI 117), (vI 102), (vI 102), (vI 105), (vI 99), (vI 105), (vI 101), (vI 110), (vI 116), (vI 32), (vI 112), (vI 101), (vI 114), (vI 109), (vI 105), (vI 115), (vI 115), (vI 105), (vI 111), (vI 110), (vI 115), (vI 58), (vI 32)] h13 n0 Z13 c19 uS uP c16 c20 c21 c22 rfl c23 fE13 fV13 fC13 fK13 g_b3 g_nb_7) hZ13 (wd hw 69 rfl) (wd hw 48 rfl) (by decide) (by decide)) q18a q18c (g := (mkF m 19 #[vr r0] [(.ref b13), (.ref b3), (vI 403), (vI 403), (.ref b1), (.ref b1)])) rfl (by rw [hml]; rfl) (Steps.refl _) (argsL := [(.ref b13)]) (rest := [(vI 403), (vI 403), (.ref b1), (.ref b1)]) (lenOf pd_20 rfl) rfl (by show 2 * 0 + _ ≤ _; exact Nat.le_of_eq rfl) (hb hby d9_19) (fun _ _ => ⟨rfl, e13, (by decide : 5 + 1 ≤ _), (by decide : 136 + 34 ≤ _)⟩)
  dsimp only [Pt.U, Pt.locs, Pt.cells, Pt.slots] at X18 lq18 yq18 zq18 st18 hQ18
  have X18 := own_reb X18 lq18 yq18 zq18
  obtain ⟨nb_18, nk_18, nv_18, rfl, Nq18, Kq18, f18_0, f18_1, f18_2, f18_3, f18_4, f18_5, f18_6, f18_7⟩ := hQ18
  have N18 := Fr.app N7 Nq18
  have c24 := ((((us.ext E1).ext E3).keep Kq7).ext E13)
  have ne_r0_nb_18 : r0 ≠ nb_18 := Nat.ne_of_lt (Nat.lt_of_lt_of_le c24.lt f18_3)
  have c25 := ((((usV.ext E1).ext E3).keep Kq7 (ninS ne_rt_b3 nin0)).ext E13)
  have ne_rt_nb_18 : rt ≠ nb_18 := Nat.ne_of_lt (Nat.lt_of_lt_of_le c25.lt f18_3)
  have ne_b1_nb_18 : b1 ≠ nb_18 := Nat.ne_of_lt (Nat.lt_of_lt_of_le c15.lt f18_3)
  have ne_b3_nb_18 : b3 ≠ nb_18 := Nat.ne_of_lt (Nat.lt_of_lt_of_le c16.lt f18_3)
  have c26 := (f7_4.ext E13)
  have ne_nb_7_nb_18 : nb_7 ≠ nb_18 := Nat.ne_of_lt (Nat.lt_of_lt_of_le c26.lt f18_3)
  have ne_b13_nb_18 : b13 ≠ nb_18 := Nat.ne_of_lt (Nat.lt_of_lt_of_le fE13.lt f18_3)
  have ne_t13_nb_18 : t13 ≠ nb_18 := Nat.ne_of_lt (Nat.lt_of_lt_of_le fK13.lt f18_3)
  have g_nb_18 : n0 ≤ nb_18 := Nat.le_trans Z13 f18_3
  have sz_nb_18 : h0.size ≤ nb_18 := Nat.le_trans K13.1 f18_3
  have Re27 := Re14.trans (CHr.keep Kq18 (allS (Safe.exa hZ13.alike c16 (by decide) (by decide)) all0) hCe14)
  have hCe27 := Re27.1
  have sf_nb_18 := Safe.keep Kq18 (allS (Safe.exa hZ13.alike c16 (by decide) (by decide)) all0) hCe14 (Safe.new f18_3)
  have K18 : Keep h0 T18.heap [] := K13.trans Kq18 (allS (Or.inr sz_b3) all0)
  have Z18 : n0 ≤ T18.heap.size := Nat.le_trans Z13 Kq18.1
  have hk18 : _ ≤ T18.heap.size := Nat.le_trans hk13 Kq18.1
  have c29 := (c19.keep Kq18 (allS g_b3 all0))
  have c30 := (c16.keep Kq18)
  have c31 := (((((us.ext E1).ext E3).keep Kq7).ext E13).keep Kq18)
  have c32 := (((((usv.ext E1).ext E3).keep Kq7 (ninS ne_r0_b3 nin0)).ext E13).keep Kq18 (ninS ne_r0_b3 nin0))
  have c33 := (((((usc.ext E1).ext E3).keep Kq7 (ninS ne_r0_b3 nin0)).ext E13).keep Kq18 (ninS ne_r0_b3 nin0))
  have c34 := (((((usV.ext E1).ext E3).keep Kq7 (ninS ne_rt_b3 nin0)).ext E13).keep Kq18 (ninS ne_rt_b3 nin0))
  obtain ⟨cq28, kq28, q28a, q28b, q28c⟩ := isOf hZ13 rfl c30
  obtain ⟨_, _, ⟨T28, Lw28, kw28, nw28⟩, -, X28, ⟨Lc28, hQ28, lq28, yq28, zq28⟩, st28⟩ := X18.virtualBack hx (y := M16) (z := M16) hown13 (mvT hZ13 (wd hw 65 rfl)) (mvT hZ13 (wd hw 66 rfl)) (notFace_of_selects (args := #[]) (mvT hZ13 (wd hw 68 rfl))) (mvT hZ13 (wd hw 68 rfl)) (mvT hZ13 (wd hw 67 rfl)) (by decide) (backOf (W := 4) (rg_app l Z a0 hw [] b3 r0 zc nb_18 nk_18 (34 : Int32) nv_18 rt kt (1 : Int32) ((([p1] : List Int32).map (fun c => c.toInt8.toInt32)).map Value.int) (26 : Int32) (27 : Int32) T18.heap n0 Z18 c29 uS uP c30 f18_0 f18_1 f18_5 f18_6 f18_2 c31 c32 c33 c34 (by decide) (by decide) (by decide) (by decide) (by decide) g_b3 g_nb_18) hZ13 (wd hw 69 rfl) (wd hw 48 rfl) (by decide) (by decide)) q28a q28c (g := (mkF m 23 #[vr r0] [(.ref r0), (.ref b3), (vI 403), (vI 403), (.ref b1), (.ref b1)])) rfl (by rw [hml]; rfl) (Steps.refl _) (argsL := [(.ref r0)]) (rest := [(vI 403), (vI 403), (.ref b1), (.ref b1)]) (lenOf pd_20 rfl) rfl (by show 2 * 0 + _ ≤ _; exact Nat.le_of_eq rfl) (hb hby d9_23) (fun _ _ => ⟨rfl, rfl, (by decide : 6 + 0 ≤ _), (by decide : 170 + 0 ≤ _)⟩)
  dsimp only [Pt.U, Pt.locs, Pt.cells, Pt.slots] at X28 lq28 yq28 zq28 st28 hQ28
  have X28 := own_reb X28 lq28 yq28 zq28
  obtain ⟨rfl, Nq28, Kq28, f28_0, f28_1, f28_2, f28_3⟩ := hQ28
  have N28 := Fr.app N18 Nq28
  have Re35 := Re27.trans (CHr.keep Kq28 (allS (Safe.exa hZ13.alike c30 (by decide) (by decide)) (allS sf_nb_18 all0)) hCe27)
  have hCe35 := Re35.1
  have K28 : Keep h0 T28.heap [] := K18.trans Kq28 (allS (Or.inr sz_b3) (allS (Or.inr sz_nb_18) all0))
  have Z28 : n0 ≤ T28.heap.size := Nat.le_trans Z18 Kq28.1
  have hk28 : _ ≤ T28.heap.size := Nat.le_trans hk18 Kq28.1
  have c37 := (c29.keep Kq28 (allS g_b3 (allS g_nb_18 all0)))
  have c38 := (c30.keep Kq28)
  obtain ⟨cq36, kq36, q36a, q36b, q36c⟩ := isOf hZ13 rfl c38
  obtain ⟨_, _, ⟨T36, Lw36, kw36, nw36⟩, -, X36, ⟨Lc36, hQ36, lq36, yq36, zq36⟩, st36⟩ := X28.virtualBack hx (y := M21) (z := M21) hown13 (mvT hZ13 (wd hw 135 rfl)) (mvT hZ13 (wd hw 136 rfl)) (notFace_of_selects (args := #[]) (mvT hZ13 (wd hw 138 rfl))) (mvT hZ13 (wd hw 138 rfl)) (mvT hZ13 (wd hw 137 rfl)) (by decide) (backOf (W := 4) (rg_tos l Z a0 hw [] b3 zc nb_18 nk_18 (34 : Int32) (own_put (26 : Int32).toNatClampNeg (1 : Int32).toNatClampNeg nv_18 ((([p1] : List Int32).map (fun c => c.toInt8.toInt32)).map Value.int)) (27 : Int32) T28.heap n0 Z28 c37 uS uP c38 f28_0 f28_1 f28_3 f28_2 (by decide) (by decide) (by decide) (by decide)) hZ13 (wd hw 139 rfl) (wd hw 48 rfl) (by decide) (by decide)) q36a q36c (g := (mkF m 26 #[vr r0] [(.ref b3), (vI 403), (vI 403), (.ref b1), (.ref b1)])) rfl (by rw [hml]; rfl) (Steps.refl _) (argsL := []) (rest := [(vI 403), (vI 403), (.ref b1), (.ref b1)]) (lenOf pd_21 rfl) rfl (by show 2 * 0 + _ ≤ _; exact Nat.le_of_eq rfl) (hb hby d9_26) (fun _ _ => ⟨rfl, rfl, (by decide : 6 + 2 ≤ _), (by decide : 170 + 68 ≤ _)⟩)
  dsimp only [Pt.U, Pt.locs, Pt.cells, Pt.slots] at X36 lq36 yq36 zq36 st36 hQ36
  have X36 := own_reb X36 lq36 yq36 zq36
  obtain ⟨nx_36, nb_36, nk_36, rfl, Nq36, Kq36, f36_0, f36_1, f36_2, f36_3, f36_4, f36_5⟩ := hQ36
  have N36 := Fr.app N28 Nq36
  have c39 := (c31.keep Kq28)
  have ne_r0_nx_36 : r0 ≠ nx_36 := Nat.ne_of_lt (Nat.lt_of_lt_of_le c39.lt f36_0)
  have c40 := (c34.keep Kq28 (ninS ne_rt_b3 (ninS ne_rt_nb_18 nin0)))
  have ne_rt_nx_36 : rt ≠ nx_36 := Nat.ne_of_lt (Nat.lt_of_lt_of_le c40.lt f36_0)
  have c41 := ((c15.keep Kq18).keep Kq28)
  have ne_b1_nx_36 : b1 ≠ nx_36 := Nat.ne_of_lt (Nat.lt_of_lt_of_le c41.lt f36_0)
  have ne_b3_nx_36 : b3 ≠ nx_36 := Nat.ne_of_lt (Nat.lt_of_lt_of_le c38.lt f36_0)
  have c42 := (((f7_4.ext E13).keep Kq18).keep Kq28)
  have ne_nb_7_nx_36 : nb_7 ≠ nx_36 := Nat.ne_of_lt (Nat.lt_of_lt_of_le c42.lt f36_0)
  have c43 := ((fE13.keep Kq18).keep Kq28)
  have ne_b13_nx_36 : b13 ≠ nx_36 := Nat.ne_of_lt (Nat.lt_of_lt_of_le c43.lt f36_0)
  have c44 := ((fK13.keep Kq18 (ninS (Ne.symm nlb3_13.2) nin0)).keep Kq28 (ninS (Ne.symm nlb3_13.2) (ninS ne_t13_nb_18 nin0)))
  have ne_t13_nx_36 : t13 ≠ nx_36 := Nat.ne_of_lt (Nat.lt_of_lt_of_le c44.lt f36_0)
  have c45 := (f18_4.keep Kq28)
  have ne_nb_18_nx_36 : nb_18 ≠ nx_36 := Nat.ne_of_lt (Nat.lt_of_lt_of_le c45.lt f36_0)
  have g_nx_36 : n0 ≤ nx_36 := Nat.le_trans Z28 f36_0
  have sz_nx_36 : h0.size ≤ nx_36 := Nat.le_trans K28.1 f36_0
  have c46 := (c31.keep Kq28)
  have ne_r0_nb_36 : r0 ≠ nb_36 := Nat.ne_of_lt (Nat.lt_of_lt_of_le c46.lt f36_4)
  have c47 := (c34.keep Kq28 (ninS ne_rt_b3 (ninS ne_rt_nb_18 nin0)))
  have ne_rt_nb_36 : rt ≠ nb_36 := Nat.ne_of_lt (Nat.lt_of_lt_of_le c47.lt f36_4)
  have c48 := ((c15.keep Kq18).keep Kq28)
  have ne_b1_nb_36 : b1 ≠ nb_36 := Nat.ne_of_lt (Nat.lt_of_lt_of_le c48.lt f36_4)
  have ne_b3_nb_36 : b3 ≠ nb_36 := Nat.ne_of_lt (Nat.lt_of_lt_of_le c38.lt f36_4)
  have c49 := (((f7_4.ext E13).keep Kq18).keep Kq28)
  have ne_nb_7_nb_36 : nb_7 ≠ nb_36 := Nat.ne_of_lt (Nat.lt_of_lt_of_le c49.lt f36_4)
  have c50 := ((fE13.keep Kq18).keep Kq28)
  have ne_b13_nb_36 : b13 ≠ nb_36 := Nat.ne_of_lt (Nat.lt_of_lt_of_le c50.lt f36_4)
  have c51 := ((fK13.keep Kq18 (ninS (Ne.symm nlb3_13.2) nin0)).keep Kq28 (ninS (Ne.symm nlb3_13.2) (ninS ne_t13_nb_18 nin0)))
  have ne_t13_nb_36 : t13 ≠ nb_36 := Nat.ne_of_lt (Nat.lt_of_lt_of_le c51.lt f36_4)
  have c52 := (f18_4.keep Kq28)
  have ne_nb_18_nb_36 : nb_18 ≠ nb_36 := Nat.ne_of_lt (Nat.lt_of_lt_of_le c52.lt f36_4)
  have g_nb_36 : n0 ≤ nb_36 := Nat.le_trans Z28 f36_4
  have sz_nb_36 : h0.size ≤ nb_36 := Nat.le_trans K28.1 f36_4
  have Re53 := Re35.trans (CHr.keep Kq36 all0 hCe35)
  have hCe53 := Re53.1
  have sf_nx_36 := Safe.keep Kq36 all0 hCe35 (Safe.new f36_0)
  have sf_nb_36 := Safe.keep Kq36 all0 hCe35 (Safe.new f36_4)
  have K36 : Keep h0 T36.heap [] := K28.trans Kq36 all0
  have Z36 : n0 ≤ T36.heap.size := Nat.le_trans Z28 Kq36.1
  have hk36 : _ ≤ T36.heap.size := Nat.le_trans hk28 Kq36.1
  have Vmsg : Arv Z T36.heap nb_36 nk_36 .byte (27 : Int32) ((([73, 110, 115, 117, 102, 102, 105, 99, 105, 101, 110, 116, 32, 112, 101, 114, 109, 105, 115, 115, 105, 111, 110, 115, 58, 32, p1] : List Int32).map (fun c => c.toInt8.toInt32)).map Value.int) z0 := by have q := f36_5; rw [f18_7] at q; exact q
  have c55 := (c37.keep Kq36 all0)
  have c56 := (((c15.keep Kq18).keep Kq28).keep Kq36)
  have c57 := ((((((Ut1.ext E3).keep Kq7 (ninS ne_b1_b3 nin0)).ext E13).keep Kq18 (ninS ne_b1_b3 nin0)).keep Kq28 (ninS ne_b1_b3 (ninS ne_b1_nb_18 nin0))).keep Kq36 nin0)
  have c58 := ((((((F1_cause.ext E3).keep Kq7 (ninS ne_b1_b3 nin0)).ext E13).keep Kq18 (ninS ne_b1_b3 nin0)).keep Kq28 (ninS ne_b1_b3 (ninS ne_b1_nb_18 nin0))).keep Kq36 nin0)
  have c59 := ((((((F1_stackTrace.ext E3).keep Kq7 (ninS ne_b1_b3 nin0)).ext E13).keep Kq18 (ninS ne_b1_b3 nin0)).keep Kq28 (ninS ne_b1_b3 (ninS ne_b1_nb_18 nin0))).keep Kq36 nin0)
  have c60 := ((((((F1_suppressedExceptions.ext E3).keep Kq7 (ninS ne_b1_b3 nin0)).ext E13).keep Kq18 (ninS ne_b1_b3 nin0)).keep Kq28 (ninS ne_b1_b3 (ninS ne_b1_nb_18 nin0))).keep Kq36 nin0)
  have c61 := ((((((F1_backtrace.ext E3).keep Kq7 (ninS ne_b1_b3 nin0)).ext E13).keep Kq18 (ninS ne_b1_b3 nin0)).keep Kq28 (ninS ne_b1_b3 (ninS ne_b1_nb_18 nin0))).keep Kq36 nin0)
  have c62 := ((((((F1_detailMessage.ext E3).keep Kq7 (ninS ne_b1_b3 nin0)).ext E13).keep Kq18 (ninS ne_b1_b3 nin0)).keep Kq28 (ninS ne_b1_b3 (ninS ne_b1_nb_18 nin0))).keep Kq36 nin0)
  have c63 := ((((((F1_status.ext E3).keep Kq7 (ninS ne_b1_b3 nin0)).ext E13).keep Kq18 (ninS ne_b1_b3 nin0)).keep Kq28 (ninS ne_b1_b3 (ninS ne_b1_nb_18 nin0))).keep Kq36 nin0)
  have c64 := ((((((F1_code.ext E3).keep Kq7 (ninS ne_b1_b3 nin0)).ext E13).keep Kq18 (ninS ne_b1_b3 nin0)).keep Kq28 (ninS ne_b1_b3 (ninS ne_b1_nb_18 nin0))).keep Kq36 nin0)
  obtain ⟨_, _, ⟨T54, Lw54, kw54, nw54⟩, -, X54', hS54', hg54, ⟨Lc54, hQ54, lq54, yq54, zq54, CH54⟩, st54⟩ := X36.specialBackS hx (y := M29) rfl hown13 (mvT hZ13 (wd hw 174 rfl)) (mvT hZ13 (wd hw 175 rfl)) (mvT hZ13 (wd hw 176 rfl)) (by decide) (backOfSKH (W := 1) (rmX l Z a0 hw [] b1 (403 : Int32) (403 : Int32) nx_36 zc vu vq T36.heap n0 Z36 c55 uS uP uLt uZu uRu uZs uRs c56 c57 c58 c59 c60 c61 c62 c63 c64 g_b1) hZ13 (wd hw 176 rfl) (wd hw 42 rfl) (by decide) (by decide) (own_EW hw) hCe53 (Vm.MethodsKnown.alikeC hS13.1.alike hK.1) (Vm.FramesKnown.alikeC hS13.1.alike hK.2)) (g := (mkF m 29 #[vr r0] [(.ref nx_36), (vI 403), (vI 403), (.ref b1), (.ref b1)])) rfl (by rw [hml]; rfl) (Steps.refl _) (a := b1) (argsL := [(vI 403), (vI 403), (.ref nx_36)]) (rest := [(.ref b1)]) (lenOf pd_22 rfl) rfl (by show 2 * 0 + _ ≤ _; exact Nat.le_of_eq rfl) (hb hby d9_29) (fun _ _ => ⟨rfl, rfl, (by decide : 8 + 1 ≤ _), (by decide : 238 + 2752 ≤ _)⟩)
  dsimp only [Pt.U, Pt.locs, Pt.cells, Pt.slots] at X54' hS54' hg54 lq54 yq54 zq54 st54 hQ54 CH54
  have X54' := own_reb X54' lq54 yq54 zq54
  obtain ⟨X54, hS54, hZ54, hown54⟩ := rebS hS13 (own_hk rfl hk36) X54' hS54' hg54 hZ13 hown13
  obtain ⟨rfl, Nq54, Kq54, f54_0, f54_1, f54_2⟩ := hQ54
  have N54 := Fr.app N36 Nq54
  have Re65 := Re53.trans CH54
  have hCe65 := Re65.1
  have K54 : Keep h0 T54.heap [] := K36.trans Kq54 (allS (Or.inr sz_b1) all0)
  have Z54 : n0 ≤ T54.heap.size := Nat.le_trans Z36 Kq54.1
  have hk54 : T54.heap.size ≤ T54.heap.size := Nat.le_refl _
  have c66 := (c56.keep Kq54)
  have c67 := (f36_1.keep Kq54)
  have c68 := (f36_2.keep Kq54 (ninS (Ne.symm ne_b1_nx_36) nin0))
  have c69 := (f36_3.keep Kq54 (ninS (Ne.symm ne_b1_nx_36) nin0))
  have c70 := (Vmsg.keep Kq54 (ninS (Ne.symm ne_b1_nb_36) nin0))
  obtain ⟨fs, hr, hrun, hended, en1, en2, en3, en4⟩ := X54.leaveW hS54 (own_hk rfl hk54) (v := some (.ref b1)) (fun h => by rw [Bd.returns] at h; cases h)
  refine ⟨_, _, pre0 _ ?_, hrun, hended, _, _, rfl, ?_, own_chr (T := T54) hh rfl (Re65.trans (CHv.at X54 hZ54 (own_EW hw) hCe65)), en1, en2, en3, en4.mono (by decide) (by decide)⟩
  · show SS p e below s₁ (mkF m 0 #[vr r0] []) _
    refine st1 _ ?_
    refine XS.dup X1.here hx rfl (hb hby d9_3) rfl rfl ?_
    refine XS.sipush X1.here hx rfl (hb hby d9_4) ?_
    refine XS.sipush X1.here hx rfl (hb hby d9_7) ?_
    refine st3 _ ?_
    refine XS.dup X3.here hx rfl (hb hby d9_13) rfl rfl ?_
    show SS p e below T3 (mkF m 14 #[vr r0] [(.ref b3), (.ref b3), (vI 403), (vI 403), (.ref b1), (.ref b1)]) _
    refine st7.trans ?_
    show SS p e below T7 (mkF m 17 #[vr r0] [(.ref b3), (vI 403), (vI 403), (.ref b1), (.ref b1)]) _
    refine st13 _ ?_
    show SS p e below T13 (mkF m 19 #[vr r0] [(.ref b13), (.ref b3), (vI 403), (vI 403), (.ref b1), (.ref b1)]) _
    refine st18.trans ?_
    refine XS.aloadN X18.here hx rfl (hb hby d9_22) rfl rfl ?_
    show SS p e below T18 (mkF m 23 #[vr r0] [(.ref r0), (.ref b3), (vI 403), (vI 403), (.ref b1), (.ref b1)]) _
    refine st28.trans ?_
    show SS p e below T28 (mkF m 26 #[vr r0] [(.ref b3), (vI 403), (vI 403), (.ref b1), (.ref b1)]) _
    refine st36.trans ?_
    show SS p e below T36 (mkF m 29 #[vr r0] [(.ref nx_36), (vI 403), (vI 403), (.ref b1), (.ref b1)]) _
    refine st54.trans ?_
    exact retOut X54 hx Bd.returns rfl (Or.inr (Or.inr (Or.inr (Or.inr ⟨rfl, rfl, rfl⟩)))) (hb hby d9_32) hr
  · show Q_rmF1 Z r0 zc vu vq rt kt p1 h0 n0 _ T54.heap _
    exact ⟨b1, nx_36, nb_36, nk_36, rfl, N54, K54, sz_b1, c66, f54_0, f54_1, f54_2, c67, c68, c69, c70⟩
def Q_rmF2 (Z : State) (r0 : Addr) (zc : Int32) (vu : Value) (vq : Value) (rt : Addr) (kt : ClassId) (p1 : Int32) (p2 : Int32) (h0 : Heap) (n0 : Nat) (v : Option Value) (h : Heap) (L : List Loc) : Prop := ∃ (nx : Addr), ∃ (nm : Addr), ∃ (nt : Addr), ∃ (nk : ClassId), (v = some (.ref nx) ∧ Fr n0 L ∧ Keep h0 h [] ∧ h0.size ≤ nx ∧ Exa Z h nx "com/example/plain_hub/plainhub/HubException" ∧ Fld Z h nx "com/example/plain_hub/plainhub/HubException" "status" "I" (vI 403) ∧ Fld Z h nx "com/example/plain_hub/plainhub/HubException" "code" "I" (vI 403) ∧ Fld Z h nx "java/lang/Throwable" "detailMessage" "Ljava/lang/String;" (.ref nm) ∧ Exa Z h nm "java/lang/String" ∧ Fld Z h nm "java/lang/String" "coder" "B" z0 ∧ Fld Z h nm "java/lang/String" "value" "[B" (.ref nt) ∧ Arv Z h nt nk .byte (28 : Int32) ((([73, 110, 115, 117, 102, 102, 105, 99, 105, 101, 110, 116, 32, 112, 101, 114, 109, 105, 115, 115, 105, 111, 110, 115, 58, 32, p1, p2] : List Int32).map (fun c => c.toInt8.toInt32)).map Value.int) z0)
set_option maxRecDepth 65536 in
set_option maxHeartbeats 40000000 in
theorem rmF2 (l : Launch) (Z : State) (a0 : Array Value) (hw : ∀ d ∈ tables_1, d.before a0 Z = true) (ws : List Jvm.Cond) (r0 : Addr) (zc : Int32) (vu : Value) (vq : Value) (rt : Addr) (kt : ClassId) (p1 : Int32) (p2 : Int32) (h0 : Heap) (n0 : Nat) (Z0 : n0 ≤ h0.size) (uO : Old Z n0 h0) (uS : Sta Z Z.heap "java/lang/String" "COMPACT_STRINGS" "Z" (.int zc)) (uP : ¬ zc = 0) (uLt : l.stackTraces = true) (uZu : Sta Z Z.heap "java/lang/Throwable" "UNASSIGNED_STACK" "[Ljava/lang/StackTraceElement;" vu) (uRu : vu.isRef = true) (uZs : Sta Z Z.heap "java/lang/Throwable" "SUPPRESSED_SENTINEL" "Ljava/util/List;" vq) (uRs : vq.isRef = true) (us : Exa Z h0 r0 "java/lang/String") (usv : Fld Z h0 r0 "java/lang/String" "value" "[B" (.ref rt)) (usc : Fld Z h0 r0 "java/lang/String" "coder" "B" z0) (usV : Arv Z h0 rt kt .byte (2 : Int32) ((([p1, p2] : List Int32).map (fun c => c.toInt8.toInt32)).map Value.int) z0) :
    MetFree l M36 (head1 (Jvm.Cond.code M36 prog_2_method_4_code 1 (some (.object "com/example/plain_hub/plainhub/HubException")) :: ws) ({ frames := 7, cells := 9, slots := 2990, locals := 97 } : Room)) (fun a U => a = #[(.ref r0)] ∧ Z.Warmed39 U.vm ∧ U.heap = h0 ∧ CHv Z own_EL U.vm h0) (fun _ _ bl s _ => s.vm.MethodsKnown ∧ s.vm.FramesKnown bl) (fun _ U o U' => ∃ v L, o = .returned v ∧ Q_rmF2 Z r0 zc vu vq rt kt p1 p2 h0 n0 v U'.heap L ∧ CHr Z own_EL U.vm U.heap U'.vm U'.heap ∧ ReturnedEndW U o U' L ({ frames := 7, cells := 9, slots := 2990, locals := 97 } : Room).cells ({ frames := 7, cells := 9, slots := 2990, locals := 97 } : Room).slots) := by
  refine MetFree.of_bodySF (plainFor_of_name pn_8) hisR ?_
  intro p e s m args below meth c s₁ Bd hml0 hP hK
  obtain ⟨rfl, hZ, hh, hC0⟩ := hP
  have hx := Bd.exec
  have hby := Bd.bytes
  have hml : c.maxLocals = 1 := hml0
  have hown : s.vm.findClass "com/example/plain_hub/plainhub/HubException" = some m.cls := findClass_of_methodNamed Bd.named
  have hnm := (name_of_methodNamed Bd.named Bd.method).1
  have X0 : Stand p l e ({ frames := 7, cells := 9, slots := 2990, locals := 97 } : Room) (s.setVm s.vm) m #[(.ref r0)] below meth c s₁ [] 0 0 := Stand.of_body Bd
  have e0 : s₁.heap = h0 := by rw [← hh, Bd.state]; rfl
  have N0 := Fr.nil n0
  have pre0 : ∀ t, Steps p.tables e below (s₁.setTop (mkF m 0 #[vr r0] [])) t → Steps p.tables e below (s₁.setTop (entryFrame m #[(.ref r0)] 1)) t := fun t k => castTop (ef_45 m r0) k
  have hS0 : s.Since s.vm 0 := (State.WarmedH.refl s).since _
  have hk0 : 0 ≤ h0.size := Nat.zero_le _
  have R0 := CHr.refl hC0
  obtain ⟨T1, h1, X1, e1, E1, A1, D1, Un1, st1⟩ := newO X0 hx hZ hown (wd hw 44 rfl) (wd hw 45 rfl) (wd hw 42 rfl) e0 (g := (mkF m 0 #[vr r0] [])) rfl (hb hby d9_0) (by decide) (by decide)
  obtain ⟨b1, g1⟩ : ∃ z, z = h0.size := ⟨_, rfl⟩
  rw [← g1] at A1 D1 Un1 st1
  have ne_r0_b1 : r0 ≠ b1 := Nat.ne_of_lt (Nat.lt_of_lt_of_le us.lt (Nat.le_of_eq g1.symm))
  have ne_rt_b1 : rt ≠ b1 := Nat.ne_of_lt (Nat.lt_of_lt_of_le usV.lt (Nat.le_of_eq g1.symm))
  have Re2 := R0.trans (CHr.ext E1 hC0)
  have hCe2 := Re2.1
  have Ut1 : Unt h1 b1 := Un1
  have F1_cause : Fld Z h1 b1 "java/lang/Throwable" "cause" "Ljava/lang/Throwable;" .null := D1 (Or.inl (wd hw 196 rfl)) (ty := (.object "java/lang/Throwable")) (by decide)
  have F1_stackTrace : Fld Z h1 b1 "java/lang/Throwable" "stackTrace" "[Ljava/lang/StackTraceElement;" .null := D1 (Or.inl (wd hw 199 rfl)) (ty := (.array (.object "java/lang/StackTraceElement"))) (by decide)
  have F1_suppressedExceptions : Fld Z h1 b1 "java/lang/Throwable" "suppressedExceptions" "Ljava/util/List;" .null := D1 (Or.inl (wd hw 202 rfl)) (ty := (.object "java/util/List")) (by decide)
  have F1_detailMessage : Fld Z h1 b1 "java/lang/Throwable" "detailMessage" "Ljava/lang/String;" .null := D1 (Or.inl (wd hw 226 rfl)) (ty := (.object "java/lang/String")) (by decide)
  have F1_backtrace : Fld Z h1 b1 "java/lang/Throwable" "backtrace" "Ljava/lang/Object;" .null := D1 (Or.inl (wd hw 227 rfl)) (ty := (.object "java/lang/Object")) (by decide)
  have F1_depth : Fld Z h1 b1 "java/lang/Throwable" "depth" "I" z0 := D1 (Or.inl (wd hw 228 rfl)) (ty := .int) (by decide)
  have F1_status : Fld Z h1 b1 "com/example/plain_hub/plainhub/HubException" "status" "I" z0 := D1 (Or.inr (wd hw 232 rfl)) (ty := .int) (by decide)
  have F1_code : Fld Z h1 b1 "com/example/plain_hub/plainhub/HubException" "code" "I" z0 := D1 (Or.inr (wd hw 234 rfl)) (ty := .int) (by decide)
  have g_b1 : n0 ≤ b1 := Nat.le_trans Z0 (Nat.le_of_eq g1.symm)
  have sz_b1 : h0.size ≤ b1 := Nat.le_trans (Keep.refl h0 []).1 (Nat.le_of_eq g1.symm)
  have K1 : Keep h0 h1 [] := (Keep.refl h0 []).ext E1
  have Z1 : n0 ≤ h1.size := Nat.le_trans Z0 E1.1
  have hk1 : _ ≤ h1.size := Nat.le_trans hk0 E1.1
  obtain ⟨T3, h3, X3, e3, E3, A3, D3, Un3, st3⟩ := newO X1 hx hZ hown (wd hw 46 rfl) (wd hw 47 rfl) (wd hw 48 rfl) e1 (g := (mkF m 10 #[vr r0] [(vI 403), (vI 403), (.ref b1), (.ref b1)])) rfl (hb hby d9_10) (by decide) (by decide)
  obtain ⟨b3, g3⟩ : ∃ z, z = h1.size := ⟨_, rfl⟩
  rw [← g3] at A3 D3 Un3 st3
  have c4 := (us.ext E1)
  have ne_r0_b3 : r0 ≠ b3 := Nat.ne_of_lt (Nat.lt_of_lt_of_le c4.lt (Nat.le_of_eq g3.symm))
  have c5 := (usV.ext E1)
  have ne_rt_b3 : rt ≠ b3 := Nat.ne_of_lt (Nat.lt_of_lt_of_le c5.lt (Nat.le_of_eq g3.symm))
  have ne_b1_b3 : b1 ≠ b3 := Nat.ne_of_lt (Nat.lt_of_lt_of_le A1.lt (Nat.le_of_eq g3.symm))
  have Re6 := Re2.trans (CHr.ext E3 hCe2)
  have hCe6 := Re6.1
  have Ut3 : Unt h3 b3 := Un3
  have F3_value : Fld Z h3 b3 "java/lang/AbstractStringBuilder" "value" "[B" .null := D3 (Or.inl (wd hw 61 rfl)) (ty := (.array .byte)) (by decide)
  have F3_coder : Fld Z h3 b3 "java/lang/AbstractStringBuilder" "coder" "B" z0 := D3 (Or.inl (wd hw 63 rfl)) (ty := .byte) (by decide)
  have F3_count : Fld Z h3 b3 "java/lang/AbstractStringBuilder" "count" "I" z0 := D3 (Or.inl (wd hw 86 rfl)) (ty := .int) (by decide)
  have g_b3 : n0 ≤ b3 := Nat.le_trans Z1 (Nat.le_of_eq g3.symm)
  have sz_b3 : h0.size ≤ b3 := Nat.le_trans K1.1 (Nat.le_of_eq g3.symm)
  have K3 : Keep h0 h3 [] := K1.ext E3
  have Z3 : n0 ≤ h3.size := Nat.le_trans Z1 E3.1
  have hk3 : _ ≤ h3.size := Nat.le_trans hk1 E3.1
  have c8 := ((uO.ext E1).ext E3)
  obtain ⟨_, _, ⟨T7, Lw7, kw7, nw7⟩, -, X7, ⟨Lc7, hQ7, lq7, yq7, zq7⟩, st7⟩ := X3.specialBack hx (y := M7) rfl hown (mvT hZ (wd hw 49 rfl)) (mvT hZ (wd hw 50 rfl)) (mvT hZ (wd hw 51 rfl)) (by decide) (backOf (W := 5) (rmSB l Z a0 hw [] b3 zc h3 n0 Z3 c8 uS uP A3 F3_value F3_coder F3_count g_b3) hZ (wd hw 51 rfl) (wd hw 48 rfl) (by decide) (by decide)) (g := (mkF m 14 #[vr r0] [(.ref b3), (.ref b3), (vI 403), (vI 403), (.ref b1), (.ref b1)])) rfl (by rw [hml]; rfl) (Steps.refl _) (a := b3) (argsL := []) (rest := [(.ref b3), (vI 403), (vI 403), (.ref b1), (.ref b1)]) (lenOf pd_19 rfl) rfl (by show 2 * 0 + _ ≤ _; exact Nat.le_of_eq rfl) (hb hby d9_14) (fun _ _ => ⟨rfl, e3, (by decide : 2 + 1 ≤ _), (by decide : 12 + 16 ≤ _)⟩)
  dsimp only [Pt.U, Pt.locs, Pt.cells, Pt.slots] at X7 lq7 yq7 zq7 st7 hQ7
  have X7 := own_reb X7 lq7 yq7 zq7
  obtain ⟨nb_7, nk_7, rfl, Nq7, Kq7, f7_0, f7_1, f7_2, f7_3, f7_4, f7_5⟩ := hQ7
  have N7 := Fr.app N0 Nq7
  have c9 := ((us.ext E1).ext E3)
  have ne_r0_nb_7 : r0 ≠ nb_7 := Nat.ne_of_lt (Nat.lt_of_lt_of_le c9.lt f7_3)
  have c10 := ((usV.ext E1).ext E3)
  have ne_rt_nb_7 : rt ≠ nb_7 := Nat.ne_of_lt (Nat.lt_of_lt_of_le c10.lt f7_3)
  have c11 := (A1.ext E3)
  have ne_b1_nb_7 : b1 ≠ nb_7 := Nat.ne_of_lt (Nat.lt_of_lt_of_le c11.lt f7_3)
  have ne_b3_nb_7 : b3 ≠ nb_7 := Nat.ne_of_lt (Nat.lt_of_lt_of_le A3.lt f7_3)
  have g_nb_7 : n0 ≤ nb_7 := Nat.le_trans Z3 f7_3
  have sz_nb_7 : h0.size ≤ nb_7 := Nat.le_trans K3.1 f7_3
  have Re12 := Re6.trans (CHr.keep Kq7 (allS (Safe.exa hZ.alike A3 (by decide) (by decide)) all0) hCe6)
  have hCe12 := Re12.1
  have sf_nb_7 := Safe.keep Kq7 (allS (Safe.exa hZ.alike A3 (by decide) (by decide)) all0) hCe6 (Safe.new f7_3)
  have K7 : Keep h0 T7.heap [] := K3.trans Kq7 (allS (Or.inr sz_b3) all0)
  have Z7 : n0 ≤ T7.heap.size := Nat.le_trans Z3 Kq7.1
  have hk7 : _ ≤ T7.heap.size := Nat.le_trans hk3 Kq7.1
  obtain ⟨b13, T13, h13, kk13, t13, kc13, X13, e13, E13, hS13, hk13, hZ13, hown13, fE13, fC13, fV13, fK13, lta13, ltb13, CH13, -, SF13, st13⟩ := ldcCH X7 hx hZ hown (wd hw 64 rfl) (fun d hd => hw d (own_strAtoms d hd)) rfl hS0 hk7 (own_EW hw) (by decide) hCe12 (vs := [(vI 73), (vI 110), (vI 115), (vI 117), (vI 102), (vI 102), (vI 105), (vI 99), (vI 105), (vI 101), (vI 110), (vI 116), (vI 32), (vI 112), (vI 101), (vI 114), (vI 109), (vI 105), (vI 115), (vI 115), (vI 105), (vI 111), (vI 110), (vI 115), (vI 58), (vI 32)]) (z := (26 : Int32)) ⟨by decide, by decide⟩ (by decide) (by decide) (g := (mkF m 17 #[vr r0] [(.ref b3), (vI 403), (vI 403), (.ref b1), (.ref b1)])) rfl (hb hby d9_17) (n := 104) (by decide) (by decide) (by decide) (by decide)
  have Re14 := Re12.trans CH13
  have hCe14 := Re14.1
  have c15 := (((A1.ext E3).keep Kq7).ext E13)
  have nlb1_13 := SF13 b1 (Safe.exa hZ13.alike c15 (by decide) (by decide))
  have c16 := ((A3.keep Kq7).ext E13)
  have nlb3_13 := SF13 b3 (Safe.exa hZ13.alike c16 (by decide) (by decide))
  have c17 := (CHr.safe CH13 f7_4.lt sf_nb_7)
  have nlnb_7_13 := SF13 nb_7 c17
  have K13 : Keep h0 h13 [] := K7.ext E13
  have Z13 : n0 ≤ h13.size := Nat.le_trans Z7 E13.1
  have c19 := ((c8.keep Kq7 (allS g_b3 all0)).ext E13)
  have c20 := (f7_0.ext E13)
  have c21 := (f7_1.ext E13)
  have c22 := (f7_5.ext E13)
  have c23 := (f7_2.ext E13)
  obtain ⟨cq18, kq18, q18a, q18b, q18c⟩ := isOf hZ13 e13 c16
  obtain ⟨_, _, ⟨T18, Lw18, kw18, nw18⟩, -, X18, ⟨Lc18, hQ18, lq18, yq18, zq18⟩, st18⟩ := X13.virtualBack hx (y := M16) (z := M16) hown13 (mvT hZ13 (wd hw 65 rfl)) (mvT hZ13 (wd hw 66 rfl)) (notFace_of_selects (args := #[]) (mvT hZ13 (wd hw 68 rfl))) (mvT hZ13 (wd hw 68 rfl)) (mvT hZ13 (wd hw 67 rfl)) (by decide) (backOf (W := 4) (rm_app_sb_0_26_16 l Z a0 hw [] b3 b13 zc nb_7 nk_7 [z0, z0, z0, z0, z0, z0, z0, z0, z0, z0, z0, z0, z0, z0, z0, z0] t13 kc13 [(vI 73), (vI 110), (vI 115), (vI 117), (vI 102), (vI 102), (vI 105), (vI 99), (vI 105), (vI 101), (vI 110), (vI 116), (vI 32), (vI 112), (vI 101), (vI 114), (vI 109), (vI 105), (vI 115), (vI 115), (vI 105), (vI 111), (vI 110), (vI 115), (vI 58), (vI 32)] h13 n0 Z13 c19 uS uP c16 c20 c21 c22 rfl c23 fE13 fV13 fC13 fK13 g_b3 g_nb_7) hZ13 (wd hw 69 rfl) (wd hw 48 rfl) (by decide) (by decide)) q18a q18c (g := (mkF m 19 #[vr r0] [(.ref b13), (.ref b3), (vI 403), (vI 403), (.ref b1), (.ref b1)])) rfl (by rw [hml]; rfl) (Steps.refl _) (argsL := [(.ref b13)]) (rest := [(vI 403), (vI 403), (.ref b1), (.ref b1)]) (lenOf pd_20 rfl) rfl (by show 2 * 0 + _ ≤ _; exact Nat.le_of_eq rfl) (hb hby d9_19) (fun _ _ => ⟨rfl, e13, (by decide : 5 + 1 ≤ _), (by decide : 136 + 34 ≤ _)⟩)
  dsimp only [Pt.U, Pt.locs, Pt.cells, Pt.slots] at X18 lq18 yq18 zq18 st18 hQ18
  have X18 := own_reb X18 lq18 yq18 zq18
  obtain ⟨nb_18, nk_18, nv_18, rfl, Nq18, Kq18, f18_0, f18_1, f18_2, f18_3, f18_4, f18_5, f18_6, f18_7⟩ := hQ18
  have N18 := Fr.app N7 Nq18
  have c24 := ((((us.ext E1).ext E3).keep Kq7).ext E13)
  have ne_r0_nb_18 : r0 ≠ nb_18 := Nat.ne_of_lt (Nat.lt_of_lt_of_le c24.lt f18_3)
  have c25 := ((((usV.ext E1).ext E3).keep Kq7 (ninS ne_rt_b3 nin0)).ext E13)
  have ne_rt_nb_18 : rt ≠ nb_18 := Nat.ne_of_lt (Nat.lt_of_lt_of_le c25.lt f18_3)
  have ne_b1_nb_18 : b1 ≠ nb_18 := Nat.ne_of_lt (Nat.lt_of_lt_of_le c15.lt f18_3)
  have ne_b3_nb_18 : b3 ≠ nb_18 := Nat.ne_of_lt (Nat.lt_of_lt_of_le c16.lt f18_3)
  have c26 := (f7_4.ext E13)
  have ne_nb_7_nb_18 : nb_7 ≠ nb_18 := Nat.ne_of_lt (Nat.lt_of_lt_of_le c26.lt f18_3)
  have ne_b13_nb_18 : b13 ≠ nb_18 := Nat.ne_of_lt (Nat.lt_of_lt_of_le fE13.lt f18_3)
  have ne_t13_nb_18 : t13 ≠ nb_18 := Nat.ne_of_lt (Nat.lt_of_lt_of_le fK13.lt f18_3)
  have g_nb_18 : n0 ≤ nb_18 := Nat.le_trans Z13 f18_3
  have sz_nb_18 : h0.size ≤ nb_18 := Nat.le_trans K13.1 f18_3
  have Re27 := Re14.trans (CHr.keep Kq18 (allS (Safe.exa hZ13.alike c16 (by decide) (by decide)) all0) hCe14)
  have hCe27 := Re27.1
  have sf_nb_18 := Safe.keep Kq18 (allS (Safe.exa hZ13.alike c16 (by decide) (by decide)) all0) hCe14 (Safe.new f18_3)
  have K18 : Keep h0 T18.heap [] := K13.trans Kq18 (allS (Or.inr sz_b3) all0)
  have Z18 : n0 ≤ T18.heap.size := Nat.le_trans Z13 Kq18.1
  have hk18 : _ ≤ T18.heap.size := Nat.le_trans hk13 Kq18.1
  have c29 := (c19.keep Kq18 (allS g_b3 all0))
  have c30 := (c16.keep Kq18)
  have c31 := (((((us.ext E1).ext E3).keep Kq7).ext E13).keep Kq18)
  have c32 := (((((usv.ext E1).ext E3).keep Kq7 (ninS ne_r0_b3 nin0)).ext E13).keep Kq18 (ninS ne_r0_b3 nin0))
  have c33 := (((((usc.ext E1).ext E3).keep Kq7 (ninS ne_r0_b3 nin0)).ext E13).keep Kq18 (ninS ne_r0_b3 nin0))
  have c34 := (((((usV.ext E1).ext E3).keep Kq7 (ninS ne_rt_b3 nin0)).ext E13).keep Kq18 (ninS ne_rt_b3 nin0))
  obtain ⟨cq28, kq28, q28a, q28b, q28c⟩ := isOf hZ13 rfl c30
  obtain ⟨_, _, ⟨T28, Lw28, kw28, nw28⟩, -, X28, ⟨Lc28, hQ28, lq28, yq28, zq28⟩, st28⟩ := X18.virtualBack hx (y := M16) (z := M16) hown13 (mvT hZ13 (wd hw 65 rfl)) (mvT hZ13 (wd hw 66 rfl)) (notFace_of_selects (args := #[]) (mvT hZ13 (wd hw 68 rfl))) (mvT hZ13 (wd hw 68 rfl)) (mvT hZ13 (wd hw 67 rfl)) (by decide) (backOf (W := 4) (rg_app l Z a0 hw [] b3 r0 zc nb_18 nk_18 (34 : Int32) nv_18 rt kt (2 : Int32) ((([p1, p2] : List Int32).map (fun c => c.toInt8.toInt32)).map Value.int) (26 : Int32) (28 : Int32) T18.heap n0 Z18 c29 uS uP c30 f18_0 f18_1 f18_5 f18_6 f18_2 c31 c32 c33 c34 (by decide) (by decide) (by decide) (by decide) (by decide) g_b3 g_nb_18) hZ13 (wd hw 69 rfl) (wd hw 48 rfl) (by decide) (by decide)) q28a q28c (g := (mkF m 23 #[vr r0] [(.ref r0), (.ref b3), (vI 403), (vI 403), (.ref b1), (.ref b1)])) rfl (by rw [hml]; rfl) (Steps.refl _) (argsL := [(.ref r0)]) (rest := [(vI 403), (vI 403), (.ref b1), (.ref b1)]) (lenOf pd_20 rfl) rfl (by show 2 * 0 + _ ≤ _; exact Nat.le_of_eq rfl) (hb hby d9_23) (fun _ _ => ⟨rfl, rfl, (by decide : 6 + 0 ≤ _), (by decide : 170 + 0 ≤ _)⟩)
  dsimp only [Pt.U, Pt.locs, Pt.cells, Pt.slots] at X28 lq28 yq28 zq28 st28 hQ28
  have X28 := own_reb X28 lq28 yq28 zq28
  obtain ⟨rfl, Nq28, Kq28, f28_0, f28_1, f28_2, f28_3⟩ := hQ28
  have N28 := Fr.app N18 Nq28
  have Re35 := Re27.trans (CHr.keep Kq28 (allS (Safe.exa hZ13.alike c30 (by decide) (by decide)) (allS sf_nb_18 all0)) hCe27)
  have hCe35 := Re35.1
  have K28 : Keep h0 T28.heap [] := K18.trans Kq28 (allS (Or.inr sz_b3) (allS (Or.inr sz_nb_18) all0))
  have Z28 : n0 ≤ T28.heap.size := Nat.le_trans Z18 Kq28.1
  have hk28 : _ ≤ T28.heap.size := Nat.le_trans hk18 Kq28.1
  have c37 := (c29.keep Kq28 (allS g_b3 (allS g_nb_18 all0)))
  have c38 := (c30.keep Kq28)
  obtain ⟨cq36, kq36, q36a, q36b, q36c⟩ := isOf hZ13 rfl c38
  obtain ⟨_, _, ⟨T36, Lw36, kw36, nw36⟩, -, X36, ⟨Lc36, hQ36, lq36, yq36, zq36⟩, st36⟩ := X28.virtualBack hx (y := M21) (z := M21) hown13 (mvT hZ13 (wd hw 135 rfl)) (mvT hZ13 (wd hw 136 rfl)) (notFace_of_selects (args := #[]) (mvT hZ13 (wd hw 138 rfl))) (mvT hZ13 (wd hw 138 rfl)) (mvT hZ13 (wd hw 137 rfl)) (by decide) (backOf (W := 4) (rg_tos l Z a0 hw [] b3 zc nb_18 nk_18 (34 : Int32) (own_put (26 : Int32).toNatClampNeg (2 : Int32).toNatClampNeg nv_18 ((([p1, p2] : List Int32).map (fun c => c.toInt8.toInt32)).map Value.int)) (28 : Int32) T28.heap n0 Z28 c37 uS uP c38 f28_0 f28_1 f28_3 f28_2 (by decide) (by decide) (by decide) (by decide)) hZ13 (wd hw 139 rfl) (wd hw 48 rfl) (by decide) (by decide)) q36a q36c (g := (mkF m 26 #[vr r0] [(.ref b3), (vI 403), (vI 403), (.ref b1), (.ref b1)])) rfl (by rw [hml]; rfl) (Steps.refl _) (argsL := []) (rest := [(vI 403), (vI 403), (.ref b1), (.ref b1)]) (lenOf pd_21 rfl) rfl (by show 2 * 0 + _ ≤ _; exact Nat.le_of_eq rfl) (hb hby d9_26) (fun _ _ => ⟨rfl, rfl, (by decide : 6 + 2 ≤ _), (by decide : 170 + 68 ≤ _)⟩)
  dsimp only [Pt.U, Pt.locs, Pt.cells, Pt.slots] at X36 lq36 yq36 zq36 st36 hQ36
  have X36 := own_reb X36 lq36 yq36 zq36
  obtain ⟨nx_36, nb_36, nk_36, rfl, Nq36, Kq36, f36_0, f36_1, f36_2, f36_3, f36_4, f36_5⟩ := hQ36
  have N36 := Fr.app N28 Nq36
  have c39 := (c31.keep Kq28)
  have ne_r0_nx_36 : r0 ≠ nx_36 := Nat.ne_of_lt (Nat.lt_of_lt_of_le c39.lt f36_0)
  have c40 := (c34.keep Kq28 (ninS ne_rt_b3 (ninS ne_rt_nb_18 nin0)))
  have ne_rt_nx_36 : rt ≠ nx_36 := Nat.ne_of_lt (Nat.lt_of_lt_of_le c40.lt f36_0)
  have c41 := ((c15.keep Kq18).keep Kq28)
  have ne_b1_nx_36 : b1 ≠ nx_36 := Nat.ne_of_lt (Nat.lt_of_lt_of_le c41.lt f36_0)
  have ne_b3_nx_36 : b3 ≠ nx_36 := Nat.ne_of_lt (Nat.lt_of_lt_of_le c38.lt f36_0)
  have c42 := (((f7_4.ext E13).keep Kq18).keep Kq28)
  have ne_nb_7_nx_36 : nb_7 ≠ nx_36 := Nat.ne_of_lt (Nat.lt_of_lt_of_le c42.lt f36_0)
  have c43 := ((fE13.keep Kq18).keep Kq28)
  have ne_b13_nx_36 : b13 ≠ nx_36 := Nat.ne_of_lt (Nat.lt_of_lt_of_le c43.lt f36_0)
  have c44 := ((fK13.keep Kq18 (ninS (Ne.symm nlb3_13.2) nin0)).keep Kq28 (ninS (Ne.symm nlb3_13.2) (ninS ne_t13_nb_18 nin0)))
  have ne_t13_nx_36 : t13 ≠ nx_36 := Nat.ne_of_lt (Nat.lt_of_lt_of_le c44.lt f36_0)
  have c45 := (f18_4.keep Kq28)
  have ne_nb_18_nx_36 : nb_18 ≠ nx_36 := Nat.ne_of_lt (Nat.lt_of_lt_of_le c45.lt f36_0)
  have g_nx_36 : n0 ≤ nx_36 := Nat.le_trans Z28 f36_0
  have sz_nx_36 : h0.size ≤ nx_36 := Nat.le_trans K28.1 f36_0
  have c46 := (c31.keep Kq28)
  have ne_r0_nb_36 : r0 ≠ nb_36 := Nat.ne_of_lt (Nat.lt_of_lt_of_le c46.lt f36_4)
  have c47 := (c34.keep Kq28 (ninS ne_rt_b3 (ninS ne_rt_nb_18 nin0)))
  have ne_rt_nb_36 : rt ≠ nb_36 := Nat.ne_of_lt (Nat.lt_of_lt_of_le c47.lt f36_4)
  have c48 := ((c15.keep Kq18).keep Kq28)
  have ne_b1_nb_36 : b1 ≠ nb_36 := Nat.ne_of_lt (Nat.lt_of_lt_of_le c48.lt f36_4)
  have ne_b3_nb_36 : b3 ≠ nb_36 := Nat.ne_of_lt (Nat.lt_of_lt_of_le c38.lt f36_4)
  have c49 := (((f7_4.ext E13).keep Kq18).keep Kq28)
  have ne_nb_7_nb_36 : nb_7 ≠ nb_36 := Nat.ne_of_lt (Nat.lt_of_lt_of_le c49.lt f36_4)
  have c50 := ((fE13.keep Kq18).keep Kq28)
  have ne_b13_nb_36 : b13 ≠ nb_36 := Nat.ne_of_lt (Nat.lt_of_lt_of_le c50.lt f36_4)
  have c51 := ((fK13.keep Kq18 (ninS (Ne.symm nlb3_13.2) nin0)).keep Kq28 (ninS (Ne.symm nlb3_13.2) (ninS ne_t13_nb_18 nin0)))
  have ne_t13_nb_36 : t13 ≠ nb_36 := Nat.ne_of_lt (Nat.lt_of_lt_of_le c51.lt f36_4)
  have c52 := (f18_4.keep Kq28)
  have ne_nb_18_nb_36 : nb_18 ≠ nb_36 := Nat.ne_of_lt (Nat.lt_of_lt_of_le c52.lt f36_4)
  have g_nb_36 : n0 ≤ nb_36 := Nat.le_trans Z28 f36_4
  have sz_nb_36 : h0.size ≤ nb_36 := Nat.le_trans K28.1 f36_4
  have Re53 := Re35.trans (CHr.keep Kq36 all0 hCe35)
  have hCe53 := Re53.1
  have sf_nx_36 := Safe.keep Kq36 all0 hCe35 (Safe.new f36_0)
  have sf_nb_36 := Safe.keep Kq36 all0 hCe35 (Safe.new f36_4)
  have K36 : Keep h0 T36.heap [] := K28.trans Kq36 all0
  have Z36 : n0 ≤ T36.heap.size := Nat.le_trans Z28 Kq36.1
  have hk36 : _ ≤ T36.heap.size := Nat.le_trans hk28 Kq36.1
  have Vmsg : Arv Z T36.heap nb_36 nk_36 .byte (28 : Int32) ((([73, 110, 115, 117, 102, 102, 105, 99, 105, 101, 110, 116, 32, 112, 101, 114, 109, 105, 115, 115, 105, 111, 110, 115, 58, 32, p1, p2] : List Int32).map (fun c => c.toInt8.toInt32)).map Value.int) z0 := by have q := f36_5; rw [f18_7] at q; exact q
  have c55 := (c37.keep Kq36 all0)
  have c56 := (((c15.keep Kq18).keep Kq28).keep Kq36)
  have c57 := ((((((Ut1.ext E3).keep Kq7 (ninS ne_b1_b3 nin0)).ext E13).keep Kq18 (ninS ne_b1_b3 nin0)).keep Kq28 (ninS ne_b1_b3 (ninS ne_b1_nb_18 nin0))).keep Kq36 nin0)
  have c58 := ((((((F1_cause.ext E3).keep Kq7 (ninS ne_b1_b3 nin0)).ext E13).keep Kq18 (ninS ne_b1_b3 nin0)).keep Kq28 (ninS ne_b1_b3 (ninS ne_b1_nb_18 nin0))).keep Kq36 nin0)
  have c59 := ((((((F1_stackTrace.ext E3).keep Kq7 (ninS ne_b1_b3 nin0)).ext E13).keep Kq18 (ninS ne_b1_b3 nin0)).keep Kq28 (ninS ne_b1_b3 (ninS ne_b1_nb_18 nin0))).keep Kq36 nin0)
  have c60 := ((((((F1_suppressedExceptions.ext E3).keep Kq7 (ninS ne_b1_b3 nin0)).ext E13).keep Kq18 (ninS ne_b1_b3 nin0)).keep Kq28 (ninS ne_b1_b3 (ninS ne_b1_nb_18 nin0))).keep Kq36 nin0)
  have c61 := ((((((F1_backtrace.ext E3).keep Kq7 (ninS ne_b1_b3 nin0)).ext E13).keep Kq18 (ninS ne_b1_b3 nin0)).keep Kq28 (ninS ne_b1_b3 (ninS ne_b1_nb_18 nin0))).keep Kq36 nin0)
  have c62 := ((((((F1_detailMessage.ext E3).keep Kq7 (ninS ne_b1_b3 nin0)).ext E13).keep Kq18 (ninS ne_b1_b3 nin0)).keep Kq28 (ninS ne_b1_b3 (ninS ne_b1_nb_18 nin0))).keep Kq36 nin0)
  have c63 := ((((((F1_status.ext E3).keep Kq7 (ninS ne_b1_b3 nin0)).ext E13).keep Kq18 (ninS ne_b1_b3 nin0)).keep Kq28 (ninS ne_b1_b3 (ninS ne_b1_nb_18 nin0))).keep Kq36 nin0)
  have c64 := ((((((F1_code.ext E3).keep Kq7 (ninS ne_b1_b3 nin0)).ext E13).keep Kq18 (ninS ne_b1_b3 nin0)).keep Kq28 (ninS ne_b1_b3 (ninS ne_b1_nb_18 nin0))).keep Kq36 nin0)
  obtain ⟨_, _, ⟨T54, Lw54, kw54, nw54⟩, -, X54', hS54', hg54, ⟨Lc54, hQ54, lq54, yq54, zq54, CH54⟩, st54⟩ := X36.specialBackS hx (y := M29) rfl hown13 (mvT hZ13 (wd hw 174 rfl)) (mvT hZ13 (wd hw 175 rfl)) (mvT hZ13 (wd hw 176 rfl)) (by decide) (backOfSKH (W := 1) (rmX l Z a0 hw [] b1 (403 : Int32) (403 : Int32) nx_36 zc vu vq T36.heap n0 Z36 c55 uS uP uLt uZu uRu uZs uRs c56 c57 c58 c59 c60 c61 c62 c63 c64 g_b1) hZ13 (wd hw 176 rfl) (wd hw 42 rfl) (by decide) (by decide) (own_EW hw) hCe53 (Vm.MethodsKnown.alikeC hS13.1.alike hK.1) (Vm.FramesKnown.alikeC hS13.1.alike hK.2)) (g := (mkF m 29 #[vr r0] [(.ref nx_36), (vI 403), (vI 403), (.ref b1), (.ref b1)])) rfl (by rw [hml]; rfl) (Steps.refl _) (a := b1) (argsL := [(vI 403), (vI 403), (.ref nx_36)]) (rest := [(.ref b1)]) (lenOf pd_22 rfl) rfl (by show 2 * 0 + _ ≤ _; exact Nat.le_of_eq rfl) (hb hby d9_29) (fun _ _ => ⟨rfl, rfl, (by decide : 8 + 1 ≤ _), (by decide : 238 + 2752 ≤ _)⟩)
  dsimp only [Pt.U, Pt.locs, Pt.cells, Pt.slots] at X54' hS54' hg54 lq54 yq54 zq54 st54 hQ54 CH54
  have X54' := own_reb X54' lq54 yq54 zq54
  obtain ⟨X54, hS54, hZ54, hown54⟩ := rebS hS13 (own_hk rfl hk36) X54' hS54' hg54 hZ13 hown13
  obtain ⟨rfl, Nq54, Kq54, f54_0, f54_1, f54_2⟩ := hQ54
  have N54 := Fr.app N36 Nq54
  have Re65 := Re53.trans CH54
  have hCe65 := Re65.1
  have K54 : Keep h0 T54.heap [] := K36.trans Kq54 (allS (Or.inr sz_b1) all0)
  have Z54 : n0 ≤ T54.heap.size := Nat.le_trans Z36 Kq54.1
  have hk54 : T54.heap.size ≤ T54.heap.size := Nat.le_refl _
  have c66 := (c56.keep Kq54)
  have c67 := (f36_1.keep Kq54)
  have c68 := (f36_2.keep Kq54 (ninS (Ne.symm ne_b1_nx_36) nin0))
  have c69 := (f36_3.keep Kq54 (ninS (Ne.symm ne_b1_nx_36) nin0))
  have c70 := (Vmsg.keep Kq54 (ninS (Ne.symm ne_b1_nb_36) nin0))
  obtain ⟨fs, hr, hrun, hended, en1, en2, en3, en4⟩ := X54.leaveW hS54 (own_hk rfl hk54) (v := some (.ref b1)) (fun h => by rw [Bd.returns] at h; cases h)
  refine ⟨_, _, pre0 _ ?_, hrun, hended, _, _, rfl, ?_, own_chr (T := T54) hh rfl (Re65.trans (CHv.at X54 hZ54 (own_EW hw) hCe65)), en1, en2, en3, en4.mono (by decide) (by decide)⟩
  · show SS p e below s₁ (mkF m 0 #[vr r0] []) _
    refine st1 _ ?_
    refine XS.dup X1.here hx rfl (hb hby d9_3) rfl rfl ?_
    refine XS.sipush X1.here hx rfl (hb hby d9_4) ?_
    refine XS.sipush X1.here hx rfl (hb hby d9_7) ?_
    refine st3 _ ?_
    refine XS.dup X3.here hx rfl (hb hby d9_13) rfl rfl ?_
    show SS p e below T3 (mkF m 14 #[vr r0] [(.ref b3), (.ref b3), (vI 403), (vI 403), (.ref b1), (.ref b1)]) _
    refine st7.trans ?_
    show SS p e below T7 (mkF m 17 #[vr r0] [(.ref b3), (vI 403), (vI 403), (.ref b1), (.ref b1)]) _
    refine st13 _ ?_
    show SS p e below T13 (mkF m 19 #[vr r0] [(.ref b13), (.ref b3), (vI 403), (vI 403), (.ref b1), (.ref b1)]) _
    refine st18.trans ?_
    refine XS.aloadN X18.here hx rfl (hb hby d9_22) rfl rfl ?_
    show SS p e below T18 (mkF m 23 #[vr r0] [(.ref r0), (.ref b3), (vI 403), (vI 403), (.ref b1), (.ref b1)]) _
    refine st28.trans ?_
    show SS p e below T28 (mkF m 26 #[vr r0] [(.ref b3), (vI 403), (vI 403), (.ref b1), (.ref b1)]) _
    refine st36.trans ?_
    show SS p e below T36 (mkF m 29 #[vr r0] [(.ref nx_36), (vI 403), (vI 403), (.ref b1), (.ref b1)]) _
    refine st54.trans ?_
    exact retOut X54 hx Bd.returns rfl (Or.inr (Or.inr (Or.inr (Or.inr ⟨rfl, rfl, rfl⟩)))) (hb hby d9_32) hr
  · show Q_rmF2 Z r0 zc vu vq rt kt p1 p2 h0 n0 _ T54.heap _
    exact ⟨b1, nx_36, nb_36, nk_36, rfl, N54, K54, sz_b1, c66, f54_0, f54_1, f54_2, c67, c68, c69, c70⟩
def Q_rmF3 (Z : State) (r0 : Addr) (zc : Int32) (vu : Value) (vq : Value) (rt : Addr) (kt : ClassId) (p1 : Int32) (p2 : Int32) (p3 : Int32) (h0 : Heap) (n0 : Nat) (v : Option Value) (h : Heap) (L : List Loc) : Prop := ∃ (nx : Addr), ∃ (nm : Addr), ∃ (nt : Addr), ∃ (nk : ClassId), (v = some (.ref nx) ∧ Fr n0 L ∧ Keep h0 h [] ∧ h0.size ≤ nx ∧ Exa Z h nx "com/example/plain_hub/plainhub/HubException" ∧ Fld Z h nx "com/example/plain_hub/plainhub/HubException" "status" "I" (vI 403) ∧ Fld Z h nx "com/example/plain_hub/plainhub/HubException" "code" "I" (vI 403) ∧ Fld Z h nx "java/lang/Throwable" "detailMessage" "Ljava/lang/String;" (.ref nm) ∧ Exa Z h nm "java/lang/String" ∧ Fld Z h nm "java/lang/String" "coder" "B" z0 ∧ Fld Z h nm "java/lang/String" "value" "[B" (.ref nt) ∧ Arv Z h nt nk .byte (29 : Int32) ((([73, 110, 115, 117, 102, 102, 105, 99, 105, 101, 110, 116, 32, 112, 101, 114, 109, 105, 115, 115, 105, 111, 110, 115, 58, 32, p1, p2, p3] : List Int32).map (fun c => c.toInt8.toInt32)).map Value.int) z0)
set_option maxRecDepth 65536 in
set_option maxHeartbeats 40000000 in
theorem rmF3 (l : Launch) (Z : State) (a0 : Array Value) (hw : ∀ d ∈ tables_1, d.before a0 Z = true) (ws : List Jvm.Cond) (r0 : Addr) (zc : Int32) (vu : Value) (vq : Value) (rt : Addr) (kt : ClassId) (p1 : Int32) (p2 : Int32) (p3 : Int32) (h0 : Heap) (n0 : Nat) (Z0 : n0 ≤ h0.size) (uO : Old Z n0 h0) (uS : Sta Z Z.heap "java/lang/String" "COMPACT_STRINGS" "Z" (.int zc)) (uP : ¬ zc = 0) (uLt : l.stackTraces = true) (uZu : Sta Z Z.heap "java/lang/Throwable" "UNASSIGNED_STACK" "[Ljava/lang/StackTraceElement;" vu) (uRu : vu.isRef = true) (uZs : Sta Z Z.heap "java/lang/Throwable" "SUPPRESSED_SENTINEL" "Ljava/util/List;" vq) (uRs : vq.isRef = true) (us : Exa Z h0 r0 "java/lang/String") (usv : Fld Z h0 r0 "java/lang/String" "value" "[B" (.ref rt)) (usc : Fld Z h0 r0 "java/lang/String" "coder" "B" z0) (usV : Arv Z h0 rt kt .byte (3 : Int32) ((([p1, p2, p3] : List Int32).map (fun c => c.toInt8.toInt32)).map Value.int) z0) :
    MetFree l M36 (head1 (Jvm.Cond.code M36 prog_2_method_4_code 1 (some (.object "com/example/plain_hub/plainhub/HubException")) :: ws) ({ frames := 7, cells := 9, slots := 2990, locals := 97 } : Room)) (fun a U => a = #[(.ref r0)] ∧ Z.Warmed39 U.vm ∧ U.heap = h0 ∧ CHv Z own_EL U.vm h0) (fun _ _ bl s _ => s.vm.MethodsKnown ∧ s.vm.FramesKnown bl) (fun _ U o U' => ∃ v L, o = .returned v ∧ Q_rmF3 Z r0 zc vu vq rt kt p1 p2 p3 h0 n0 v U'.heap L ∧ CHr Z own_EL U.vm U.heap U'.vm U'.heap ∧ ReturnedEndW U o U' L ({ frames := 7, cells := 9, slots := 2990, locals := 97 } : Room).cells ({ frames := 7, cells := 9, slots := 2990, locals := 97 } : Room).slots) := by
  refine MetFree.of_bodySF (plainFor_of_name pn_8) hisR ?_
  intro p e s m args below meth c s₁ Bd hml0 hP hK
  obtain ⟨rfl, hZ, hh, hC0⟩ := hP
  have hx := Bd.exec
  have hby := Bd.bytes
  have hml : c.maxLocals = 1 := hml0
  have hown : s.vm.findClass "com/example/plain_hub/plainhub/HubException" = some m.cls := findClass_of_methodNamed Bd.named
  have hnm := (name_of_methodNamed Bd.named Bd.method).1
  have X0 : Stand p l e ({ frames := 7, cells := 9, slots := 2990, locals := 97 } : Room) (s.setVm s.vm) m #[(.ref r0)] below meth c s₁ [] 0 0 := Stand.of_body Bd
  have e0 : s₁.heap = h0 := by rw [← hh, Bd.state]; rfl
  have N0 := Fr.nil n0
  have pre0 : ∀ t, Steps p.tables e below (s₁.setTop (mkF m 0 #[vr r0] [])) t → Steps p.tables e below (s₁.setTop (entryFrame m #[(.ref r0)] 1)) t := fun t k => castTop (ef_45 m r0) k
  have hS0 : s.Since s.vm 0 := (State.WarmedH.refl s).since _
  have hk0 : 0 ≤ h0.size := Nat.zero_le _
  have R0 := CHr.refl hC0
  obtain ⟨T1, h1, X1, e1, E1, A1, D1, Un1, st1⟩ := newO X0 hx hZ hown (wd hw 44 rfl) (wd hw 45 rfl) (wd hw 42 rfl) e0 (g := (mkF m 0 #[vr r0] [])) rfl (hb hby d9_0) (by decide) (by decide)
  obtain ⟨b1, g1⟩ : ∃ z, z = h0.size := ⟨_, rfl⟩
  rw [← g1] at A1 D1 Un1 st1
  have ne_r0_b1 : r0 ≠ b1 := Nat.ne_of_lt (Nat.lt_of_lt_of_le us.lt (Nat.le_of_eq g1.symm))
  have ne_rt_b1 : rt ≠ b1 := Nat.ne_of_lt (Nat.lt_of_lt_of_le usV.lt (Nat.le_of_eq g1.symm))
  have Re2 := R0.trans (CHr.ext E1 hC0)
  have hCe2 := Re2.1
  have Ut1 : Unt h1 b1 := Un1
  have F1_cause : Fld Z h1 b1 "java/lang/Throwable" "cause" "Ljava/lang/Throwable;" .null := D1 (Or.inl (wd hw 196 rfl)) (ty := (.object "java/lang/Throwable")) (by decide)
  have F1_stackTrace : Fld Z h1 b1 "java/lang/Throwable" "stackTrace" "[Ljava/lang/StackTraceElement;" .null := D1 (Or.inl (wd hw 199 rfl)) (ty := (.array (.object "java/lang/StackTraceElement"))) (by decide)
  have F1_suppressedExceptions : Fld Z h1 b1 "java/lang/Throwable" "suppressedExceptions" "Ljava/util/List;" .null := D1 (Or.inl (wd hw 202 rfl)) (ty := (.object "java/util/List")) (by decide)
  have F1_detailMessage : Fld Z h1 b1 "java/lang/Throwable" "detailMessage" "Ljava/lang/String;" .null := D1 (Or.inl (wd hw 226 rfl)) (ty := (.object "java/lang/String")) (by decide)
  have F1_backtrace : Fld Z h1 b1 "java/lang/Throwable" "backtrace" "Ljava/lang/Object;" .null := D1 (Or.inl (wd hw 227 rfl)) (ty := (.object "java/lang/Object")) (by decide)
  have F1_depth : Fld Z h1 b1 "java/lang/Throwable" "depth" "I" z0 := D1 (Or.inl (wd hw 228 rfl)) (ty := .int) (by decide)
  have F1_status : Fld Z h1 b1 "com/example/plain_hub/plainhub/HubException" "status" "I" z0 := D1 (Or.inr (wd hw 232 rfl)) (ty := .int) (by decide)
  have F1_code : Fld Z h1 b1 "com/example/plain_hub/plainhub/HubException" "code" "I" z0 := D1 (Or.inr (wd hw 234 rfl)) (ty := .int) (by decide)
  have g_b1 : n0 ≤ b1 := Nat.le_trans Z0 (Nat.le_of_eq g1.symm)
  have sz_b1 : h0.size ≤ b1 := Nat.le_trans (Keep.refl h0 []).1 (Nat.le_of_eq g1.symm)
  have K1 : Keep h0 h1 [] := (Keep.refl h0 []).ext E1
  have Z1 : n0 ≤ h1.size := Nat.le_trans Z0 E1.1
  have hk1 : _ ≤ h1.size := Nat.le_trans hk0 E1.1
  obtain ⟨T3, h3, X3, e3, E3, A3, D3, Un3, st3⟩ := newO X1 hx hZ hown (wd hw 46 rfl) (wd hw 47 rfl) (wd hw 48 rfl) e1 (g := (mkF m 10 #[vr r0] [(vI 403), (vI 403), (.ref b1), (.ref b1)])) rfl (hb hby d9_10) (by decide) (by decide)
  obtain ⟨b3, g3⟩ : ∃ z, z = h1.size := ⟨_, rfl⟩
  rw [← g3] at A3 D3 Un3 st3
  have c4 := (us.ext E1)
  have ne_r0_b3 : r0 ≠ b3 := Nat.ne_of_lt (Nat.lt_of_lt_of_le c4.lt (Nat.le_of_eq g3.symm))
  have c5 := (usV.ext E1)
  have ne_rt_b3 : rt ≠ b3 := Nat.ne_of_lt (Nat.lt_of_lt_of_le c5.lt (Nat.le_of_eq g3.symm))
  have ne_b1_b3 : b1 ≠ b3 := Nat.ne_of_lt (Nat.lt_of_lt_of_le A1.lt (Nat.le_of_eq g3.symm))
  have Re6 := Re2.trans (CHr.ext E3 hCe2)
  have hCe6 := Re6.1
  have Ut3 : Unt h3 b3 := Un3
  have F3_value : Fld Z h3 b3 "java/lang/AbstractStringBuilder" "value" "[B" .null := D3 (Or.inl (wd hw 61 rfl)) (ty := (.array .byte)) (by decide)
  have F3_coder : Fld Z h3 b3 "java/lang/AbstractStringBuilder" "coder" "B" z0 := D3 (Or.inl (wd hw 63 rfl)) (ty := .byte) (by decide)
  have F3_count : Fld Z h3 b3 "java/lang/AbstractStringBuilder" "count" "I" z0 := D3 (Or.inl (wd hw 86 rfl)) (ty := .int) (by decide)
  have g_b3 : n0 ≤ b3 := Nat.le_trans Z1 (Nat.le_of_eq g3.symm)
  have sz_b3 : h0.size ≤ b3 := Nat.le_trans K1.1 (Nat.le_of_eq g3.symm)
  have K3 : Keep h0 h3 [] := K1.ext E3
  have Z3 : n0 ≤ h3.size := Nat.le_trans Z1 E3.1
  have hk3 : _ ≤ h3.size := Nat.le_trans hk1 E3.1
  have c8 := ((uO.ext E1).ext E3)
  obtain ⟨_, _, ⟨T7, Lw7, kw7, nw7⟩, -, X7, ⟨Lc7, hQ7, lq7, yq7, zq7⟩, st7⟩ := X3.specialBack hx (y := M7) rfl hown (mvT hZ (wd hw 49 rfl)) (mvT hZ (wd hw 50 rfl)) (mvT hZ (wd hw 51 rfl)) (by decide) (backOf (W := 5) (rmSB l Z a0 hw [] b3 zc h3 n0 Z3 c8 uS uP A3 F3_value F3_coder F3_count g_b3) hZ (wd hw 51 rfl) (wd hw 48 rfl) (by decide) (by decide)) (g := (mkF m 14 #[vr r0] [(.ref b3), (.ref b3), (vI 403), (vI 403), (.ref b1), (.ref b1)])) rfl (by rw [hml]; rfl) (Steps.refl _) (a := b3) (argsL := []) (rest := [(.ref b3), (vI 403), (vI 403), (.ref b1), (.ref b1)]) (lenOf pd_19 rfl) rfl (by show 2 * 0 + _ ≤ _; exact Nat.le_of_eq rfl) (hb hby d9_14) (fun _ _ => ⟨rfl, e3, (by decide : 2 + 1 ≤ _), (by decide : 12 + 16 ≤ _)⟩)
  dsimp only [Pt.U, Pt.locs, Pt.cells, Pt.slots] at X7 lq7 yq7 zq7 st7 hQ7
  have X7 := own_reb X7 lq7 yq7 zq7
  obtain ⟨nb_7, nk_7, rfl, Nq7, Kq7, f7_0, f7_1, f7_2, f7_3, f7_4, f7_5⟩ := hQ7
  have N7 := Fr.app N0 Nq7
  have c9 := ((us.ext E1).ext E3)
  have ne_r0_nb_7 : r0 ≠ nb_7 := Nat.ne_of_lt (Nat.lt_of_lt_of_le c9.lt f7_3)
  have c10 := ((usV.ext E1).ext E3)
  have ne_rt_nb_7 : rt ≠ nb_7 := Nat.ne_of_lt (Nat.lt_of_lt_of_le c10.lt f7_3)
  have c11 := (A1.ext E3)
  have ne_b1_nb_7 : b1 ≠ nb_7 := Nat.ne_of_lt (Nat.lt_of_lt_of_le c11.lt f7_3)
  have ne_b3_nb_7 : b3 ≠ nb_7 := Nat.ne_of_lt (Nat.lt_of_lt_of_le A3.lt f7_3)
  have g_nb_7 : n0 ≤ nb_7 := Nat.le_trans Z3 f7_3
  have sz_nb_7 : h0.size ≤ nb_7 := Nat.le_trans K3.1 f7_3
  have Re12 := Re6.trans (CHr.keep Kq7 (allS (Safe.exa hZ.alike A3 (by decide) (by decide)) all0) hCe6)
  have hCe12 := Re12.1
  have sf_nb_7 := Safe.keep Kq7 (allS (Safe.exa hZ.alike A3 (by decide) (by decide)) all0) hCe6 (Safe.new f7_3)
  have K7 : Keep h0 T7.heap [] := K3.trans Kq7 (allS (Or.inr sz_b3) all0)
  have Z7 : n0 ≤ T7.heap.size := Nat.le_trans Z3 Kq7.1
  have hk7 : _ ≤ T7.heap.size := Nat.le_trans hk3 Kq7.1
  obtain ⟨b13, T13, h13, kk13, t13, kc13, X13, e13, E13, hS13, hk13, hZ13, hown13, fE13, fC13, fV13, fK13, lta13, ltb13, CH13, -, SF13, st13⟩ := ldcCH X7 hx hZ hown (wd hw 64 rfl) (fun d hd => hw d (own_strAtoms d hd)) rfl hS0 hk7 (own_EW hw) (by decide) hCe12 (vs := [(vI 73), (vI 110), (vI 115), (vI 117), (vI 102), (vI 102), (vI 105), (vI 99), (vI 105), (vI 101), (vI 110), (vI 116), (vI 32), (vI 112), (vI 101), (vI 114), (vI 109), (vI 105), (vI 115), (vI 115), (vI 105), (vI 111), (vI 110), (vI 115), (vI 58), (vI 32)]) (z := (26 : Int32)) ⟨by decide, by decide⟩ (by decide) (by decide) (g := (mkF m 17 #[vr r0] [(.ref b3), (vI 403), (vI 403), (.ref b1), (.ref b1)])) rfl (hb hby d9_17) (n := 104) (by decide) (by decide) (by decide) (by decide)
  have Re14 := Re12.trans CH13
  have hCe14 := Re14.1
  have c15 := (((A1.ext E3).keep Kq7).ext E13)
  have nlb1_13 := SF13 b1 (Safe.exa hZ13.alike c15 (by decide) (by decide))
  have c16 := ((A3.keep Kq7).ext E13)
  have nlb3_13 := SF13 b3 (Safe.exa hZ13.alike c16 (by decide) (by decide))
  have c17 := (CHr.safe CH13 f7_4.lt sf_nb_7)
  have nlnb_7_13 := SF13 nb_7 c17
  have K13 : Keep h0 h13 [] := K7.ext E13
  have Z13 : n0 ≤ h13.size := Nat.le_trans Z7 E13.1
  have c19 := ((c8.keep Kq7 (allS g_b3 all0)).ext E13)
  have c20 := (f7_0.ext E13)
  have c21 := (f7_1.ext E13)
  have c22 := (f7_5.ext E13)
  have c23 := (f7_2.ext E13)
  obtain ⟨cq18, kq18, q18a, q18b, q18c⟩ := isOf hZ13 e13 c16
  obtain ⟨_, _, ⟨T18, Lw18, kw18, nw18⟩, -, X18, ⟨Lc18, hQ18, lq18, yq18, zq18⟩, st18⟩ := X13.virtualBack hx (y := M16) (z := M16) hown13 (mvT hZ13 (wd hw 65 rfl)) (mvT hZ13 (wd hw 66 rfl)) (notFace_of_selects (args := #[]) (mvT hZ13 (wd hw 68 rfl))) (mvT hZ13 (wd hw 68 rfl)) (mvT hZ13 (wd hw 67 rfl)) (by decide) (backOf (W := 4) (rm_app_sb_0_26_16 l Z a0 hw [] b3 b13 zc nb_7 nk_7 [z0, z0, z0, z0, z0, z0, z0, z0, z0, z0, z0, z0, z0, z0, z0, z0] t13 kc13 [(vI 73), (vI 110), (vI 115), (vI 117), (vI 102), (vI 102), (vI 105), (vI 99), (vI 105), (vI 101), (vI 110), (vI 116), (vI 32), (vI 112), (vI 101), (vI 114), (vI 109), (vI 105), (vI 115), (vI 115), (vI 105), (vI 111), (vI 110), (vI 115), (vI 58), (vI 32)] h13 n0 Z13 c19 uS uP c16 c20 c21 c22 rfl c23 fE13 fV13 fC13 fK13 g_b3 g_nb_7) hZ13 (wd hw 69 rfl) (wd hw 48 rfl) (by decide) (by decide)) q18a q18c (g := (mkF m 19 #[vr r0] [(.ref b13), (.ref b3), (vI 403), (vI 403), (.ref b1), (.ref b1)])) rfl (by rw [hml]; rfl) (Steps.refl _) (argsL := [(.ref b13)]) (rest := [(vI 403), (vI 403), (.ref b1), (.ref b1)]) (lenOf pd_20 rfl) rfl (by show 2 * 0 + _ ≤ _; exact Nat.le_of_eq rfl) (hb hby d9_19) (fun _ _ => ⟨rfl, e13, (by decide : 5 + 1 ≤ _), (by decide : 136 + 34 ≤ _)⟩)
  dsimp only [Pt.U, Pt.locs, Pt.cells, Pt.slots] at X18 lq18 yq18 zq18 st18 hQ18
  have X18 := own_reb X18 lq18 yq18 zq18
  obtain ⟨nb_18, nk_18, nv_18, rfl, Nq18, Kq18, f18_0, f18_1, f18_2, f18_3, f18_4, f18_5, f18_6, f18_7⟩ := hQ18
  have N18 := Fr.app N7 Nq18
  have c24 := ((((us.ext E1).ext E3).keep Kq7).ext E13)
  have ne_r0_nb_18 : r0 ≠ nb_18 := Nat.ne_of_lt (Nat.lt_of_lt_of_le c24.lt f18_3)
  have c25 := ((((usV.ext E1).ext E3).keep Kq7 (ninS ne_rt_b3 nin0)).ext E13)
  have ne_rt_nb_18 : rt ≠ nb_18 := Nat.ne_of_lt (Nat.lt_of_lt_of_le c25.lt f18_3)
  have ne_b1_nb_18 : b1 ≠ nb_18 := Nat.ne_of_lt (Nat.lt_of_lt_of_le c15.lt f18_3)
  have ne_b3_nb_18 : b3 ≠ nb_18 := Nat.ne_of_lt (Nat.lt_of_lt_of_le c16.lt f18_3)
  have c26 := (f7_4.ext E13)
  have ne_nb_7_nb_18 : nb_7 ≠ nb_18 := Nat.ne_of_lt (Nat.lt_of_lt_of_le c26.lt f18_3)
  have ne_b13_nb_18 : b13 ≠ nb_18 := Nat.ne_of_lt (Nat.lt_of_lt_of_le fE13.lt f18_3)
  have ne_t13_nb_18 : t13 ≠ nb_18 := Nat.ne_of_lt (Nat.lt_of_lt_of_le fK13.lt f18_3)
  have g_nb_18 : n0 ≤ nb_18 := Nat.le_trans Z13 f18_3
  have sz_nb_18 : h0.size ≤ nb_18 := Nat.le_trans K13.1 f18_3
  have Re27 := Re14.trans (CHr.keep Kq18 (allS (Safe.exa hZ13.alike c16 (by decide) (by decide)) all0) hCe14)
  have hCe27 := Re27.1
  have sf_nb_18 := Safe.keep Kq18 (allS (Safe.exa hZ13.alike c16 (by decide) (by decide)) all0) hCe14 (Safe.new f18_3)
  have K18 : Keep h0 T18.heap [] := K13.trans Kq18 (allS (Or.inr sz_b3) all0)
  have Z18 : n0 ≤ T18.heap.size := Nat.le_trans Z13 Kq18.1
  have hk18 : _ ≤ T18.heap.size := Nat.le_trans hk13 Kq18.1
  have c29 := (c19.keep Kq18 (allS g_b3 all0))
  have c30 := (c16.keep Kq18)
  have c31 := (((((us.ext E1).ext E3).keep Kq7).ext E13).keep Kq18)
  have c32 := (((((usv.ext E1).ext E3).keep Kq7 (ninS ne_r0_b3 nin0)).ext E13).keep Kq18 (ninS ne_r0_b3 nin0))
  have c33 := (((((usc.ext E1).ext E3).keep Kq7 (ninS ne_r0_b3 nin0)).ext E13).keep Kq18 (ninS ne_r0_b3 nin0))
  have c34 := (((((usV.ext E1).ext E3).keep Kq7 (ninS ne_rt_b3 nin0)).ext E13).keep Kq18 (ninS ne_rt_b3 nin0))
  obtain ⟨cq28, kq28, q28a, q28b, q28c⟩ := isOf hZ13 rfl c30
  obtain ⟨_, _, ⟨T28, Lw28, kw28, nw28⟩, -, X28, ⟨Lc28, hQ28, lq28, yq28, zq28⟩, st28⟩ := X18.virtualBack hx (y := M16) (z := M16) hown13 (mvT hZ13 (wd hw 65 rfl)) (mvT hZ13 (wd hw 66 rfl)) (notFace_of_selects (args := #[]) (mvT hZ13 (wd hw 68 rfl))) (mvT hZ13 (wd hw 68 rfl)) (mvT hZ13 (wd hw 67 rfl)) (by decide) (backOf (W := 4) (rg_app l Z a0 hw [] b3 r0 zc nb_18 nk_18 (34 : Int32) nv_18 rt kt (3 : Int32) ((([p1, p2, p3] : List Int32).map (fun c => c.toInt8.toInt32)).map Value.int) (26 : Int32) (29 : Int32) T18.heap n0 Z18 c29 uS uP c30 f18_0 f18_1 f18_5 f18_6 f18_2 c31 c32 c33 c34 (by decide) (by decide) (by decide) (by decide) (by decide) g_b3 g_nb_18) hZ13 (wd hw 69 rfl) (wd hw 48 rfl) (by decide) (by decide)) q28a q28c (g := (mkF m 23 #[vr r0] [(.ref r0), (.ref b3), (vI 403), (vI 403), (.ref b1), (.ref b1)])) rfl (by rw [hml]; rfl) (Steps.refl _) (argsL := [(.ref r0)]) (rest := [(vI 403), (vI 403), (.ref b1), (.ref b1)]) (lenOf pd_20 rfl) rfl (by show 2 * 0 + _ ≤ _; exact Nat.le_of_eq rfl) (hb hby d9_23) (fun _ _ => ⟨rfl, rfl, (by decide : 6 + 0 ≤ _), (by decide : 170 + 0 ≤ _)⟩)
  dsimp only [Pt.U, Pt.locs, Pt.cells, Pt.slots] at X28 lq28 yq28 zq28 st28 hQ28
  have X28 := own_reb X28 lq28 yq28 zq28
  obtain ⟨rfl, Nq28, Kq28, f28_0, f28_1, f28_2, f28_3⟩ := hQ28
  have N28 := Fr.app N18 Nq28
  have Re35 := Re27.trans (CHr.keep Kq28 (allS (Safe.exa hZ13.alike c30 (by decide) (by decide)) (allS sf_nb_18 all0)) hCe27)
  have hCe35 := Re35.1
  have K28 : Keep h0 T28.heap [] := K18.trans Kq28 (allS (Or.inr sz_b3) (allS (Or.inr sz_nb_18) all0))
  have Z28 : n0 ≤ T28.heap.size := Nat.le_trans Z18 Kq28.1
  have hk28 : _ ≤ T28.heap.size := Nat.le_trans hk18 Kq28.1
  have c37 := (c29.keep Kq28 (allS g_b3 (allS g_nb_18 all0)))
  have c38 := (c30.keep Kq28)
  obtain ⟨cq36, kq36, q36a, q36b, q36c⟩ := isOf hZ13 rfl c38
  obtain ⟨_, _, ⟨T36, Lw36, kw36, nw36⟩, -, X36, ⟨Lc36, hQ36, lq36, yq36, zq36⟩, st36⟩ := X28.virtualBack hx (y := M21) (z := M21) hown13 (mvT hZ13 (wd hw 135 rfl)) (mvT hZ13 (wd hw 136 rfl)) (notFace_of_selects (args := #[]) (mvT hZ13 (wd hw 138 rfl))) (mvT hZ13 (wd hw 138 rfl)) (mvT hZ13 (wd hw 137 rfl)) (by decide) (backOf (W := 4) (rg_tos l Z a0 hw [] b3 zc nb_18 nk_18 (34 : Int32) (own_put (26 : Int32).toNatClampNeg (3 : Int32).toNatClampNeg nv_18 ((([p1, p2, p3] : List Int32).map (fun c => c.toInt8.toInt32)).map Value.int)) (29 : Int32) T28.heap n0 Z28 c37 uS uP c38 f28_0 f28_1 f28_3 f28_2 (by decide) (by decide) (by decide) (by decide)) hZ13 (wd hw 139 rfl) (wd hw 48 rfl) (by decide) (by decide)) q36a q36c (g := (mkF m 26 #[vr r0] [(.ref b3), (vI 403), (vI 403), (.ref b1), (.ref b1)])) rfl (by rw [hml]; rfl) (Steps.refl _) (argsL := []) (rest := [(vI 403), (vI 403), (.ref b1), (.ref b1)]) (lenOf pd_21 rfl) rfl (by show 2 * 0 + _ ≤ _; exact Nat.le_of_eq rfl) (hb hby d9_26) (fun _ _ => ⟨rfl, rfl, (by decide : 6 + 2 ≤ _), (by decide : 170 + 68 ≤ _)⟩)
  dsimp only [Pt.U, Pt.locs, Pt.cells, Pt.slots] at X36 lq36 yq36 zq36 st36 hQ36
  have X36 := own_reb X36 lq36 yq36 zq36
  obtain ⟨nx_36, nb_36, nk_36, rfl, Nq36, Kq36, f36_0, f36_1, f36_2, f36_3, f36_4, f36_5⟩ := hQ36
  have N36 := Fr.app N28 Nq36
  have c39 := (c31.keep Kq28)
  have ne_r0_nx_36 : r0 ≠ nx_36 := Nat.ne_of_lt (Nat.lt_of_lt_of_le c39.lt f36_0)
  have c40 := (c34.keep Kq28 (ninS ne_rt_b3 (ninS ne_rt_nb_18 nin0)))
  have ne_rt_nx_36 : rt ≠ nx_36 := Nat.ne_of_lt (Nat.lt_of_lt_of_le c40.lt f36_0)
  have c41 := ((c15.keep Kq18).keep Kq28)
  have ne_b1_nx_36 : b1 ≠ nx_36 := Nat.ne_of_lt (Nat.lt_of_lt_of_le c41.lt f36_0)
  have ne_b3_nx_36 : b3 ≠ nx_36 := Nat.ne_of_lt (Nat.lt_of_lt_of_le c38.lt f36_0)
  have c42 := (((f7_4.ext E13).keep Kq18).keep Kq28)
  have ne_nb_7_nx_36 : nb_7 ≠ nx_36 := Nat.ne_of_lt (Nat.lt_of_lt_of_le c42.lt f36_0)
  have c43 := ((fE13.keep Kq18).keep Kq28)
  have ne_b13_nx_36 : b13 ≠ nx_36 := Nat.ne_of_lt (Nat.lt_of_lt_of_le c43.lt f36_0)
  have c44 := ((fK13.keep Kq18 (ninS (Ne.symm nlb3_13.2) nin0)).keep Kq28 (ninS (Ne.symm nlb3_13.2) (ninS ne_t13_nb_18 nin0)))
  have ne_t13_nx_36 : t13 ≠ nx_36 := Nat.ne_of_lt (Nat.lt_of_lt_of_le c44.lt f36_0)
  have c45 := (f18_4.keep Kq28)
  have ne_nb_18_nx_36 : nb_18 ≠ nx_36 := Nat.ne_of_lt (Nat.lt_of_lt_of_le c45.lt f36_0)
  have g_nx_36 : n0 ≤ nx_36 := Nat.le_trans Z28 f36_0
  have sz_nx_36 : h0.size ≤ nx_36 := Nat.le_trans K28.1 f36_0
  have c46 := (c31.keep Kq28)
  have ne_r0_nb_36 : r0 ≠ nb_36 := Nat.ne_of_lt (Nat.lt_of_lt_of_le c46.lt f36_4)
  have c47 := (c34.keep Kq28 (ninS ne_rt_b3 (ninS ne_rt_nb_18 nin0)))
  have ne_rt_nb_36 : rt ≠ nb_36 := Nat.ne_of_lt (Nat.lt_of_lt_of_le c47.lt f36_4)
  have c48 := ((c15.keep Kq18).keep Kq28)
  have ne_b1_nb_36 : b1 ≠ nb_36 := Nat.ne_of_lt (Nat.lt_of_lt_of_le c48.lt f36_4)
  have ne_b3_nb_36 : b3 ≠ nb_36 := Nat.ne_of_lt (Nat.lt_of_lt_of_le c38.lt f36_4)
  have c49 := (((f7_4.ext E13).keep Kq18).keep Kq28)
  have ne_nb_7_nb_36 : nb_7 ≠ nb_36 := Nat.ne_of_lt (Nat.lt_of_lt_of_le c49.lt f36_4)
  have c50 := ((fE13.keep Kq18).keep Kq28)
  have ne_b13_nb_36 : b13 ≠ nb_36 := Nat.ne_of_lt (Nat.lt_of_lt_of_le c50.lt f36_4)
  have c51 := ((fK13.keep Kq18 (ninS (Ne.symm nlb3_13.2) nin0)).keep Kq28 (ninS (Ne.symm nlb3_13.2) (ninS ne_t13_nb_18 nin0)))
  have ne_t13_nb_36 : t13 ≠ nb_36 := Nat.ne_of_lt (Nat.lt_of_lt_of_le c51.lt f36_4)
  have c52 := (f18_4.keep Kq28)
  have ne_nb_18_nb_36 : nb_18 ≠ nb_36 := Nat.ne_of_lt (Nat.lt_of_lt_of_le c52.lt f36_4)
  have g_nb_36 : n0 ≤ nb_36 := Nat.le_trans Z28 f36_4
  have sz_nb_36 : h0.size ≤ nb_36 := Nat.le_trans K28.1 f36_4
  have Re53 := Re35.trans (CHr.keep Kq36 all0 hCe35)
  have hCe53 := Re53.1
  have sf_nx_36 := Safe.keep Kq36 all0 hCe35 (Safe.new f36_0)
  have sf_nb_36 := Safe.keep Kq36 all0 hCe35 (Safe.new f36_4)
  have K36 : Keep h0 T36.heap [] := K28.trans Kq36 all0
  have Z36 : n0 ≤ T36.heap.size := Nat.le_trans Z28 Kq36.1
  have hk36 : _ ≤ T36.heap.size := Nat.le_trans hk28 Kq36.1
  have Vmsg : Arv Z T36.heap nb_36 nk_36 .byte (29 : Int32) ((([73, 110, 115, 117, 102, 102, 105, 99, 105, 101, 110, 116, 32, 112, 101, 114, 109, 105, 115, 115, 105, 111, 110, 115, 58, 32, p1, p2, p3] : List Int32).map (fun c => c.toInt8.toInt32)).map Value.int) z0 := by have q := f36_5; rw [f18_7] at q; exact q
  have c55 := (c37.keep Kq36 all0)
  have c56 := (((c15.keep Kq18).keep Kq28).keep Kq36)
  have c57 := ((((((Ut1.ext E3).keep Kq7 (ninS ne_b1_b3 nin0)).ext E13).keep Kq18 (ninS ne_b1_b3 nin0)).keep Kq28 (ninS ne_b1_b3 (ninS ne_b1_nb_18 nin0))).keep Kq36 nin0)
  have c58 := ((((((F1_cause.ext E3).keep Kq7 (ninS ne_b1_b3 nin0)).ext E13).keep Kq18 (ninS ne_b1_b3 nin0)).keep Kq28 (ninS ne_b1_b3 (ninS ne_b1_nb_18 nin0))).keep Kq36 nin0)
  have c59 := ((((((F1_stackTrace.ext E3).keep Kq7 (ninS ne_b1_b3 nin0)).ext E13).keep Kq18 (ninS ne_b1_b3 nin0)).keep Kq28 (ninS ne_b1_b3 (ninS ne_b1_nb_18 nin0))).keep Kq36 nin0)
  have c60 := ((((((F1_suppressedExceptions.ext E3).keep Kq7 (ninS ne_b1_b3 nin0)).ext E13).keep Kq18 (ninS ne_b1_b3 nin0)).keep Kq28 (ninS ne_b1_b3 (ninS ne_b1_nb_18 nin0))).keep Kq36 nin0)
  have c61 := ((((((F1_backtrace.ext E3).keep Kq7 (ninS ne_b1_b3 nin0)).ext E13).keep Kq18 (ninS ne_b1_b3 nin0)).keep Kq28 (ninS ne_b1_b3 (ninS ne_b1_nb_18 nin0))).keep Kq36 nin0)
  have c62 := ((((((F1_detailMessage.ext E3).keep Kq7 (ninS ne_b1_b3 nin0)).ext E13).keep Kq18 (ninS ne_b1_b3 nin0)).keep Kq28 (ninS ne_b1_b3 (ninS ne_b1_nb_18 nin0))).keep Kq36 nin0)
  have c63 := ((((((F1_status.ext E3).keep Kq7 (ninS ne_b1_b3 nin0)).ext E13).keep Kq18 (ninS ne_b1_b3 nin0)).keep Kq28 (ninS ne_b1_b3 (ninS ne_b1_nb_18 nin0))).keep Kq36 nin0)
  have c64 := ((((((F1_code.ext E3).keep Kq7 (ninS ne_b1_b3 nin0)).ext E13).keep Kq18 (ninS ne_b1_b3 nin0)).keep Kq28 (ninS ne_b1_b3 (ninS ne_b1_nb_18 nin0))).keep Kq36 nin0)
  obtain ⟨_, _, ⟨T54, Lw54, kw54, nw54⟩, -, X54', hS54', hg54, ⟨Lc54, hQ54, lq54, yq54, zq54, CH54⟩, st54⟩ := X36.specialBackS hx (y := M29) rfl hown13 (mvT hZ13 (wd hw 174 rfl)) (mvT hZ13 (wd hw 175 rfl)) (mvT hZ13 (wd hw 176 rfl)) (by decide) (backOfSKH (W := 1) (rmX l Z a0 hw [] b1 (403 : Int32) (403 : Int32) nx_36 zc vu vq T36.heap n0 Z36 c55 uS uP uLt uZu uRu uZs uRs c56 c57 c58 c59 c60 c61 c62 c63 c64 g_b1) hZ13 (wd hw 176 rfl) (wd hw 42 rfl) (by decide) (by decide) (own_EW hw) hCe53 (Vm.MethodsKnown.alikeC hS13.1.alike hK.1) (Vm.FramesKnown.alikeC hS13.1.alike hK.2)) (g := (mkF m 29 #[vr r0] [(.ref nx_36), (vI 403), (vI 403), (.ref b1), (.ref b1)])) rfl (by rw [hml]; rfl) (Steps.refl _) (a := b1) (argsL := [(vI 403), (vI 403), (.ref nx_36)]) (rest := [(.ref b1)]) (lenOf pd_22 rfl) rfl (by show 2 * 0 + _ ≤ _; exact Nat.le_of_eq rfl) (hb hby d9_29) (fun _ _ => ⟨rfl, rfl, (by decide : 8 + 1 ≤ _), (by decide : 238 + 2752 ≤ _)⟩)
  dsimp only [Pt.U, Pt.locs, Pt.cells, Pt.slots] at X54' hS54' hg54 lq54 yq54 zq54 st54 hQ54 CH54
  have X54' := own_reb X54' lq54 yq54 zq54
  obtain ⟨X54, hS54, hZ54, hown54⟩ := rebS hS13 (own_hk rfl hk36) X54' hS54' hg54 hZ13 hown13
  obtain ⟨rfl, Nq54, Kq54, f54_0, f54_1, f54_2⟩ := hQ54
  have N54 := Fr.app N36 Nq54
  have Re65 := Re53.trans CH54
  have hCe65 := Re65.1
  have K54 : Keep h0 T54.heap [] := K36.trans Kq54 (allS (Or.inr sz_b1) all0)
  have Z54 : n0 ≤ T54.heap.size := Nat.le_trans Z36 Kq54.1
  have hk54 : T54.heap.size ≤ T54.heap.size := Nat.le_refl _
  have c66 := (c56.keep Kq54)
  have c67 := (f36_1.keep Kq54)
  have c68 := (f36_2.keep Kq54 (ninS (Ne.symm ne_b1_nx_36) nin0))
  have c69 := (f36_3.keep Kq54 (ninS (Ne.symm ne_b1_nx_36) nin0))
  have c70 := (Vmsg.keep Kq54 (ninS (Ne.symm ne_b1_nb_36) nin0))
  obtain ⟨fs, hr, hrun, hended, en1, en2, en3, en4⟩ := X54.leaveW hS54 (own_hk rfl hk54) (v := some (.ref b1)) (fun h => by rw [Bd.returns] at h; cases h)
  refine ⟨_, _, pre0 _ ?_, hrun, hended, _, _, rfl, ?_, own_chr (T := T54) hh rfl (Re65.trans (CHv.at X54 hZ54 (own_EW hw) hCe65)), en1, en2, en3, en4.mono (by decide) (by decide)⟩
  · show SS p e below s₁ (mkF m 0 #[vr r0] []) _
    refine st1 _ ?_
    refine XS.dup X1.here hx rfl (hb hby d9_3) rfl rfl ?_
    refine XS.sipush X1.here hx rfl (hb hby d9_4) ?_
    refine XS.sipush X1.here hx rfl (hb hby d9_7) ?_
    refine st3 _ ?_
    refine XS.dup X3.here hx rfl (hb hby d9_13) rfl rfl ?_
    show SS p e below T3 (mkF m 14 #[vr r0] [(.ref b3), (.ref b3), (vI 403), (vI 403), (.ref b1), (.ref b1)]) _
    refine st7.trans ?_
    show SS p e below T7 (mkF m 17 #[vr r0] [(.ref b3), (vI 403), (vI 403), (.ref b1), (.ref b1)]) _
    refine st13 _ ?_
    show SS p e below T13 (mkF m 19 #[vr r0] [(.ref b13), (.ref b3), (vI 403), (vI 403), (.ref b1), (.ref b1)]) _
    refine st18.trans ?_
    refine XS.aloadN X18.here hx rfl (hb hby d9_22) rfl rfl ?_
    show SS p e below T18 (mkF m 23 #[vr r0] [(.ref r0), (.ref b3), (vI 403), (vI 403), (.ref b1), (.ref b1)]) _
    refine st28.trans ?_
    show SS p e below T28 (mkF m 26 #[vr r0] [(.ref b3), (vI 403), (vI 403), (.ref b1), (.ref b1)]) _
    refine st36.trans ?_
    show SS p e below T36 (mkF m 29 #[vr r0] [(.ref nx_36), (vI 403), (vI 403), (.ref b1), (.ref b1)]) _
    refine st54.trans ?_
    exact retOut X54 hx Bd.returns rfl (Or.inr (Or.inr (Or.inr (Or.inr ⟨rfl, rfl, rfl⟩)))) (hb hby d9_32) hr
  · show Q_rmF3 Z r0 zc vu vq rt kt p1 p2 p3 h0 n0 _ T54.heap _
    exact ⟨b1, nx_36, nb_36, nk_36, rfl, N54, K54, sz_b1, c66, f54_0, f54_1, f54_2, c67, c68, c69, c70⟩
theorem ef_46 (m : MethodId) (x0 : Int32) (x1 : Int32) (x2 : Int32) (x3 : Int32) : entryFrame m #[(.int x0), (.int x1), (.int x2), (.int x3)] maxLocals = mkF m 0 #[vi x0, vi x1, vi x2, vi x3, uu, uu, uu, uu, uu, uu, uu, uu] [] := by first | (simp [entryFrame, mkF, argsToLocals, Value.category, maxLocals]; done) | rfl
theorem pd_23 : parseMethodDescriptor "(ICCC)Ljava/lang/String;" = some ⟨[.int, .char, .char, .char], some (.object "java/lang/String")⟩ := by decide +kernel
theorem pd_24 : parseMethodDescriptor "(Ljava/lang/String;)Lcom/example/plain_hub/plainhub/HubException;" = some ⟨[(.object "java/lang/String")], some (.object "com/example/plain_hub/plainhub/HubException")⟩ := by decide +kernel
theorem own_w_wordsEq : ∀ d ∈ StrChars.Road.wordsEq, d ∈ tables_1 := by decide +kernel
theorem pd_25 : parseMethodDescriptor "(Ljava/lang/Object;)Z" = some ⟨[(.object "java/lang/Object")], some .boolean⟩ := by decide +kernel
def Q_rm0 (Z : State) (p0 : Int32) (p1 : Int32) (p2 : Int32) (p3 : Int32) (zc : Int32) (vu : Value) (vq : Value) (vL : Int32) (c1 : Int32) (c2 : Int32) (c3 : Int32) (h0 : Heap) (n0 : Nat) (v : Option Value) (h : Heap) (L : List Loc) : Prop := (v = some (.int 1) ∧ Fr n0 L)
set_option maxRecDepth 65536 in
set_option maxHeartbeats 40000000 in
theorem rm0 (l : Launch) (Z : State) (a0 : Array Value) (hw : ∀ d ∈ tables_1, d.before a0 Z = true) (ws : List Jvm.Cond) (p0 : Int32) (p1 : Int32) (p2 : Int32) (p3 : Int32) (zc : Int32) (vu : Value) (vq : Value) (vL : Int32) (c1 : Int32) (c2 : Int32) (c3 : Int32) (h0 : Heap) (n0 : Nat) (Z0 : n0 ≤ h0.size) (uO : Old Z n0 h0) (uS : Sta Z Z.heap "java/lang/String" "COMPACT_STRINGS" "Z" (.int zc)) (uP : ¬ zc = 0) (uLt : l.stackTraces = true) (uZu : Sta Z Z.heap "java/lang/Throwable" "UNASSIGNED_STACK" "[Ljava/lang/StackTraceElement;" vu) (uRu : vu.isRef = true) (uZs : Sta Z Z.heap "java/lang/Throwable" "SUPPRESSED_SENTINEL" "Ljava/util/List;" vq) (uRs : vq.isRef = true) (uLen : (p0 &&& (3 : Int32)) = vL) (e1_ : ((p1 &&& (255 : Int32)).toUInt32.toUInt16.toUInt32.toInt32) = c1) (e2_ : ((p2 &&& (255 : Int32)).toUInt32.toUInt16.toUInt32.toInt32) = c2) (e3_ : ((p3 &&& (255 : Int32)).toUInt32.toUInt16.toUInt32.toInt32) = c3) (u1 : ¬ c1 < 0 ∧ ¬ (255 : Int32) < c1) (u2 : ¬ c2 < 0 ∧ ¬ (255 : Int32) < c2) (u3 : ¬ c3 < 0 ∧ ¬ (255 : Int32) < c3) (u4 : vL = (0 : Int32) ∨ vL = (1 : Int32) ∨ vL = (2 : Int32) ∨ vL = (3 : Int32)) :
    MetFree l x (head1 (Jvm.Cond.code x code maxLocals ret :: ws) room_1) (fun a U => a = #[(.int p0), (.int p1), (.int p2), (.int p3)] ∧ Z.Warmed39 U.vm ∧ U.heap = h0 ∧ CHv Z own_EL U.vm h0) (fun _ _ _ s _ => Jvm.Pilot.@@N@@.Jvm.D.framesKnown s = true ∧ Jvm.Pilot.@@N@@.Jvm.D.tablesKnown s = true) (fun _ U o U' => ∃ v L, o = .returned v ∧ Q_rm0 Z p0 p1 p2 p3 zc vu vq vL c1 c2 c3 h0 n0 v U'.heap L ∧ CHr Z own_EL U.vm U.heap U'.vm U'.heap ∧ ReturnedEndW U o U' L room_1.cells room_1.slots) := by
  refine MetFree.of_bodySF (plainFor_of_name pn_4) hisR ?_
  intro p e s m args below meth c s₁ Bd hml0 hP hK
  obtain ⟨rfl, hZ, hh, hC0⟩ := hP
  have hx := Bd.exec
  have hby := Bd.bytes
  have hml : c.maxLocals = 12 := hml0
  have hown : s.vm.findClass "com/example/plain_hub/plainhub/HubExceptionForbiddenPinLaw" = some m.cls := findClass_of_methodNamed Bd.named
  have hnm := (name_of_methodNamed Bd.named Bd.method).1
  have X0 : Stand p l e room_1 (s.setVm s.vm) m #[(.int p0), (.int p1), (.int p2), (.int p3)] below meth c s₁ [] 0 0 := Stand.of_body Bd
  have e0 : s₁.heap = h0 := by rw [← hh, Bd.state]; rfl
  have N0 := Fr.nil n0
  have pre0 : ∀ t, Steps p.tables e below (s₁.setTop (mkF m 0 #[vi p0, vi p1, vi p2, vi p3, uu, uu, uu, uu, uu, uu, uu, uu] [])) t → Steps p.tables e below (s₁.setTop (entryFrame m #[(.int p0), (.int p1), (.int p2), (.int p3)] maxLocals)) t := fun t k => castTop (ef_46 m p0 p1 p2 p3) k
  have hK := X0.known hK.2 hK.1
  have hS0 : s.Since s.vm 0 := (State.WarmedH.refl s).since _
  have hk0 : 0 ≤ h0.size := Nat.zero_le _
  have R0 := CHr.refl hC0
  have sg1 : ∀ target, SS p e below s₁ (mkF m 37 #[vi p0, vi p1, vi p2, vi p3, vi vL, vi c1, vi c2, vi c3, uu, uu, uu, uu] [(.int c3), (.int c2), (.int c1), (.int vL)]) target → SS p e below s₁ (mkF m 0 #[vi p0, vi p1, vi p2, vi p3, uu, uu, uu, uu, uu, uu, uu, uu] []) target := by
    intro target kt
    show SS p e below s₁ (mkF m 0 #[vi p0, vi p1, vi p2, vi p3, uu, uu, uu, uu, uu, uu, uu, uu] []) _
    refine XS.iloadN X0.here hx rfl (hb hby at_0) rfl ?_
    refine XS.iconst X0.here hx rfl (hb hby at_1) ?_
    show SS p e below s₁ (mkF m 2 #[vi p0, vi p1, vi p2, vi p3, uu, uu, uu, uu, uu, uu, uu, uu] [(vI 3), (.int p0)]) _
    refine XS.iand X0.here hx rfl (hb hby at_2) rfl ?_
    show SS p e below s₁ (mkF m 3 #[vi p0, vi p1, vi p2, vi p3, uu, uu, uu, uu, uu, uu, uu, uu] [(.int (p0 &&& (3 : Int32)))]) _
    rw [uLen]
    refine XS.istore X0.here hx rfl (hb hby at_3) rfl (l' := #[vi p0, vi p1, vi p2, vi p3, vi vL, uu, uu, uu, uu, uu, uu, uu]) rfl ?_
    refine XS.iloadN X0.here hx rfl (hb hby at_5) rfl ?_
    refine XS.sipush X0.here hx rfl (hb hby at_6) ?_
    show SS p e below s₁ (mkF m 9 #[vi p0, vi p1, vi p2, vi p3, vi vL, uu, uu, uu, uu, uu, uu, uu] [(vI 255), (.int p1)]) _
    refine XS.iand X0.here hx rfl (hb hby at_9) rfl ?_
    show SS p e below s₁ (mkF m 10 #[vi p0, vi p1, vi p2, vi p3, vi vL, uu, uu, uu, uu, uu, uu, uu] [(.int (p1 &&& (255 : Int32)))]) _
    refine XS.i2c X0.here hx rfl (hb hby at_10) rfl ?_
    show SS p e below s₁ (mkF m 11 #[vi p0, vi p1, vi p2, vi p3, vi vL, uu, uu, uu, uu, uu, uu, uu] [(.int ((p1 &&& (255 : Int32)).toUInt32.toUInt16.toUInt32.toInt32))]) _
    rw [e1_]
    refine XS.istore X0.here hx rfl (hb hby at_11) rfl (l' := #[vi p0, vi p1, vi p2, vi p3, vi vL, vi c1, uu, uu, uu, uu, uu, uu]) rfl ?_
    refine XS.iloadN X0.here hx rfl (hb hby at_13) rfl ?_
    refine XS.sipush X0.here hx rfl (hb hby at_14) ?_
    show SS p e below s₁ (mkF m 17 #[vi p0, vi p1, vi p2, vi p3, vi vL, vi c1, uu, uu, uu, uu, uu, uu] [(vI 255), (.int p2)]) _
    refine XS.iand X0.here hx rfl (hb hby at_17) rfl ?_
    show SS p e below s₁ (mkF m 18 #[vi p0, vi p1, vi p2, vi p3, vi vL, vi c1, uu, uu, uu, uu, uu, uu] [(.int (p2 &&& (255 : Int32)))]) _
    refine XS.i2c X0.here hx rfl (hb hby at_18) rfl ?_
    show SS p e below s₁ (mkF m 19 #[vi p0, vi p1, vi p2, vi p3, vi vL, vi c1, uu, uu, uu, uu, uu, uu] [(.int ((p2 &&& (255 : Int32)).toUInt32.toUInt16.toUInt32.toInt32))]) _
    rw [e2_]
    refine XS.istore X0.here hx rfl (hb hby at_19) rfl (l' := #[vi p0, vi p1, vi p2, vi p3, vi vL, vi c1, vi c2, uu, uu, uu, uu, uu]) rfl ?_
    refine XS.iloadN X0.here hx rfl (hb hby at_21) rfl ?_
    refine XS.sipush X0.here hx rfl (hb hby at_22) ?_
    show SS p e below s₁ (mkF m 25 #[vi p0, vi p1, vi p2, vi p3, vi vL, vi c1, vi c2, uu, uu, uu, uu, uu] [(vI 255), (.int p3)]) _
    refine XS.iand X0.here hx rfl (hb hby at_25) rfl ?_
    show SS p e below s₁ (mkF m 26 #[vi p0, vi p1, vi p2, vi p3, vi vL, vi c1, vi c2, uu, uu, uu, uu, uu] [(.int (p3 &&& (255 : Int32)))]) _
    refine XS.i2c X0.here hx rfl (hb hby at_26) rfl ?_
    show SS p e below s₁ (mkF m 27 #[vi p0, vi p1, vi p2, vi p3, vi vL, vi c1, vi c2, uu, uu, uu, uu, uu] [(.int ((p3 &&& (255 : Int32)).toUInt32.toUInt16.toUInt32.toInt32))]) _
    rw [e3_]
    refine XS.istore X0.here hx rfl (hb hby at_27) rfl (l' := #[vi p0, vi p1, vi p2, vi p3, vi vL, vi c1, vi c2, vi c3, uu, uu, uu, uu]) rfl ?_
    refine XS.iload X0.here hx rfl (hb hby at_29) rfl ?_
    refine XS.iload X0.here hx rfl (hb hby at_31) rfl ?_
    refine XS.iload X0.here hx rfl (hb hby at_33) rfl ?_
    refine XS.iload X0.here hx rfl (hb hby at_35) rfl ?_
    exact kt
  rcases u4 with rfl | rfl | rfl | rfl
  · obtain ⟨_, _, ⟨T2, Lw2, kw2, nw2⟩, -, X2', hS2', hg2, ⟨Lc2, hQ2, lq2, yq2, zq2, CH2⟩, st2⟩ := callSS X0 hx (y := M24) hown (mvT hZ (wd hw 0 rfl)) (mvT hZ (wd hw 1 rfl)) (mvT hZ (wd hw 2 rfl)) (mvT hZ (wd hw 3 rfl)) (by decide) (backOfSH (W := 0) (rmR0 l Z a0 hw [] c1 c2 c3 zc h0 n0 Z0 uO uS uP u1 u2 u3) hZ (wd hw 3 rfl) (wd hw 2 rfl) (by decide) (by decide) (own_EW hw) hC0) (g := (mkF m 37 #[vi p0, vi p1, vi p2, vi p3, vi (0 : Int32), vi c1, vi c2, vi c3, uu, uu, uu, uu] [(.int c3), (.int c2), (.int c1), z0])) rfl (by rw [hml]; rfl) (argsL := [z0, (.int c1), (.int c2), (.int c3)]) (rest := []) (lenOf pd_23 rfl) rfl (by show 2 * 0 + _ ≤ _; exact Nat.le_of_eq rfl) (hb hby at_37) (fun _ _ => ⟨rfl, e0, (by decide : 0 + 6 ≤ _), (by decide : 0 + 12 ≤ _)⟩)
    dsimp only [Pt.U, Pt.locs, Pt.cells, Pt.slots] at X2' hS2' hg2 lq2 yq2 zq2 st2 hQ2 CH2
    have X2' := own_reb X2' lq2 yq2 zq2
    obtain ⟨X2, hS2, hZ2, hown2⟩ := rebS hS0 (own_hk e0 hk0) X2' hS2' hg2 hZ hown
    obtain ⟨nx_2, nt_2, nk_2, rfl, Nq2, Kq2, f2_0, f2_1, f2_2, f2_3, f2_4⟩ := hQ2
    have N2 := Fr.app N0 Nq2
    have g_nx_2 : n0 ≤ nx_2 := Nat.le_trans Z0 f2_0
    have sz_nx_2 : h0.size ≤ nx_2 := Nat.le_trans (Keep.refl h0 []).1 f2_0
    have Re3 := R0.trans CH2
    have hCe3 := Re3.1
    have K2 : Keep h0 T2.heap [] := (Keep.refl h0 []).trans Kq2 all0
    have Z2 : n0 ≤ T2.heap.size := Nat.le_trans Z0 Kq2.1
    have hk2 : T2.heap.size ≤ T2.heap.size := Nat.le_refl _
    have c5 := (uO.keep Kq2 all0)
    obtain ⟨_, _, ⟨T4, Lw4, kw4, nw4⟩, -, X4', hS4', hg4, ⟨Lc4, hQ4, lq4, yq4, zq4, CH4⟩, st4⟩ := callSS X2 hx (y := M25) hown2 (mvT hZ2 (wd hw 26 rfl)) (mvT hZ2 (wd hw 27 rfl)) (mvT hZ2 (wd hw 2 rfl)) (mvT hZ2 (wd hw 28 rfl)) (by decide) (backOfSH (W := 0) (rmE0 l Z a0 hw [] c1 c2 c3 zc T2.heap n0 Z2 c5 uS uP u1 u2 u3) hZ2 (wd hw 28 rfl) (wd hw 2 rfl) (by decide) (by decide) (own_EW hw) hCe3) (g := (mkF m 50 #[vi p0, vi p1, vi p2, vi p3, vi (0 : Int32), vi c1, vi c2, vi c3, vr nx_2, uu, uu, uu] [(.int c3), (.int c2), (.int c1), z0])) rfl (by rw [hml]; rfl) (argsL := [z0, (.int c1), (.int c2), (.int c3)]) (rest := []) (lenOf pd_23 rfl) rfl (by show 2 * 0 + _ ≤ _; exact Nat.le_of_eq rfl) (hb hby at_50) (fun _ _ => ⟨rfl, rfl, (by decide : 6 + 3 ≤ _), (by decide : 12 + 56 ≤ _)⟩)
    dsimp only [Pt.U, Pt.locs, Pt.cells, Pt.slots] at X4' hS4' hg4 lq4 yq4 zq4 st4 hQ4 CH4
    have X4' := own_reb X4' lq4 yq4 zq4
    obtain ⟨X4, hS4, hZ4, hown4⟩ := rebS hS2 (own_hk rfl hk2) X4' hS4' hg4 hZ2 hown2
    obtain ⟨nx_4, nt_4, nk_4, rfl, Nq4, Kq4, f4_0, f4_1, f4_2, f4_3, f4_4⟩ := hQ4
    have N4 := Fr.app N2 Nq4
    have ne_nx_2_nx_4 : nx_2 ≠ nx_4 := Nat.ne_of_lt (Nat.lt_of_lt_of_le f2_1.lt f4_0)
    have ne_nt_2_nx_4 : nt_2 ≠ nx_4 := Nat.ne_of_lt (Nat.lt_of_lt_of_le f2_4.lt f4_0)
    have g_nx_4 : n0 ≤ nx_4 := Nat.le_trans Z2 f4_0
    have sz_nx_4 : h0.size ≤ nx_4 := Nat.le_trans K2.1 f4_0
    have Re6 := Re3.trans CH4
    have hCe6 := Re6.1
    have K4 : Keep h0 T4.heap [] := K2.trans Kq4 all0
    have Z4 : n0 ≤ T4.heap.size := Nat.le_trans Z2 Kq4.1
    have hk4 : T4.heap.size ≤ T4.heap.size := Nat.le_refl _
    have c8 := (c5.keep Kq4 all0)
    have c9 := (f2_1.keep Kq4)
    have c10 := (f2_3.keep Kq4 nin0)
    have c11 := (f2_2.keep Kq4 nin0)
    have c12 := (f2_4.keep Kq4 nin0)
    obtain ⟨_, _, ⟨T7, Lw7, kw7, nw7⟩, -, X7', hS7', hg7, ⟨Lc7, hQ7, lq7, yq7, zq7, CH7⟩, st7⟩ := callSS X4 hx (y := M36) hown4 (mvT hZ4 (wd hw 40 rfl)) (mvT hZ4 (wd hw 41 rfl)) (mvT hZ4 (wd hw 42 rfl)) (mvT hZ4 (wd hw 43 rfl)) (by decide) (backOfSKH (W := 0) (rmF0 l Z a0 hw [] nx_2 zc vu vq nt_2 nk_2 T4.heap n0 Z4 c8 uS uP uLt uZu uRu uZs uRs c9 c10 c11 c12) hZ4 (wd hw 43 rfl) (wd hw 42 rfl) (by decide) (by decide) (own_EW hw) hCe6 (Vm.MethodsKnown.alikeC hS4.1.alike hK.1) (Vm.FramesKnown.alikeC hS4.1.alike hK.2)) (g := (mkF m 57 #[vi p0, vi p1, vi p2, vi p3, vi (0 : Int32), vi c1, vi c2, vi c3, vr nx_2, vr nx_4, uu, uu] [(.ref nx_2)])) rfl (by rw [hml]; rfl) (argsL := [(.ref nx_2)]) (rest := []) (lenOf pd_24 rfl) rfl (by show 2 * 0 + _ ≤ _; exact Nat.le_of_eq rfl) (hb hby at_57) (fun _ _ => ⟨rfl, rfl, (by decide : 9 + 9 ≤ _), (by decide : 68 + 2990 ≤ _)⟩)
    dsimp only [Pt.U, Pt.locs, Pt.cells, Pt.slots] at X7' hS7' hg7 lq7 yq7 zq7 st7 hQ7 CH7
    have X7' := own_reb X7' lq7 yq7 zq7
    obtain ⟨X7, hS7, hZ7, hown7⟩ := rebS hS4 (own_hk rfl hk4) X7' hS7' hg7 hZ4 hown4
    obtain ⟨nx_7, nm_7, nt_7, nk_7, rfl, Nq7, Kq7, f7_0, f7_1, f7_2, f7_3, f7_4, f7_5, f7_6, f7_7, f7_8⟩ := hQ7
    have N7 := Fr.app N4 Nq7
    have ne_nx_2_nx_7 : nx_2 ≠ nx_7 := Nat.ne_of_lt (Nat.lt_of_lt_of_le c9.lt f7_0)
    have ne_nt_2_nx_7 : nt_2 ≠ nx_7 := Nat.ne_of_lt (Nat.lt_of_lt_of_le c12.lt f7_0)
    have ne_nx_4_nx_7 : nx_4 ≠ nx_7 := Nat.ne_of_lt (Nat.lt_of_lt_of_le f4_1.lt f7_0)
    have ne_nt_4_nx_7 : nt_4 ≠ nx_7 := Nat.ne_of_lt (Nat.lt_of_lt_of_le f4_4.lt f7_0)
    have g_nx_7 : n0 ≤ nx_7 := Nat.le_trans Z4 f7_0
    have sz_nx_7 : h0.size ≤ nx_7 := Nat.le_trans K4.1 f7_0
    have Re13 := Re6.trans CH7
    have hCe13 := Re13.1
    have K7 : Keep h0 T7.heap [] := K4.trans Kq7 all0
    have Z7 : n0 ≤ T7.heap.size := Nat.le_trans Z4 Kq7.1
    have hk7 : T7.heap.size ≤ T7.heap.size := Nat.le_refl _
    obtain ⟨cq14, kq14, q14a, q14b, q14c⟩ := isOf hZ7 rfl f7_1
    obtain ⟨_, _, ⟨T14, Lw14, kw14, nw14⟩, -, X14, ⟨Lc14, hQ14, lq14, yq14, zq14⟩, st14⟩ := X7.virtualBackUp hx (owner := "java/lang/Throwable") (x := M37) (y := M30) hown7 (mvT hZ7 (wd hw 235 rfl)) (mvT hZ7 (wd hw 236 rfl)) (mvT hZ7 (wd hw 237 rfl)) (by decide) (mvT hZ7 (wd hw 239 rfl)) (mvT hZ7 (wd hw 238 rfl)) (backOf (W := 0) (rmGM l Z a0 hw [] nx_7 nm_7 T7.heap n0 Z7 f7_4) hZ7 (wd hw 240 rfl) (wd hw 192 rfl) (by decide) (by decide)) q14a q14c (g := (mkF m 71 #[vi p0, vi p1, vi p2, vi p3, vi (0 : Int32), vi c1, vi c2, vi c3, vr nx_2, vr nx_4, vr nx_7, uu] [(.ref nx_7)])) rfl (by rw [hml]; rfl) (Steps.refl _) (argsL := []) (rest := []) (lenOf pd_21 rfl) rfl (by show 2 * 0 + _ ≤ _; exact Nat.le_of_eq rfl) (hb hby at_71) (fun _ _ => ⟨rfl, rfl, (by decide : 18 + 0 ≤ _), (by decide : 3058 + 0 ≤ _)⟩)
    dsimp only [Pt.U, Pt.locs, Pt.cells, Pt.slots] at X14 lq14 yq14 zq14 st14 hQ14
    have X14 := own_reb X14 lq14 yq14 zq14
    obtain ⟨rfl, Nq14, eh14⟩ := hQ14
    have N14 := Fr.app N7 Nq14
    obtain ⟨cq15, kq15, q15a, q15b, q15c⟩ := isOf hZ7 eh14 f7_1
    obtain ⟨_, _, ⟨T15, Lw15, kw15, nw15⟩, -, X15, ⟨Lc15, hQ15, lq15, yq15, zq15⟩, st15⟩ := X14.virtualBack hx (y := M31) (z := M31) hown7 (mvT hZ7 (wd hw 241 rfl)) (mvT hZ7 (wd hw 242 rfl)) (notFace_of_selects (args := #[]) (mvT hZ7 (wd hw 244 rfl))) (mvT hZ7 (wd hw 244 rfl)) (mvT hZ7 (wd hw 243 rfl)) (by decide) (backOf (W := 0) (rmSt l Z a0 hw [] nx_7 (403 : Int32) T7.heap n0 Z7 f7_1 f7_2) hZ7 (wd hw 245 rfl) (wd hw 42 rfl) (by decide) (by decide)) q15a q15c (g := (mkF m 78 #[vi p0, vi p1, vi p2, vi p3, vi (0 : Int32), vi c1, vi c2, vi c3, vr nx_2, vr nx_4, vr nx_7, vr nm_7] [(.ref nx_7)])) rfl (by rw [hml]; rfl) (Steps.refl _) (argsL := []) (rest := []) (lenOf pd_2 rfl) rfl (by show 2 * 0 + _ ≤ _; exact Nat.le_of_eq rfl) (hb hby at_78) (fun _ _ => ⟨rfl, eh14, (by decide : 18 + 0 ≤ _), (by decide : 3058 + 0 ≤ _)⟩)
    dsimp only [Pt.U, Pt.locs, Pt.cells, Pt.slots] at X15 lq15 yq15 zq15 st15 hQ15
    have X15 := own_reb X15 lq15 yq15 zq15
    obtain ⟨rfl, Nq15, eh15⟩ := hQ15
    have N15 := Fr.app N14 Nq15
    obtain ⟨cq16, kq16, q16a, q16b, q16c⟩ := isOf hZ7 eh15 f7_1
    obtain ⟨_, _, ⟨T16, Lw16, kw16, nw16⟩, -, X16, ⟨Lc16, hQ16, lq16, yq16, zq16⟩, st16⟩ := X15.virtualBack hx (y := M32) (z := M32) hown7 (mvT hZ7 (wd hw 246 rfl)) (mvT hZ7 (wd hw 247 rfl)) (notFace_of_selects (args := #[]) (mvT hZ7 (wd hw 249 rfl))) (mvT hZ7 (wd hw 249 rfl)) (mvT hZ7 (wd hw 248 rfl)) (by decide) (backOf (W := 0) (rmCo l Z a0 hw [] nx_7 (403 : Int32) T7.heap n0 Z7 f7_1 f7_3) hZ7 (wd hw 250 rfl) (wd hw 42 rfl) (by decide) (by decide)) q16a q16c (g := (mkF m 89 #[vi p0, vi p1, vi p2, vi p3, vi (0 : Int32), vi c1, vi c2, vi c3, vr nx_2, vr nx_4, vr nx_7, vr nm_7] [(.ref nx_7)])) rfl (by rw [hml]; rfl) (Steps.refl _) (argsL := []) (rest := []) (lenOf pd_2 rfl) rfl (by show 2 * 0 + _ ≤ _; exact Nat.le_of_eq rfl) (hb hby at_89) (fun _ _ => ⟨rfl, eh15, (by decide : 18 + 0 ≤ _), (by decide : 3058 + 0 ≤ _)⟩)
    dsimp only [Pt.U, Pt.locs, Pt.cells, Pt.slots] at X16 lq16 yq16 zq16 st16 hQ16
    have X16 := own_reb X16 lq16 yq16 zq16
    obtain ⟨rfl, Nq16, eh16⟩ := hQ16
    have N16 := Fr.app N15 Nq16
    have c18 := (f4_1.keep Kq7)
    have c19 := (f4_3.keep Kq7 nin0)
    have c20 := (f4_2.keep Kq7 nin0)
    have c21 := (f4_4.keep Kq7 nin0)
    have c22 := (c8.keep Kq7 all0)
    obtain ⟨cq17, kq17, q17a, q17b, q17c⟩ := isOf hZ7 eh16 f7_5
    obtain ⟨_, _, ⟨T17, Lw17, kw17, nw17⟩, -, X17, ⟨Lc17, hQ17, lq17, yq17, zq17⟩, st17⟩ := X16.virtualBack hx (y := M38) (z := M38) hown7 (mvT hZ7 (wd hw 251 rfl)) (mvT hZ7 (wd hw 252 rfl)) (notFace_of_selects (args := #[]) (mvT hZ7 (wd hw 254 rfl))) (mvT hZ7 (wd hw 254 rfl)) (mvT hZ7 (wd hw 253 rfl)) (by decide) (StrChars.Road.eqW (W := 0) hZ7 (fun d hd => hw d (own_w_wordsEq d hd)) (kI := 4) (wd hw 5 rfl) f7_5 f7_7 f7_6 f7_8 (StrChars.Road.codOf (cs := ([73, 110, 115, 117, 102, 102, 105, 99, 105, 101, 110, 116, 32, 112, 101, 114, 109, 105, 115, 115, 105, 111, 110, 115, 58, 32] : List Int32)) (n := 26) rfl (fun c hc => ((own_all0 ) c hc).2)) (own_up (own_all0 )) (Nat.le_of_ble_eq_true rfl) c18 c19 c20 c21 (StrChars.Road.codOf (cs := ([73, 110, 115, 117, 102, 102, 105, 99, 105, 101, 110, 116, 32, 112, 101, 114, 109, 105, 115, 115, 105, 111, 110, 115, 58, 32] : List Int32)) (n := 26) rfl (fun c hc => ((own_all0 ) c hc).2)) (own_up (own_all0 )) (Nat.le_of_ble_eq_true rfl) (uS.ext c22.2) uP (by decide) (by decide)) q17a q17c (g := (mkF m 107 #[vi p0, vi p1, vi p2, vi p3, vi (0 : Int32), vi c1, vi c2, vi c3, vr nx_2, vr nx_4, vr nx_7, vr nm_7] [(.ref nx_4), (.ref nm_7)])) rfl (by rw [hml]; rfl) (Steps.refl _) (argsL := [(.ref nx_4)]) (rest := []) (lenOf pd_25 rfl) rfl (by show 2 * 0 + _ ≤ _; exact Nat.le_of_eq rfl) (hb hby at_107) (fun _ _ => ⟨rfl, eh16, (by decide : 18 + 0 ≤ _), (by decide : 3058 + 0 ≤ _)⟩)
    dsimp only [Pt.U, Pt.locs, Pt.cells, Pt.slots] at X17 lq17 yq17 zq17 st17 hQ17
    have X17 := own_reb X17 lq17 yq17 zq17
    obtain ⟨ho17, rfl, eh17⟩ := hQ17; obtain rfl := own_eqv ho17
    have N17 := Fr.app N16 (Fr.nil n0)
    obtain ⟨fs, hr, hrun, hended, en1, en2, en3, en4⟩ := X17.leaveW hS7 (own_hk eh17 hk7) (v := some (.int (nar .boolean (1 : Int32)))) (fun h => by rw [Bd.returns] at h; cases h)
    refine ⟨_, _, pre0 _ ?_, hrun, hended, _, _, rfl, ?_, own_chr (T := T17) hh eh17 (Re13.trans (CHv.at X17 hZ7 (own_EW hw) hCe13)), en1, en2, en3, en4.mono (by decide) (by decide)⟩
    · refine sg1 _ ?_
      show SS p e below s₁ (mkF m 37 #[vi p0, vi p1, vi p2, vi p3, vi (0 : Int32), vi c1, vi c2, vi c3, uu, uu, uu, uu] [(.int c3), (.int c2), (.int c1), z0]) _
      refine st2.trans ?_
      refine XS.astore X2.here hx rfl (hb hby at_40) rfl rfl (l' := #[vi p0, vi p1, vi p2, vi p3, vi (0 : Int32), vi c1, vi c2, vi c3, vr nx_2, uu, uu, uu]) rfl ?_
      refine XS.iload X2.here hx rfl (hb hby at_42) rfl ?_
      refine XS.iload X2.here hx rfl (hb hby at_44) rfl ?_
      refine XS.iload X2.here hx rfl (hb hby at_46) rfl ?_
      refine XS.iload X2.here hx rfl (hb hby at_48) rfl ?_
      show SS p e below T2 (mkF m 50 #[vi p0, vi p1, vi p2, vi p3, vi (0 : Int32), vi c1, vi c2, vi c3, vr nx_2, uu, uu, uu] [(.int c3), (.int c2), (.int c1), z0]) _
      refine st4.trans ?_
      refine XS.astore X4.here hx rfl (hb hby at_53) rfl rfl (l' := #[vi p0, vi p1, vi p2, vi p3, vi (0 : Int32), vi c1, vi c2, vi c3, vr nx_2, vr nx_4, uu, uu]) rfl ?_
      refine XS.aload X4.here hx rfl (hb hby at_55) rfl rfl ?_
      show SS p e below T4 (mkF m 57 #[vi p0, vi p1, vi p2, vi p3, vi (0 : Int32), vi c1, vi c2, vi c3, vr nx_2, vr nx_4, uu, uu] [(.ref nx_2)]) _
      refine st7.trans ?_
      refine XS.astore X7.here hx rfl (hb hby at_60) rfl rfl (l' := #[vi p0, vi p1, vi p2, vi p3, vi (0 : Int32), vi c1, vi c2, vi c3, vr nx_2, vr nx_4, vr nx_7, uu]) rfl ?_
      refine XS.aload X7.here hx rfl (hb hby at_62) rfl rfl ?_
      show SS p e below T7 (mkF m 64 #[vi p0, vi p1, vi p2, vi p3, vi (0 : Int32), vi c1, vi c2, vi c3, vr nx_2, vr nx_4, vr nx_7, uu] [(.ref nx_7)]) _
      refine XS.ifnonnullYes X7.here hx rfl (pc0 := 64) (pc' := 69) rfl (hb hby at_64) rfl (by decide) (by decide) ?_
      refine XS.aload X7.here hx rfl (hb hby at_69) rfl rfl ?_
      show SS p e below T7 (mkF m 71 #[vi p0, vi p1, vi p2, vi p3, vi (0 : Int32), vi c1, vi c2, vi c3, vr nx_2, vr nx_4, vr nx_7, uu] [(.ref nx_7)]) _
      refine st14.trans ?_
      refine XS.astore X14.here hx rfl (hb hby at_74) rfl rfl (l' := #[vi p0, vi p1, vi p2, vi p3, vi (0 : Int32), vi c1, vi c2, vi c3, vr nx_2, vr nx_4, vr nx_7, vr nm_7]) rfl ?_
      refine XS.aload X14.here hx rfl (hb hby at_76) rfl rfl ?_
      show SS p e below T14 (mkF m 78 #[vi p0, vi p1, vi p2, vi p3, vi (0 : Int32), vi c1, vi c2, vi c3, vr nx_2, vr nx_4, vr nx_7, vr nm_7] [(.ref nx_7)]) _
      refine st15.trans ?_
      refine XS.sipush X15.here hx rfl (hb hby at_81) ?_
      show SS p e below T15 (mkF m 84 #[vi p0, vi p1, vi p2, vi p3, vi (0 : Int32), vi c1, vi c2, vi c3, vr nx_2, vr nx_4, vr nx_7, vr nm_7] [(vI 403), (vI 403)]) _
      refine XS.icmpNo X15.here hx rfl (hb hby at_84) rfl (teq (by decide : (403 : Int32) = (403 : Int32))).2 ?_
      refine XS.aload X15.here hx rfl (hb hby at_87) rfl rfl ?_
      show SS p e below T15 (mkF m 89 #[vi p0, vi p1, vi p2, vi p3, vi (0 : Int32), vi c1, vi c2, vi c3, vr nx_2, vr nx_4, vr nx_7, vr nm_7] [(.ref nx_7)]) _
      refine st16.trans ?_
      refine XS.sipush X16.here hx rfl (hb hby at_92) ?_
      show SS p e below T16 (mkF m 95 #[vi p0, vi p1, vi p2, vi p3, vi (0 : Int32), vi c1, vi c2, vi c3, vr nx_2, vr nx_4, vr nx_7, vr nm_7] [(vI 403), (vI 403)]) _
      refine XS.icmpNo X16.here hx rfl (hb hby at_95) rfl (teq (by decide : (403 : Int32) = (403 : Int32))).2 ?_
      refine XS.aload X16.here hx rfl (hb hby at_98) rfl rfl ?_
      show SS p e below T16 (mkF m 100 #[vi p0, vi p1, vi p2, vi p3, vi (0 : Int32), vi c1, vi c2, vi c3, vr nx_2, vr nx_4, vr nx_7, vr nm_7] [(.ref nm_7)]) _
      refine XS.ifnullNo X16.here hx rfl (hb hby at_100) rfl ?_
      refine XS.aload X16.here hx rfl (hb hby at_103) rfl rfl ?_
      refine XS.aload X16.here hx rfl (hb hby at_105) rfl rfl ?_
      show SS p e below T16 (mkF m 107 #[vi p0, vi p1, vi p2, vi p3, vi (0 : Int32), vi c1, vi c2, vi c3, vr nx_2, vr nx_4, vr nx_7, vr nm_7] [(.ref nx_4), (.ref nm_7)]) _
      refine st17.trans ?_
      show SS p e below T17 (mkF m 110 #[vi p0, vi p1, vi p2, vi p3, vi (0 : Int32), vi c1, vi c2, vi c3, vr nx_2, vr nx_4, vr nx_7, vr nm_7] [(.int (if ([73, 110, 115, 117, 102, 102, 105, 99, 105, 101, 110, 116, 32, 112, 101, 114, 109, 105, 115, 115, 105, 111, 110, 115, 58, 32] : List Int32) = ([73, 110, 115, 117, 102, 102, 105, 99, 105, 101, 110, 116, 32, 112, 101, 114, 109, 105, 115, 115, 105, 111, 110, 115, 58, 32] : List Int32) then (1 : Int32) else (0 : Int32)))]) _
      refine XS.ifNo X17.here hx rfl (hb hby at_110) rfl ((if0 _ _).trans (feq (by rw [if_pos rfl]; decide : ¬ ((if ([73, 110, 115, 117, 102, 102, 105, 99, 105, 101, 110, 116, 32, 112, 101, 114, 109, 105, 115, 115, 105, 111, 110, 115, 58, 32] : List Int32) = ([73, 110, 115, 117, 102, 102, 105, 99, 105, 101, 110, 116, 32, 112, 101, 114, 109, 105, 115, 115, 105, 111, 110, 115, 58, 32] : List Int32) then (1 : Int32) else (0 : Int32)) = (0 : Int32)))).1) ?_
      refine XS.iconst X17.here hx rfl (hb hby at_113) ?_
      refine XS.goto X17.here hx rfl (pc0 := 114) (pc' := 118) rfl (hb hby at_114) (by decide) (by decide) ?_
      exact retN X17 hx (t := .boolean) Bd.returns (by simp) (hb hby at_118) hr
    · show Q_rm0 Z p0 p1 p2 p3 zc vu vq (0 : Int32) c1 c2 c3 h0 n0 _ T17.heap _
      rw [eh17]
      exact ⟨rfl, N17⟩
  · obtain ⟨_, _, ⟨T23, Lw23, kw23, nw23⟩, -, X23', hS23', hg23, ⟨Lc23, hQ23, lq23, yq23, zq23, CH23⟩, st23⟩ := callSS X0 hx (y := M24) hown (mvT hZ (wd hw 0 rfl)) (mvT hZ (wd hw 1 rfl)) (mvT hZ (wd hw 2 rfl)) (mvT hZ (wd hw 3 rfl)) (by decide) (backOfSH (W := 0) (rmR1 l Z a0 hw [] c1 c2 c3 zc h0 n0 Z0 uO uS uP u1 u2 u3) hZ (wd hw 3 rfl) (wd hw 2 rfl) (by decide) (by decide) (own_EW hw) hC0) (g := (mkF m 37 #[vi p0, vi p1, vi p2, vi p3, vi (1 : Int32), vi c1, vi c2, vi c3, uu, uu, uu, uu] [(.int c3), (.int c2), (.int c1), (vI 1)])) rfl (by rw [hml]; rfl) (argsL := [(vI 1), (.int c1), (.int c2), (.int c3)]) (rest := []) (lenOf pd_23 rfl) rfl (by show 2 * 0 + _ ≤ _; exact Nat.le_of_eq rfl) (hb hby at_37) (fun _ _ => ⟨rfl, e0, (by decide : 0 + 3 ≤ _), (by decide : 0 + 6 ≤ _)⟩)
    dsimp only [Pt.U, Pt.locs, Pt.cells, Pt.slots] at X23' hS23' hg23 lq23 yq23 zq23 st23 hQ23 CH23
    have X23' := own_reb X23' lq23 yq23 zq23
    obtain ⟨X23, hS23, hZ23, hown23⟩ := rebS hS0 (own_hk e0 hk0) X23' hS23' hg23 hZ hown
    obtain ⟨nx_23, nt_23, nk_23, rfl, Nq23, Kq23, f23_0, f23_1, f23_2, f23_3, f23_4⟩ := hQ23
    have N23 := Fr.app N0 Nq23
    have g_nx_23 : n0 ≤ nx_23 := Nat.le_trans Z0 f23_0
    have sz_nx_23 : h0.size ≤ nx_23 := Nat.le_trans (Keep.refl h0 []).1 f23_0
    have Re24 := R0.trans CH23
    have hCe24 := Re24.1
    have K23 : Keep h0 T23.heap [] := (Keep.refl h0 []).trans Kq23 all0
    have Z23 : n0 ≤ T23.heap.size := Nat.le_trans Z0 Kq23.1
    have hk23 : T23.heap.size ≤ T23.heap.size := Nat.le_refl _
    have c26 := (uO.keep Kq23 all0)
    obtain ⟨_, _, ⟨T25, Lw25, kw25, nw25⟩, -, X25', hS25', hg25, ⟨Lc25, hQ25, lq25, yq25, zq25, CH25⟩, st25⟩ := callSS X23 hx (y := M25) hown23 (mvT hZ23 (wd hw 26 rfl)) (mvT hZ23 (wd hw 27 rfl)) (mvT hZ23 (wd hw 2 rfl)) (mvT hZ23 (wd hw 28 rfl)) (by decide) (backOfSH (W := 0) (rmE1 l Z a0 hw [] c1 c2 c3 zc T23.heap n0 Z23 c26 uS uP u1 u2 u3) hZ23 (wd hw 28 rfl) (wd hw 2 rfl) (by decide) (by decide) (own_EW hw) hCe24) (g := (mkF m 50 #[vi p0, vi p1, vi p2, vi p3, vi (1 : Int32), vi c1, vi c2, vi c3, vr nx_23, uu, uu, uu] [(.int c3), (.int c2), (.int c1), (vI 1)])) rfl (by rw [hml]; rfl) (argsL := [(vI 1), (.int c1), (.int c2), (.int c3)]) (rest := []) (lenOf pd_23 rfl) rfl (by show 2 * 0 + _ ≤ _; exact Nat.le_of_eq rfl) (hb hby at_50) (fun _ _ => ⟨rfl, rfl, (by decide : 3 + 3 ≤ _), (by decide : 6 + 58 ≤ _)⟩)
    dsimp only [Pt.U, Pt.locs, Pt.cells, Pt.slots] at X25' hS25' hg25 lq25 yq25 zq25 st25 hQ25 CH25
    have X25' := own_reb X25' lq25 yq25 zq25
    obtain ⟨X25, hS25, hZ25, hown25⟩ := rebS hS23 (own_hk rfl hk23) X25' hS25' hg25 hZ23 hown23
    obtain ⟨nx_25, nt_25, nk_25, rfl, Nq25, Kq25, f25_0, f25_1, f25_2, f25_3, f25_4⟩ := hQ25
    have N25 := Fr.app N23 Nq25
    have ne_nx_23_nx_25 : nx_23 ≠ nx_25 := Nat.ne_of_lt (Nat.lt_of_lt_of_le f23_1.lt f25_0)
    have ne_nt_23_nx_25 : nt_23 ≠ nx_25 := Nat.ne_of_lt (Nat.lt_of_lt_of_le f23_4.lt f25_0)
    have g_nx_25 : n0 ≤ nx_25 := Nat.le_trans Z23 f25_0
    have sz_nx_25 : h0.size ≤ nx_25 := Nat.le_trans K23.1 f25_0
    have Re27 := Re24.trans CH25
    have hCe27 := Re27.1
    have K25 : Keep h0 T25.heap [] := K23.trans Kq25 all0
    have Z25 : n0 ≤ T25.heap.size := Nat.le_trans Z23 Kq25.1
    have hk25 : T25.heap.size ≤ T25.heap.size := Nat.le_refl _
    have c29 := (c26.keep Kq25 all0)
    have c30 := (f23_1.keep Kq25)
    have c31 := (f23_3.keep Kq25 nin0)
    have c32 := (f23_2.keep Kq25 nin0)
    have c33 := (f23_4.keep Kq25 nin0)
    obtain ⟨_, _, ⟨T28, Lw28, kw28, nw28⟩, -, X28', hS28', hg28, ⟨Lc28, hQ28, lq28, yq28, zq28, CH28⟩, st28⟩ := callSS X25 hx (y := M36) hown25 (mvT hZ25 (wd hw 40 rfl)) (mvT hZ25 (wd hw 41 rfl)) (mvT hZ25 (wd hw 42 rfl)) (mvT hZ25 (wd hw 43 rfl)) (by decide) (backOfSKH (W := 0) (rmF1 l Z a0 hw [] nx_23 zc vu vq nt_23 nk_23 c1 T25.heap n0 Z25 c29 uS uP uLt uZu uRu uZs uRs c30 c31 c32 c33) hZ25 (wd hw 43 rfl) (wd hw 42 rfl) (by decide) (by decide) (own_EW hw) hCe27 (Vm.MethodsKnown.alikeC hS25.1.alike hK.1) (Vm.FramesKnown.alikeC hS25.1.alike hK.2)) (g := (mkF m 57 #[vi p0, vi p1, vi p2, vi p3, vi (1 : Int32), vi c1, vi c2, vi c3, vr nx_23, vr nx_25, uu, uu] [(.ref nx_23)])) rfl (by rw [hml]; rfl) (argsL := [(.ref nx_23)]) (rest := []) (lenOf pd_24 rfl) rfl (by show 2 * 0 + _ ≤ _; exact Nat.le_of_eq rfl) (hb hby at_57) (fun _ _ => ⟨rfl, rfl, (by decide : 6 + 9 ≤ _), (by decide : 64 + 2990 ≤ _)⟩)
    dsimp only [Pt.U, Pt.locs, Pt.cells, Pt.slots] at X28' hS28' hg28 lq28 yq28 zq28 st28 hQ28 CH28
    have X28' := own_reb X28' lq28 yq28 zq28
    obtain ⟨X28, hS28, hZ28, hown28⟩ := rebS hS25 (own_hk rfl hk25) X28' hS28' hg28 hZ25 hown25
    obtain ⟨nx_28, nm_28, nt_28, nk_28, rfl, Nq28, Kq28, f28_0, f28_1, f28_2, f28_3, f28_4, f28_5, f28_6, f28_7, f28_8⟩ := hQ28
    have N28 := Fr.app N25 Nq28
    have ne_nx_23_nx_28 : nx_23 ≠ nx_28 := Nat.ne_of_lt (Nat.lt_of_lt_of_le c30.lt f28_0)
    have ne_nt_23_nx_28 : nt_23 ≠ nx_28 := Nat.ne_of_lt (Nat.lt_of_lt_of_le c33.lt f28_0)
    have ne_nx_25_nx_28 : nx_25 ≠ nx_28 := Nat.ne_of_lt (Nat.lt_of_lt_of_le f25_1.lt f28_0)
    have ne_nt_25_nx_28 : nt_25 ≠ nx_28 := Nat.ne_of_lt (Nat.lt_of_lt_of_le f25_4.lt f28_0)
    have g_nx_28 : n0 ≤ nx_28 := Nat.le_trans Z25 f28_0
    have sz_nx_28 : h0.size ≤ nx_28 := Nat.le_trans K25.1 f28_0
    have Re34 := Re27.trans CH28
    have hCe34 := Re34.1
    have K28 : Keep h0 T28.heap [] := K25.trans Kq28 all0
    have Z28 : n0 ≤ T28.heap.size := Nat.le_trans Z25 Kq28.1
    have hk28 : T28.heap.size ≤ T28.heap.size := Nat.le_refl _
    obtain ⟨cq35, kq35, q35a, q35b, q35c⟩ := isOf hZ28 rfl f28_1
    obtain ⟨_, _, ⟨T35, Lw35, kw35, nw35⟩, -, X35, ⟨Lc35, hQ35, lq35, yq35, zq35⟩, st35⟩ := X28.virtualBackUp hx (owner := "java/lang/Throwable") (x := M37) (y := M30) hown28 (mvT hZ28 (wd hw 235 rfl)) (mvT hZ28 (wd hw 236 rfl)) (mvT hZ28 (wd hw 237 rfl)) (by decide) (mvT hZ28 (wd hw 239 rfl)) (mvT hZ28 (wd hw 238 rfl)) (backOf (W := 0) (rmGM l Z a0 hw [] nx_28 nm_28 T28.heap n0 Z28 f28_4) hZ28 (wd hw 240 rfl) (wd hw 192 rfl) (by decide) (by decide)) q35a q35c (g := (mkF m 71 #[vi p0, vi p1, vi p2, vi p3, vi (1 : Int32), vi c1, vi c2, vi c3, vr nx_23, vr nx_25, vr nx_28, uu] [(.ref nx_28)])) rfl (by rw [hml]; rfl) (Steps.refl _) (argsL := []) (rest := []) (lenOf pd_21 rfl) rfl (by show 2 * 0 + _ ≤ _; exact Nat.le_of_eq rfl) (hb hby at_71) (fun _ _ => ⟨rfl, rfl, (by decide : 15 + 0 ≤ _), (by decide : 3054 + 0 ≤ _)⟩)
    dsimp only [Pt.U, Pt.locs, Pt.cells, Pt.slots] at X35 lq35 yq35 zq35 st35 hQ35
    have X35 := own_reb X35 lq35 yq35 zq35
    obtain ⟨rfl, Nq35, eh35⟩ := hQ35
    have N35 := Fr.app N28 Nq35
    obtain ⟨cq36, kq36, q36a, q36b, q36c⟩ := isOf hZ28 eh35 f28_1
    obtain ⟨_, _, ⟨T36, Lw36, kw36, nw36⟩, -, X36, ⟨Lc36, hQ36, lq36, yq36, zq36⟩, st36⟩ := X35.virtualBack hx (y := M31) (z := M31) hown28 (mvT hZ28 (wd hw 241 rfl)) (mvT hZ28 (wd hw 242 rfl)) (notFace_of_selects (args := #[]) (mvT hZ28 (wd hw 244 rfl))) (mvT hZ28 (wd hw 244 rfl)) (mvT hZ28 (wd hw 243 rfl)) (by decide) (backOf (W := 0) (rmSt l Z a0 hw [] nx_28 (403 : Int32) T28.heap n0 Z28 f28_1 f28_2) hZ28 (wd hw 245 rfl) (wd hw 42 rfl) (by decide) (by decide)) q36a q36c (g := (mkF m 78 #[vi p0, vi p1, vi p2, vi p3, vi (1 : Int32), vi c1, vi c2, vi c3, vr nx_23, vr nx_25, vr nx_28, vr nm_28] [(.ref nx_28)])) rfl (by rw [hml]; rfl) (Steps.refl _) (argsL := []) (rest := []) (lenOf pd_2 rfl) rfl (by show 2 * 0 + _ ≤ _; exact Nat.le_of_eq rfl) (hb hby at_78) (fun _ _ => ⟨rfl, eh35, (by decide : 15 + 0 ≤ _), (by decide : 3054 + 0 ≤ _)⟩)
    dsimp only [Pt.U, Pt.locs, Pt.cells, Pt.slots] at X36 lq36 yq36 zq36 st36 hQ36
    have X36 := own_reb X36 lq36 yq36 zq36
    obtain ⟨rfl, Nq36, eh36⟩ := hQ36
    have N36 := Fr.app N35 Nq36
    obtain ⟨cq37, kq37, q37a, q37b, q37c⟩ := isOf hZ28 eh36 f28_1
    obtain ⟨_, _, ⟨T37, Lw37, kw37, nw37⟩, -, X37, ⟨Lc37, hQ37, lq37, yq37, zq37⟩, st37⟩ := X36.virtualBack hx (y := M32) (z := M32) hown28 (mvT hZ28 (wd hw 246 rfl)) (mvT hZ28 (wd hw 247 rfl)) (notFace_of_selects (args := #[]) (mvT hZ28 (wd hw 249 rfl))) (mvT hZ28 (wd hw 249 rfl)) (mvT hZ28 (wd hw 248 rfl)) (by decide) (backOf (W := 0) (rmCo l Z a0 hw [] nx_28 (403 : Int32) T28.heap n0 Z28 f28_1 f28_3) hZ28 (wd hw 250 rfl) (wd hw 42 rfl) (by decide) (by decide)) q37a q37c (g := (mkF m 89 #[vi p0, vi p1, vi p2, vi p3, vi (1 : Int32), vi c1, vi c2, vi c3, vr nx_23, vr nx_25, vr nx_28, vr nm_28] [(.ref nx_28)])) rfl (by rw [hml]; rfl) (Steps.refl _) (argsL := []) (rest := []) (lenOf pd_2 rfl) rfl (by show 2 * 0 + _ ≤ _; exact Nat.le_of_eq rfl) (hb hby at_89) (fun _ _ => ⟨rfl, eh36, (by decide : 15 + 0 ≤ _), (by decide : 3054 + 0 ≤ _)⟩)
    dsimp only [Pt.U, Pt.locs, Pt.cells, Pt.slots] at X37 lq37 yq37 zq37 st37 hQ37
    have X37 := own_reb X37 lq37 yq37 zq37
    obtain ⟨rfl, Nq37, eh37⟩ := hQ37
    have N37 := Fr.app N36 Nq37
    have c39 := (f25_1.keep Kq28)
    have c40 := (f25_3.keep Kq28 nin0)
    have c41 := (f25_2.keep Kq28 nin0)
    have c42 := (f25_4.keep Kq28 nin0)
    have c43 := (c29.keep Kq28 all0)
    obtain ⟨cq38, kq38, q38a, q38b, q38c⟩ := isOf hZ28 eh37 f28_5
    obtain ⟨_, _, ⟨T38, Lw38, kw38, nw38⟩, -, X38, ⟨Lc38, hQ38, lq38, yq38, zq38⟩, st38⟩ := X37.virtualBack hx (y := M38) (z := M38) hown28 (mvT hZ28 (wd hw 251 rfl)) (mvT hZ28 (wd hw 252 rfl)) (notFace_of_selects (args := #[]) (mvT hZ28 (wd hw 254 rfl))) (mvT hZ28 (wd hw 254 rfl)) (mvT hZ28 (wd hw 253 rfl)) (by decide) (StrChars.Road.eqW (W := 0) hZ28 (fun d hd => hw d (own_w_wordsEq d hd)) (kI := 4) (wd hw 5 rfl) f28_5 f28_7 f28_6 f28_8 (StrChars.Road.codOf (cs := ([73, 110, 115, 117, 102, 102, 105, 99, 105, 101, 110, 116, 32, 112, 101, 114, 109, 105, 115, 115, 105, 111, 110, 115, 58, 32, c1] : List Int32)) (n := 27) rfl (fun c hc => ((own_all1 u1) c hc).2)) (own_up (own_all1 u1)) (Nat.le_of_ble_eq_true rfl) c39 c40 c41 c42 (StrChars.Road.codOf (cs := ([73, 110, 115, 117, 102, 102, 105, 99, 105, 101, 110, 116, 32, 112, 101, 114, 109, 105, 115, 115, 105, 111, 110, 115, 58, 32, c1] : List Int32)) (n := 27) rfl (fun c hc => ((own_all1 u1) c hc).2)) (own_up (own_all1 u1)) (Nat.le_of_ble_eq_true rfl) (uS.ext c43.2) uP (by decide) (by decide)) q38a q38c (g := (mkF m 107 #[vi p0, vi p1, vi p2, vi p3, vi (1 : Int32), vi c1, vi c2, vi c3, vr nx_23, vr nx_25, vr nx_28, vr nm_28] [(.ref nx_25), (.ref nm_28)])) rfl (by rw [hml]; rfl) (Steps.refl _) (argsL := [(.ref nx_25)]) (rest := []) (lenOf pd_25 rfl) rfl (by show 2 * 0 + _ ≤ _; exact Nat.le_of_eq rfl) (hb hby at_107) (fun _ _ => ⟨rfl, eh37, (by decide : 15 + 0 ≤ _), (by decide : 3054 + 0 ≤ _)⟩)
    dsimp only [Pt.U, Pt.locs, Pt.cells, Pt.slots] at X38 lq38 yq38 zq38 st38 hQ38
    have X38 := own_reb X38 lq38 yq38 zq38
    obtain ⟨ho38, rfl, eh38⟩ := hQ38; obtain rfl := own_eqv ho38
    have N38 := Fr.app N37 (Fr.nil n0)
    obtain ⟨fs, hr, hrun, hended, en1, en2, en3, en4⟩ := X38.leaveW hS28 (own_hk eh38 hk28) (v := some (.int (nar .boolean (1 : Int32)))) (fun h => by rw [Bd.returns] at h; cases h)
    refine ⟨_, _, pre0 _ ?_, hrun, hended, _, _, rfl, ?_, own_chr (T := T38) hh eh38 (Re34.trans (CHv.at X38 hZ28 (own_EW hw) hCe34)), en1, en2, en3, en4.mono (by decide) (by decide)⟩
    · refine sg1 _ ?_
      show SS p e below s₁ (mkF m 37 #[vi p0, vi p1, vi p2, vi p3, vi (1 : Int32), vi c1, vi c2, vi c3, uu, uu, uu, uu] [(.int c3), (.int c2), (.int c1), (vI 1)]) _
      refine st23.trans ?_
      refine XS.astore X23.here hx rfl (hb hby at_40) rfl rfl (l' := #[vi p0, vi p1, vi p2, vi p3, vi (1 : Int32), vi c1, vi c2, vi c3, vr nx_23, uu, uu, uu]) rfl ?_
      refine XS.iload X23.here hx rfl (hb hby at_42) rfl ?_
      refine XS.iload X23.here hx rfl (hb hby at_44) rfl ?_
      refine XS.iload X23.here hx rfl (hb hby at_46) rfl ?_
      refine XS.iload X23.here hx rfl (hb hby at_48) rfl ?_
      show SS p e below T23 (mkF m 50 #[vi p0, vi p1, vi p2, vi p3, vi (1 : Int32), vi c1, vi c2, vi c3, vr nx_23, uu, uu, uu] [(.int c3), (.int c2), (.int c1), (vI 1)]) _
      refine st25.trans ?_
      refine XS.astore X25.here hx rfl (hb hby at_53) rfl rfl (l' := #[vi p0, vi p1, vi p2, vi p3, vi (1 : Int32), vi c1, vi c2, vi c3, vr nx_23, vr nx_25, uu, uu]) rfl ?_
      refine XS.aload X25.here hx rfl (hb hby at_55) rfl rfl ?_
      show SS p e below T25 (mkF m 57 #[vi p0, vi p1, vi p2, vi p3, vi (1 : Int32), vi c1, vi c2, vi c3, vr nx_23, vr nx_25, uu, uu] [(.ref nx_23)]) _
      refine st28.trans ?_
      refine XS.astore X28.here hx rfl (hb hby at_60) rfl rfl (l' := #[vi p0, vi p1, vi p2, vi p3, vi (1 : Int32), vi c1, vi c2, vi c3, vr nx_23, vr nx_25, vr nx_28, uu]) rfl ?_
      refine XS.aload X28.here hx rfl (hb hby at_62) rfl rfl ?_
      show SS p e below T28 (mkF m 64 #[vi p0, vi p1, vi p2, vi p3, vi (1 : Int32), vi c1, vi c2, vi c3, vr nx_23, vr nx_25, vr nx_28, uu] [(.ref nx_28)]) _
      refine XS.ifnonnullYes X28.here hx rfl (pc0 := 64) (pc' := 69) rfl (hb hby at_64) rfl (by decide) (by decide) ?_
      refine XS.aload X28.here hx rfl (hb hby at_69) rfl rfl ?_
      show SS p e below T28 (mkF m 71 #[vi p0, vi p1, vi p2, vi p3, vi (1 : Int32), vi c1, vi c2, vi c3, vr nx_23, vr nx_25, vr nx_28, uu] [(.ref nx_28)]) _
      refine st35.trans ?_
      refine XS.astore X35.here hx rfl (hb hby at_74) rfl rfl (l' := #[vi p0, vi p1, vi p2, vi p3, vi (1 : Int32), vi c1, vi c2, vi c3, vr nx_23, vr nx_25, vr nx_28, vr nm_28]) rfl ?_
      refine XS.aload X35.here hx rfl (hb hby at_76) rfl rfl ?_
      show SS p e below T35 (mkF m 78 #[vi p0, vi p1, vi p2, vi p3, vi (1 : Int32), vi c1, vi c2, vi c3, vr nx_23, vr nx_25, vr nx_28, vr nm_28] [(.ref nx_28)]) _
      refine st36.trans ?_
      refine XS.sipush X36.here hx rfl (hb hby at_81) ?_
      show SS p e below T36 (mkF m 84 #[vi p0, vi p1, vi p2, vi p3, vi (1 : Int32), vi c1, vi c2, vi c3, vr nx_23, vr nx_25, vr nx_28, vr nm_28] [(vI 403), (vI 403)]) _
      refine XS.icmpNo X36.here hx rfl (hb hby at_84) rfl (teq (by decide : (403 : Int32) = (403 : Int32))).2 ?_
      refine XS.aload X36.here hx rfl (hb hby at_87) rfl rfl ?_
      show SS p e below T36 (mkF m 89 #[vi p0, vi p1, vi p2, vi p3, vi (1 : Int32), vi c1, vi c2, vi c3, vr nx_23, vr nx_25, vr nx_28, vr nm_28] [(.ref nx_28)]) _
      refine st37.trans ?_
      refine XS.sipush X37.here hx rfl (hb hby at_92) ?_
      show SS p e below T37 (mkF m 95 #[vi p0, vi p1, vi p2, vi p3, vi (1 : Int32), vi c1, vi c2, vi c3, vr nx_23, vr nx_25, vr nx_28, vr nm_28] [(vI 403), (vI 403)]) _
      refine XS.icmpNo X37.here hx rfl (hb hby at_95) rfl (teq (by decide : (403 : Int32) = (403 : Int32))).2 ?_
      refine XS.aload X37.here hx rfl (hb hby at_98) rfl rfl ?_
      show SS p e below T37 (mkF m 100 #[vi p0, vi p1, vi p2, vi p3, vi (1 : Int32), vi c1, vi c2, vi c3, vr nx_23, vr nx_25, vr nx_28, vr nm_28] [(.ref nm_28)]) _
      refine XS.ifnullNo X37.here hx rfl (hb hby at_100) rfl ?_
      refine XS.aload X37.here hx rfl (hb hby at_103) rfl rfl ?_
      refine XS.aload X37.here hx rfl (hb hby at_105) rfl rfl ?_
      show SS p e below T37 (mkF m 107 #[vi p0, vi p1, vi p2, vi p3, vi (1 : Int32), vi c1, vi c2, vi c3, vr nx_23, vr nx_25, vr nx_28, vr nm_28] [(.ref nx_25), (.ref nm_28)]) _
      refine st38.trans ?_
      show SS p e below T38 (mkF m 110 #[vi p0, vi p1, vi p2, vi p3, vi (1 : Int32), vi c1, vi c2, vi c3, vr nx_23, vr nx_25, vr nx_28, vr nm_28] [(.int (if ([73, 110, 115, 117, 102, 102, 105, 99, 105, 101, 110, 116, 32, 112, 101, 114, 109, 105, 115, 115, 105, 111, 110, 115, 58, 32, c1] : List Int32) = ([73, 110, 115, 117, 102, 102, 105, 99, 105, 101, 110, 116, 32, 112, 101, 114, 109, 105, 115, 115, 105, 111, 110, 115, 58, 32, c1] : List Int32) then (1 : Int32) else (0 : Int32)))]) _
      refine XS.ifNo X38.here hx rfl (hb hby at_110) rfl ((if0 _ _).trans (feq (by rw [if_pos rfl]; decide : ¬ ((if ([73, 110, 115, 117, 102, 102, 105, 99, 105, 101, 110, 116, 32, 112, 101, 114, 109, 105, 115, 115, 105, 111, 110, 115, 58, 32, c1] : List Int32) = ([73, 110, 115, 117, 102, 102, 105, 99, 105, 101, 110, 116, 32, 112, 101, 114, 109, 105, 115, 115, 105, 111, 110, 115, 58, 32, c1] : List Int32) then (1 : Int32) else (0 : Int32)) = (0 : Int32)))).1) ?_
      refine XS.iconst X38.here hx rfl (hb hby at_113) ?_
      refine XS.goto X38.here hx rfl (pc0 := 114) (pc' := 118) rfl (hb hby at_114) (by decide) (by decide) ?_
      exact retN X38 hx (t := .boolean) Bd.returns (by simp) (hb hby at_118) hr
    · show Q_rm0 Z p0 p1 p2 p3 zc vu vq (1 : Int32) c1 c2 c3 h0 n0 _ T38.heap _
      rw [eh38]
      exact ⟨rfl, N38⟩
  · obtain ⟨_, _, ⟨T44, Lw44, kw44, nw44⟩, -, X44', hS44', hg44, ⟨Lc44, hQ44, lq44, yq44, zq44, CH44⟩, st44⟩ := callSS X0 hx (y := M24) hown (mvT hZ (wd hw 0 rfl)) (mvT hZ (wd hw 1 rfl)) (mvT hZ (wd hw 2 rfl)) (mvT hZ (wd hw 3 rfl)) (by decide) (backOfSH (W := 0) (rmR2 l Z a0 hw [] c1 c2 c3 zc h0 n0 Z0 uO uS uP u1 u2 u3) hZ (wd hw 3 rfl) (wd hw 2 rfl) (by decide) (by decide) (own_EW hw) hC0) (g := (mkF m 37 #[vi p0, vi p1, vi p2, vi p3, vi (2 : Int32), vi c1, vi c2, vi c3, uu, uu, uu, uu] [(.int c3), (.int c2), (.int c1), (vI 2)])) rfl (by rw [hml]; rfl) (argsL := [(vI 2), (.int c1), (.int c2), (.int c3)]) (rest := []) (lenOf pd_23 rfl) rfl (by show 2 * 0 + _ ≤ _; exact Nat.le_of_eq rfl) (hb hby at_37) (fun _ _ => ⟨rfl, e0, (by decide : 0 + 3 ≤ _), (by decide : 0 + 8 ≤ _)⟩)
    dsimp only [Pt.U, Pt.locs, Pt.cells, Pt.slots] at X44' hS44' hg44 lq44 yq44 zq44 st44 hQ44 CH44
    have X44' := own_reb X44' lq44 yq44 zq44
    obtain ⟨X44, hS44, hZ44, hown44⟩ := rebS hS0 (own_hk e0 hk0) X44' hS44' hg44 hZ hown
    obtain ⟨nx_44, nt_44, nk_44, rfl, Nq44, Kq44, f44_0, f44_1, f44_2, f44_3, f44_4⟩ := hQ44
    have N44 := Fr.app N0 Nq44
    have g_nx_44 : n0 ≤ nx_44 := Nat.le_trans Z0 f44_0
    have sz_nx_44 : h0.size ≤ nx_44 := Nat.le_trans (Keep.refl h0 []).1 f44_0
    have Re45 := R0.trans CH44
    have hCe45 := Re45.1
    have K44 : Keep h0 T44.heap [] := (Keep.refl h0 []).trans Kq44 all0
    have Z44 : n0 ≤ T44.heap.size := Nat.le_trans Z0 Kq44.1
    have hk44 : T44.heap.size ≤ T44.heap.size := Nat.le_refl _
    have c47 := (uO.keep Kq44 all0)
    obtain ⟨_, _, ⟨T46, Lw46, kw46, nw46⟩, -, X46', hS46', hg46, ⟨Lc46, hQ46, lq46, yq46, zq46, CH46⟩, st46⟩ := callSS X44 hx (y := M25) hown44 (mvT hZ44 (wd hw 26 rfl)) (mvT hZ44 (wd hw 27 rfl)) (mvT hZ44 (wd hw 2 rfl)) (mvT hZ44 (wd hw 28 rfl)) (by decide) (backOfSH (W := 0) (rmE2 l Z a0 hw [] c1 c2 c3 zc T44.heap n0 Z44 c47 uS uP u1 u2 u3) hZ44 (wd hw 28 rfl) (wd hw 2 rfl) (by decide) (by decide) (own_EW hw) hCe45) (g := (mkF m 50 #[vi p0, vi p1, vi p2, vi p3, vi (2 : Int32), vi c1, vi c2, vi c3, vr nx_44, uu, uu, uu] [(.int c3), (.int c2), (.int c1), (vI 2)])) rfl (by rw [hml]; rfl) (argsL := [(vI 2), (.int c1), (.int c2), (.int c3)]) (rest := []) (lenOf pd_23 rfl) rfl (by show 2 * 0 + _ ≤ _; exact Nat.le_of_eq rfl) (hb hby at_50) (fun _ _ => ⟨rfl, rfl, (by decide : 3 + 3 ≤ _), (by decide : 8 + 60 ≤ _)⟩)
    dsimp only [Pt.U, Pt.locs, Pt.cells, Pt.slots] at X46' hS46' hg46 lq46 yq46 zq46 st46 hQ46 CH46
    have X46' := own_reb X46' lq46 yq46 zq46
    obtain ⟨X46, hS46, hZ46, hown46⟩ := rebS hS44 (own_hk rfl hk44) X46' hS46' hg46 hZ44 hown44
    obtain ⟨nx_46, nt_46, nk_46, rfl, Nq46, Kq46, f46_0, f46_1, f46_2, f46_3, f46_4⟩ := hQ46
    have N46 := Fr.app N44 Nq46
    have ne_nx_44_nx_46 : nx_44 ≠ nx_46 := Nat.ne_of_lt (Nat.lt_of_lt_of_le f44_1.lt f46_0)
    have ne_nt_44_nx_46 : nt_44 ≠ nx_46 := Nat.ne_of_lt (Nat.lt_of_lt_of_le f44_4.lt f46_0)
    have g_nx_46 : n0 ≤ nx_46 := Nat.le_trans Z44 f46_0
    have sz_nx_46 : h0.size ≤ nx_46 := Nat.le_trans K44.1 f46_0
    have Re48 := Re45.trans CH46
    have hCe48 := Re48.1
    have K46 : Keep h0 T46.heap [] := K44.trans Kq46 all0
    have Z46 : n0 ≤ T46.heap.size := Nat.le_trans Z44 Kq46.1
    have hk46 : T46.heap.size ≤ T46.heap.size := Nat.le_refl _
    have c50 := (c47.keep Kq46 all0)
    have c51 := (f44_1.keep Kq46)
    have c52 := (f44_3.keep Kq46 nin0)
    have c53 := (f44_2.keep Kq46 nin0)
    have c54 := (f44_4.keep Kq46 nin0)
    obtain ⟨_, _, ⟨T49, Lw49, kw49, nw49⟩, -, X49', hS49', hg49, ⟨Lc49, hQ49, lq49, yq49, zq49, CH49⟩, st49⟩ := callSS X46 hx (y := M36) hown46 (mvT hZ46 (wd hw 40 rfl)) (mvT hZ46 (wd hw 41 rfl)) (mvT hZ46 (wd hw 42 rfl)) (mvT hZ46 (wd hw 43 rfl)) (by decide) (backOfSKH (W := 0) (rmF2 l Z a0 hw [] nx_44 zc vu vq nt_44 nk_44 c1 c2 T46.heap n0 Z46 c50 uS uP uLt uZu uRu uZs uRs c51 c52 c53 c54) hZ46 (wd hw 43 rfl) (wd hw 42 rfl) (by decide) (by decide) (own_EW hw) hCe48 (Vm.MethodsKnown.alikeC hS46.1.alike hK.1) (Vm.FramesKnown.alikeC hS46.1.alike hK.2)) (g := (mkF m 57 #[vi p0, vi p1, vi p2, vi p3, vi (2 : Int32), vi c1, vi c2, vi c3, vr nx_44, vr nx_46, uu, uu] [(.ref nx_44)])) rfl (by rw [hml]; rfl) (argsL := [(.ref nx_44)]) (rest := []) (lenOf pd_24 rfl) rfl (by show 2 * 0 + _ ≤ _; exact Nat.le_of_eq rfl) (hb hby at_57) (fun _ _ => ⟨rfl, rfl, (by decide : 6 + 9 ≤ _), (by decide : 68 + 2990 ≤ _)⟩)
    dsimp only [Pt.U, Pt.locs, Pt.cells, Pt.slots] at X49' hS49' hg49 lq49 yq49 zq49 st49 hQ49 CH49
    have X49' := own_reb X49' lq49 yq49 zq49
    obtain ⟨X49, hS49, hZ49, hown49⟩ := rebS hS46 (own_hk rfl hk46) X49' hS49' hg49 hZ46 hown46
    obtain ⟨nx_49, nm_49, nt_49, nk_49, rfl, Nq49, Kq49, f49_0, f49_1, f49_2, f49_3, f49_4, f49_5, f49_6, f49_7, f49_8⟩ := hQ49
    have N49 := Fr.app N46 Nq49
    have ne_nx_44_nx_49 : nx_44 ≠ nx_49 := Nat.ne_of_lt (Nat.lt_of_lt_of_le c51.lt f49_0)
    have ne_nt_44_nx_49 : nt_44 ≠ nx_49 := Nat.ne_of_lt (Nat.lt_of_lt_of_le c54.lt f49_0)
    have ne_nx_46_nx_49 : nx_46 ≠ nx_49 := Nat.ne_of_lt (Nat.lt_of_lt_of_le f46_1.lt f49_0)
    have ne_nt_46_nx_49 : nt_46 ≠ nx_49 := Nat.ne_of_lt (Nat.lt_of_lt_of_le f46_4.lt f49_0)
    have g_nx_49 : n0 ≤ nx_49 := Nat.le_trans Z46 f49_0
    have sz_nx_49 : h0.size ≤ nx_49 := Nat.le_trans K46.1 f49_0
    have Re55 := Re48.trans CH49
    have hCe55 := Re55.1
    have K49 : Keep h0 T49.heap [] := K46.trans Kq49 all0
    have Z49 : n0 ≤ T49.heap.size := Nat.le_trans Z46 Kq49.1
    have hk49 : T49.heap.size ≤ T49.heap.size := Nat.le_refl _
    obtain ⟨cq56, kq56, q56a, q56b, q56c⟩ := isOf hZ49 rfl f49_1
    obtain ⟨_, _, ⟨T56, Lw56, kw56, nw56⟩, -, X56, ⟨Lc56, hQ56, lq56, yq56, zq56⟩, st56⟩ := X49.virtualBackUp hx (owner := "java/lang/Throwable") (x := M37) (y := M30) hown49 (mvT hZ49 (wd hw 235 rfl)) (mvT hZ49 (wd hw 236 rfl)) (mvT hZ49 (wd hw 237 rfl)) (by decide) (mvT hZ49 (wd hw 239 rfl)) (mvT hZ49 (wd hw 238 rfl)) (backOf (W := 0) (rmGM l Z a0 hw [] nx_49 nm_49 T49.heap n0 Z49 f49_4) hZ49 (wd hw 240 rfl) (wd hw 192 rfl) (by decide) (by decide)) q56a q56c (g := (mkF m 71 #[vi p0, vi p1, vi p2, vi p3, vi (2 : Int32), vi c1, vi c2, vi c3, vr nx_44, vr nx_46, vr nx_49, uu] [(.ref nx_49)])) rfl (by rw [hml]; rfl) (Steps.refl _) (argsL := []) (rest := []) (lenOf pd_21 rfl) rfl (by show 2 * 0 + _ ≤ _; exact Nat.le_of_eq rfl) (hb hby at_71) (fun _ _ => ⟨rfl, rfl, (by decide : 15 + 0 ≤ _), (by decide : 3058 + 0 ≤ _)⟩)
    dsimp only [Pt.U, Pt.locs, Pt.cells, Pt.slots] at X56 lq56 yq56 zq56 st56 hQ56
    have X56 := own_reb X56 lq56 yq56 zq56
    obtain ⟨rfl, Nq56, eh56⟩ := hQ56
    have N56 := Fr.app N49 Nq56
    obtain ⟨cq57, kq57, q57a, q57b, q57c⟩ := isOf hZ49 eh56 f49_1
    obtain ⟨_, _, ⟨T57, Lw57, kw57, nw57⟩, -, X57, ⟨Lc57, hQ57, lq57, yq57, zq57⟩, st57⟩ := X56.virtualBack hx (y := M31) (z := M31) hown49 (mvT hZ49 (wd hw 241 rfl)) (mvT hZ49 (wd hw 242 rfl)) (notFace_of_selects (args := #[]) (mvT hZ49 (wd hw 244 rfl))) (mvT hZ49 (wd hw 244 rfl)) (mvT hZ49 (wd hw 243 rfl)) (by decide) (backOf (W := 0) (rmSt l Z a0 hw [] nx_49 (403 : Int32) T49.heap n0 Z49 f49_1 f49_2) hZ49 (wd hw 245 rfl) (wd hw 42 rfl) (by decide) (by decide)) q57a q57c (g := (mkF m 78 #[vi p0, vi p1, vi p2, vi p3, vi (2 : Int32), vi c1, vi c2, vi c3, vr nx_44, vr nx_46, vr nx_49, vr nm_49] [(.ref nx_49)])) rfl (by rw [hml]; rfl) (Steps.refl _) (argsL := []) (rest := []) (lenOf pd_2 rfl) rfl (by show 2 * 0 + _ ≤ _; exact Nat.le_of_eq rfl) (hb hby at_78) (fun _ _ => ⟨rfl, eh56, (by decide : 15 + 0 ≤ _), (by decide : 3058 + 0 ≤ _)⟩)
    dsimp only [Pt.U, Pt.locs, Pt.cells, Pt.slots] at X57 lq57 yq57 zq57 st57 hQ57
    have X57 := own_reb X57 lq57 yq57 zq57
    obtain ⟨rfl, Nq57, eh57⟩ := hQ57
    have N57 := Fr.app N56 Nq57
    obtain ⟨cq58, kq58, q58a, q58b, q58c⟩ := isOf hZ49 eh57 f49_1
    obtain ⟨_, _, ⟨T58, Lw58, kw58, nw58⟩, -, X58, ⟨Lc58, hQ58, lq58, yq58, zq58⟩, st58⟩ := X57.virtualBack hx (y := M32) (z := M32) hown49 (mvT hZ49 (wd hw 246 rfl)) (mvT hZ49 (wd hw 247 rfl)) (notFace_of_selects (args := #[]) (mvT hZ49 (wd hw 249 rfl))) (mvT hZ49 (wd hw 249 rfl)) (mvT hZ49 (wd hw 248 rfl)) (by decide) (backOf (W := 0) (rmCo l Z a0 hw [] nx_49 (403 : Int32) T49.heap n0 Z49 f49_1 f49_3) hZ49 (wd hw 250 rfl) (wd hw 42 rfl) (by decide) (by decide)) q58a q58c (g := (mkF m 89 #[vi p0, vi p1, vi p2, vi p3, vi (2 : Int32), vi c1, vi c2, vi c3, vr nx_44, vr nx_46, vr nx_49, vr nm_49] [(.ref nx_49)])) rfl (by rw [hml]; rfl) (Steps.refl _) (argsL := []) (rest := []) (lenOf pd_2 rfl) rfl (by show 2 * 0 + _ ≤ _; exact Nat.le_of_eq rfl) (hb hby at_89) (fun _ _ => ⟨rfl, eh57, (by decide : 15 + 0 ≤ _), (by decide : 3058 + 0 ≤ _)⟩)
    dsimp only [Pt.U, Pt.locs, Pt.cells, Pt.slots] at X58 lq58 yq58 zq58 st58 hQ58
    have X58 := own_reb X58 lq58 yq58 zq58
    obtain ⟨rfl, Nq58, eh58⟩ := hQ58
    have N58 := Fr.app N57 Nq58
    have c60 := (f46_1.keep Kq49)
    have c61 := (f46_3.keep Kq49 nin0)
    have c62 := (f46_2.keep Kq49 nin0)
    have c63 := (f46_4.keep Kq49 nin0)
    have c64 := (c50.keep Kq49 all0)
    obtain ⟨cq59, kq59, q59a, q59b, q59c⟩ := isOf hZ49 eh58 f49_5
    obtain ⟨_, _, ⟨T59, Lw59, kw59, nw59⟩, -, X59, ⟨Lc59, hQ59, lq59, yq59, zq59⟩, st59⟩ := X58.virtualBack hx (y := M38) (z := M38) hown49 (mvT hZ49 (wd hw 251 rfl)) (mvT hZ49 (wd hw 252 rfl)) (notFace_of_selects (args := #[]) (mvT hZ49 (wd hw 254 rfl))) (mvT hZ49 (wd hw 254 rfl)) (mvT hZ49 (wd hw 253 rfl)) (by decide) (StrChars.Road.eqW (W := 0) hZ49 (fun d hd => hw d (own_w_wordsEq d hd)) (kI := 4) (wd hw 5 rfl) f49_5 f49_7 f49_6 f49_8 (StrChars.Road.codOf (cs := ([73, 110, 115, 117, 102, 102, 105, 99, 105, 101, 110, 116, 32, 112, 101, 114, 109, 105, 115, 115, 105, 111, 110, 115, 58, 32, c1, c2] : List Int32)) (n := 28) rfl (fun c hc => ((own_all2 u1 u2) c hc).2)) (own_up (own_all2 u1 u2)) (Nat.le_of_ble_eq_true rfl) c60 c61 c62 c63 (StrChars.Road.codOf (cs := ([73, 110, 115, 117, 102, 102, 105, 99, 105, 101, 110, 116, 32, 112, 101, 114, 109, 105, 115, 115, 105, 111, 110, 115, 58, 32, c1, c2] : List Int32)) (n := 28) rfl (fun c hc => ((own_all2 u1 u2) c hc).2)) (own_up (own_all2 u1 u2)) (Nat.le_of_ble_eq_true rfl) (uS.ext c64.2) uP (by decide) (by decide)) q59a q59c (g := (mkF m 107 #[vi p0, vi p1, vi p2, vi p3, vi (2 : Int32), vi c1, vi c2, vi c3, vr nx_44, vr nx_46, vr nx_49, vr nm_49] [(.ref nx_46), (.ref nm_49)])) rfl (by rw [hml]; rfl) (Steps.refl _) (argsL := [(.ref nx_46)]) (rest := []) (lenOf pd_25 rfl) rfl (by show 2 * 0 + _ ≤ _; exact Nat.le_of_eq rfl) (hb hby at_107) (fun _ _ => ⟨rfl, eh58, (by decide : 15 + 0 ≤ _), (by decide : 3058 + 0 ≤ _)⟩)
    dsimp only [Pt.U, Pt.locs, Pt.cells, Pt.slots] at X59 lq59 yq59 zq59 st59 hQ59
    have X59 := own_reb X59 lq59 yq59 zq59
    obtain ⟨ho59, rfl, eh59⟩ := hQ59; obtain rfl := own_eqv ho59
    have N59 := Fr.app N58 (Fr.nil n0)
    obtain ⟨fs, hr, hrun, hended, en1, en2, en3, en4⟩ := X59.leaveW hS49 (own_hk eh59 hk49) (v := some (.int (nar .boolean (1 : Int32)))) (fun h => by rw [Bd.returns] at h; cases h)
    refine ⟨_, _, pre0 _ ?_, hrun, hended, _, _, rfl, ?_, own_chr (T := T59) hh eh59 (Re55.trans (CHv.at X59 hZ49 (own_EW hw) hCe55)), en1, en2, en3, en4.mono (by decide) (by decide)⟩
    · refine sg1 _ ?_
      show SS p e below s₁ (mkF m 37 #[vi p0, vi p1, vi p2, vi p3, vi (2 : Int32), vi c1, vi c2, vi c3, uu, uu, uu, uu] [(.int c3), (.int c2), (.int c1), (vI 2)]) _
      refine st44.trans ?_
      refine XS.astore X44.here hx rfl (hb hby at_40) rfl rfl (l' := #[vi p0, vi p1, vi p2, vi p3, vi (2 : Int32), vi c1, vi c2, vi c3, vr nx_44, uu, uu, uu]) rfl ?_
      refine XS.iload X44.here hx rfl (hb hby at_42) rfl ?_
      refine XS.iload X44.here hx rfl (hb hby at_44) rfl ?_
      refine XS.iload X44.here hx rfl (hb hby at_46) rfl ?_
      refine XS.iload X44.here hx rfl (hb hby at_48) rfl ?_
      show SS p e below T44 (mkF m 50 #[vi p0, vi p1, vi p2, vi p3, vi (2 : Int32), vi c1, vi c2, vi c3, vr nx_44, uu, uu, uu] [(.int c3), (.int c2), (.int c1), (vI 2)]) _
      refine st46.trans ?_
      refine XS.astore X46.here hx rfl (hb hby at_53) rfl rfl (l' := #[vi p0, vi p1, vi p2, vi p3, vi (2 : Int32), vi c1, vi c2, vi c3, vr nx_44, vr nx_46, uu, uu]) rfl ?_
      refine XS.aload X46.here hx rfl (hb hby at_55) rfl rfl ?_
      show SS p e below T46 (mkF m 57 #[vi p0, vi p1, vi p2, vi p3, vi (2 : Int32), vi c1, vi c2, vi c3, vr nx_44, vr nx_46, uu, uu] [(.ref nx_44)]) _
      refine st49.trans ?_
      refine XS.astore X49.here hx rfl (hb hby at_60) rfl rfl (l' := #[vi p0, vi p1, vi p2, vi p3, vi (2 : Int32), vi c1, vi c2, vi c3, vr nx_44, vr nx_46, vr nx_49, uu]) rfl ?_
      refine XS.aload X49.here hx rfl (hb hby at_62) rfl rfl ?_
      show SS p e below T49 (mkF m 64 #[vi p0, vi p1, vi p2, vi p3, vi (2 : Int32), vi c1, vi c2, vi c3, vr nx_44, vr nx_46, vr nx_49, uu] [(.ref nx_49)]) _
      refine XS.ifnonnullYes X49.here hx rfl (pc0 := 64) (pc' := 69) rfl (hb hby at_64) rfl (by decide) (by decide) ?_
      refine XS.aload X49.here hx rfl (hb hby at_69) rfl rfl ?_
      show SS p e below T49 (mkF m 71 #[vi p0, vi p1, vi p2, vi p3, vi (2 : Int32), vi c1, vi c2, vi c3, vr nx_44, vr nx_46, vr nx_49, uu] [(.ref nx_49)]) _
      refine st56.trans ?_
      refine XS.astore X56.here hx rfl (hb hby at_74) rfl rfl (l' := #[vi p0, vi p1, vi p2, vi p3, vi (2 : Int32), vi c1, vi c2, vi c3, vr nx_44, vr nx_46, vr nx_49, vr nm_49]) rfl ?_
      refine XS.aload X56.here hx rfl (hb hby at_76) rfl rfl ?_
      show SS p e below T56 (mkF m 78 #[vi p0, vi p1, vi p2, vi p3, vi (2 : Int32), vi c1, vi c2, vi c3, vr nx_44, vr nx_46, vr nx_49, vr nm_49] [(.ref nx_49)]) _
      refine st57.trans ?_
      refine XS.sipush X57.here hx rfl (hb hby at_81) ?_
      show SS p e below T57 (mkF m 84 #[vi p0, vi p1, vi p2, vi p3, vi (2 : Int32), vi c1, vi c2, vi c3, vr nx_44, vr nx_46, vr nx_49, vr nm_49] [(vI 403), (vI 403)]) _
      refine XS.icmpNo X57.here hx rfl (hb hby at_84) rfl (teq (by decide : (403 : Int32) = (403 : Int32))).2 ?_
      refine XS.aload X57.here hx rfl (hb hby at_87) rfl rfl ?_
      show SS p e below T57 (mkF m 89 #[vi p0, vi p1, vi p2, vi p3, vi (2 : Int32), vi c1, vi c2, vi c3, vr nx_44, vr nx_46, vr nx_49, vr nm_49] [(.ref nx_49)]) _
      refine st58.trans ?_
      refine XS.sipush X58.here hx rfl (hb hby at_92) ?_
      show SS p e below T58 (mkF m 95 #[vi p0, vi p1, vi p2, vi p3, vi (2 : Int32), vi c1, vi c2, vi c3, vr nx_44, vr nx_46, vr nx_49, vr nm_49] [(vI 403), (vI 403)]) _
      refine XS.icmpNo X58.here hx rfl (hb hby at_95) rfl (teq (by decide : (403 : Int32) = (403 : Int32))).2 ?_
      refine XS.aload X58.here hx rfl (hb hby at_98) rfl rfl ?_
      show SS p e below T58 (mkF m 100 #[vi p0, vi p1, vi p2, vi p3, vi (2 : Int32), vi c1, vi c2, vi c3, vr nx_44, vr nx_46, vr nx_49, vr nm_49] [(.ref nm_49)]) _
      refine XS.ifnullNo X58.here hx rfl (hb hby at_100) rfl ?_
      refine XS.aload X58.here hx rfl (hb hby at_103) rfl rfl ?_
      refine XS.aload X58.here hx rfl (hb hby at_105) rfl rfl ?_
      show SS p e below T58 (mkF m 107 #[vi p0, vi p1, vi p2, vi p3, vi (2 : Int32), vi c1, vi c2, vi c3, vr nx_44, vr nx_46, vr nx_49, vr nm_49] [(.ref nx_46), (.ref nm_49)]) _
      refine st59.trans ?_
      show SS p e below T59 (mkF m 110 #[vi p0, vi p1, vi p2, vi p3, vi (2 : Int32), vi c1, vi c2, vi c3, vr nx_44, vr nx_46, vr nx_49, vr nm_49] [(.int (if ([73, 110, 115, 117, 102, 102, 105, 99, 105, 101, 110, 116, 32, 112, 101, 114, 109, 105, 115, 115, 105, 111, 110, 115, 58, 32, c1, c2] : List Int32) = ([73, 110, 115, 117, 102, 102, 105, 99, 105, 101, 110, 116, 32, 112, 101, 114, 109, 105, 115, 115, 105, 111, 110, 115, 58, 32, c1, c2] : List Int32) then (1 : Int32) else (0 : Int32)))]) _
      refine XS.ifNo X59.here hx rfl (hb hby at_110) rfl ((if0 _ _).trans (feq (by rw [if_pos rfl]; decide : ¬ ((if ([73, 110, 115, 117, 102, 102, 105, 99, 105, 101, 110, 116, 32, 112, 101, 114, 109, 105, 115, 115, 105, 111, 110, 115, 58, 32, c1, c2] : List Int32) = ([73, 110, 115, 117, 102, 102, 105, 99, 105, 101, 110, 116, 32, 112, 101, 114, 109, 105, 115, 115, 105, 111, 110, 115, 58, 32, c1, c2] : List Int32) then (1 : Int32) else (0 : Int32)) = (0 : Int32)))).1) ?_
      refine XS.iconst X59.here hx rfl (hb hby at_113) ?_
      refine XS.goto X59.here hx rfl (pc0 := 114) (pc' := 118) rfl (hb hby at_114) (by decide) (by decide) ?_
      exact retN X59 hx (t := .boolean) Bd.returns (by simp) (hb hby at_118) hr
    · show Q_rm0 Z p0 p1 p2 p3 zc vu vq (2 : Int32) c1 c2 c3 h0 n0 _ T59.heap _
      rw [eh59]
      exact ⟨rfl, N59⟩
  · obtain ⟨_, _, ⟨T65, Lw65, kw65, nw65⟩, -, X65', hS65', hg65, ⟨Lc65, hQ65, lq65, yq65, zq65, CH65⟩, st65⟩ := callSS X0 hx (y := M24) hown (mvT hZ (wd hw 0 rfl)) (mvT hZ (wd hw 1 rfl)) (mvT hZ (wd hw 2 rfl)) (mvT hZ (wd hw 3 rfl)) (by decide) (backOfSH (W := 0) (rmR3 l Z a0 hw [] c1 c2 c3 zc h0 n0 Z0 uO uS uP u1 u2 u3) hZ (wd hw 3 rfl) (wd hw 2 rfl) (by decide) (by decide) (own_EW hw) hC0) (g := (mkF m 37 #[vi p0, vi p1, vi p2, vi p3, vi (3 : Int32), vi c1, vi c2, vi c3, uu, uu, uu, uu] [(.int c3), (.int c2), (.int c1), (vI 3)])) rfl (by rw [hml]; rfl) (argsL := [(vI 3), (.int c1), (.int c2), (.int c3)]) (rest := []) (lenOf pd_23 rfl) rfl (by show 2 * 0 + _ ≤ _; exact Nat.le_of_eq rfl) (hb hby at_37) (fun _ _ => ⟨rfl, e0, (by decide : 0 + 3 ≤ _), (by decide : 0 + 10 ≤ _)⟩)
    dsimp only [Pt.U, Pt.locs, Pt.cells, Pt.slots] at X65' hS65' hg65 lq65 yq65 zq65 st65 hQ65 CH65
    have X65' := own_reb X65' lq65 yq65 zq65
    obtain ⟨X65, hS65, hZ65, hown65⟩ := rebS hS0 (own_hk e0 hk0) X65' hS65' hg65 hZ hown
    obtain ⟨nx_65, nt_65, nk_65, rfl, Nq65, Kq65, f65_0, f65_1, f65_2, f65_3, f65_4⟩ := hQ65
    have N65 := Fr.app N0 Nq65
    have g_nx_65 : n0 ≤ nx_65 := Nat.le_trans Z0 f65_0
    have sz_nx_65 : h0.size ≤ nx_65 := Nat.le_trans (Keep.refl h0 []).1 f65_0
    have Re66 := R0.trans CH65
    have hCe66 := Re66.1
    have K65 : Keep h0 T65.heap [] := (Keep.refl h0 []).trans Kq65 all0
    have Z65 : n0 ≤ T65.heap.size := Nat.le_trans Z0 Kq65.1
    have hk65 : T65.heap.size ≤ T65.heap.size := Nat.le_refl _
    have c68 := (uO.keep Kq65 all0)
    obtain ⟨_, _, ⟨T67, Lw67, kw67, nw67⟩, -, X67', hS67', hg67, ⟨Lc67, hQ67, lq67, yq67, zq67, CH67⟩, st67⟩ := callSS X65 hx (y := M25) hown65 (mvT hZ65 (wd hw 26 rfl)) (mvT hZ65 (wd hw 27 rfl)) (mvT hZ65 (wd hw 2 rfl)) (mvT hZ65 (wd hw 28 rfl)) (by decide) (backOfSH (W := 0) (rmE3 l Z a0 hw [] c1 c2 c3 zc T65.heap n0 Z65 c68 uS uP u1 u2 u3) hZ65 (wd hw 28 rfl) (wd hw 2 rfl) (by decide) (by decide) (own_EW hw) hCe66) (g := (mkF m 50 #[vi p0, vi p1, vi p2, vi p3, vi (3 : Int32), vi c1, vi c2, vi c3, vr nx_65, uu, uu, uu] [(.int c3), (.int c2), (.int c1), (vI 3)])) rfl (by rw [hml]; rfl) (argsL := [(vI 3), (.int c1), (.int c2), (.int c3)]) (rest := []) (lenOf pd_23 rfl) rfl (by show 2 * 0 + _ ≤ _; exact Nat.le_of_eq rfl) (hb hby at_50) (fun _ _ => ⟨rfl, rfl, (by decide : 3 + 3 ≤ _), (by decide : 10 + 62 ≤ _)⟩)
    dsimp only [Pt.U, Pt.locs, Pt.cells, Pt.slots] at X67' hS67' hg67 lq67 yq67 zq67 st67 hQ67 CH67
    have X67' := own_reb X67' lq67 yq67 zq67
    obtain ⟨X67, hS67, hZ67, hown67⟩ := rebS hS65 (own_hk rfl hk65) X67' hS67' hg67 hZ65 hown65
    obtain ⟨nx_67, nt_67, nk_67, rfl, Nq67, Kq67, f67_0, f67_1, f67_2, f67_3, f67_4⟩ := hQ67
    have N67 := Fr.app N65 Nq67
    have ne_nx_65_nx_67 : nx_65 ≠ nx_67 := Nat.ne_of_lt (Nat.lt_of_lt_of_le f65_1.lt f67_0)
    have ne_nt_65_nx_67 : nt_65 ≠ nx_67 := Nat.ne_of_lt (Nat.lt_of_lt_of_le f65_4.lt f67_0)
    have g_nx_67 : n0 ≤ nx_67 := Nat.le_trans Z65 f67_0
    have sz_nx_67 : h0.size ≤ nx_67 := Nat.le_trans K65.1 f67_0
    have Re69 := Re66.trans CH67
    have hCe69 := Re69.1
    have K67 : Keep h0 T67.heap [] := K65.trans Kq67 all0
    have Z67 : n0 ≤ T67.heap.size := Nat.le_trans Z65 Kq67.1
    have hk67 : T67.heap.size ≤ T67.heap.size := Nat.le_refl _
    have c71 := (c68.keep Kq67 all0)
    have c72 := (f65_1.keep Kq67)
    have c73 := (f65_3.keep Kq67 nin0)
    have c74 := (f65_2.keep Kq67 nin0)
    have c75 := (f65_4.keep Kq67 nin0)
    obtain ⟨_, _, ⟨T70, Lw70, kw70, nw70⟩, -, X70', hS70', hg70, ⟨Lc70, hQ70, lq70, yq70, zq70, CH70⟩, st70⟩ := callSS X67 hx (y := M36) hown67 (mvT hZ67 (wd hw 40 rfl)) (mvT hZ67 (wd hw 41 rfl)) (mvT hZ67 (wd hw 42 rfl)) (mvT hZ67 (wd hw 43 rfl)) (by decide) (backOfSKH (W := 0) (rmF3 l Z a0 hw [] nx_65 zc vu vq nt_65 nk_65 c1 c2 c3 T67.heap n0 Z67 c71 uS uP uLt uZu uRu uZs uRs c72 c73 c74 c75) hZ67 (wd hw 43 rfl) (wd hw 42 rfl) (by decide) (by decide) (own_EW hw) hCe69 (Vm.MethodsKnown.alikeC hS67.1.alike hK.1) (Vm.FramesKnown.alikeC hS67.1.alike hK.2)) (g := (mkF m 57 #[vi p0, vi p1, vi p2, vi p3, vi (3 : Int32), vi c1, vi c2, vi c3, vr nx_65, vr nx_67, uu, uu] [(.ref nx_65)])) rfl (by rw [hml]; rfl) (argsL := [(.ref nx_65)]) (rest := []) (lenOf pd_24 rfl) rfl (by show 2 * 0 + _ ≤ _; exact Nat.le_of_eq rfl) (hb hby at_57) (fun _ _ => ⟨rfl, rfl, (by decide : 6 + 9 ≤ _), (by decide : 72 + 2990 ≤ _)⟩)
    dsimp only [Pt.U, Pt.locs, Pt.cells, Pt.slots] at X70' hS70' hg70 lq70 yq70 zq70 st70 hQ70 CH70
    have X70' := own_reb X70' lq70 yq70 zq70
    obtain ⟨X70, hS70, hZ70, hown70⟩ := rebS hS67 (own_hk rfl hk67) X70' hS70' hg70 hZ67 hown67
    obtain ⟨nx_70, nm_70, nt_70, nk_70, rfl, Nq70, Kq70, f70_0, f70_1, f70_2, f70_3, f70_4, f70_5, f70_6, f70_7, f70_8⟩ := hQ70
    have N70 := Fr.app N67 Nq70
    have ne_nx_65_nx_70 : nx_65 ≠ nx_70 := Nat.ne_of_lt (Nat.lt_of_lt_of_le c72.lt f70_0)
    have ne_nt_65_nx_70 : nt_65 ≠ nx_70 := Nat.ne_of_lt (Nat.lt_of_lt_of_le c75.lt f70_0)
    have ne_nx_67_nx_70 : nx_67 ≠ nx_70 := Nat.ne_of_lt (Nat.lt_of_lt_of_le f67_1.lt f70_0)
    have ne_nt_67_nx_70 : nt_67 ≠ nx_70 := Nat.ne_of_lt (Nat.lt_of_lt_of_le f67_4.lt f70_0)
    have g_nx_70 : n0 ≤ nx_70 := Nat.le_trans Z67 f70_0
    have sz_nx_70 : h0.size ≤ nx_70 := Nat.le_trans K67.1 f70_0
    have Re76 := Re69.trans CH70
    have hCe76 := Re76.1
    have K70 : Keep h0 T70.heap [] := K67.trans Kq70 all0
    have Z70 : n0 ≤ T70.heap.size := Nat.le_trans Z67 Kq70.1
    have hk70 : T70.heap.size ≤ T70.heap.size := Nat.le_refl _
    obtain ⟨cq77, kq77, q77a, q77b, q77c⟩ := isOf hZ70 rfl f70_1
    obtain ⟨_, _, ⟨T77, Lw77, kw77, nw77⟩, -, X77, ⟨Lc77, hQ77, lq77, yq77, zq77⟩, st77⟩ := X70.virtualBackUp hx (owner := "java/lang/Throwable") (x := M37) (y := M30) hown70 (mvT hZ70 (wd hw 235 rfl)) (mvT hZ70 (wd hw 236 rfl)) (mvT hZ70 (wd hw 237 rfl)) (by decide) (mvT hZ70 (wd hw 239 rfl)) (mvT hZ70 (wd hw 238 rfl)) (backOf (W := 0) (rmGM l Z a0 hw [] nx_70 nm_70 T70.heap n0 Z70 f70_4) hZ70 (wd hw 240 rfl) (wd hw 192 rfl) (by decide) (by decide)) q77a q77c (g := (mkF m 71 #[vi p0, vi p1, vi p2, vi p3, vi (3 : Int32), vi c1, vi c2, vi c3, vr nx_65, vr nx_67, vr nx_70, uu] [(.ref nx_70)])) rfl (by rw [hml]; rfl) (Steps.refl _) (argsL := []) (rest := []) (lenOf pd_21 rfl) rfl (by show 2 * 0 + _ ≤ _; exact Nat.le_of_eq rfl) (hb hby at_71) (fun _ _ => ⟨rfl, rfl, (by decide : 15 + 0 ≤ _), (by decide : 3062 + 0 ≤ _)⟩)
    dsimp only [Pt.U, Pt.locs, Pt.cells, Pt.slots] at X77 lq77 yq77 zq77 st77 hQ77
    have X77 := own_reb X77 lq77 yq77 zq77
    obtain ⟨rfl, Nq77, eh77⟩ := hQ77
    have N77 := Fr.app N70 Nq77
    obtain ⟨cq78, kq78, q78a, q78b, q78c⟩ := isOf hZ70 eh77 f70_1
    obtain ⟨_, _, ⟨T78, Lw78, kw78, nw78⟩, -, X78, ⟨Lc78, hQ78, lq78, yq78, zq78⟩, st78⟩ := X77.virtualBack hx (y := M31) (z := M31) hown70 (mvT hZ70 (wd hw 241 rfl)) (mvT hZ70 (wd hw 242 rfl)) (notFace_of_selects (args := #[]) (mvT hZ70 (wd hw 244 rfl))) (mvT hZ70 (wd hw 244 rfl)) (mvT hZ70 (wd hw 243 rfl)) (by decide) (backOf (W := 0) (rmSt l Z a0 hw [] nx_70 (403 : Int32) T70.heap n0 Z70 f70_1 f70_2) hZ70 (wd hw 245 rfl) (wd hw 42 rfl) (by decide) (by decide)) q78a q78c (g := (mkF m 78 #[vi p0, vi p1, vi p2, vi p3, vi (3 : Int32), vi c1, vi c2, vi c3, vr nx_65, vr nx_67, vr nx_70, vr nm_70] [(.ref nx_70)])) rfl (by rw [hml]; rfl) (Steps.refl _) (argsL := []) (rest := []) (lenOf pd_2 rfl) rfl (by show 2 * 0 + _ ≤ _; exact Nat.le_of_eq rfl) (hb hby at_78) (fun _ _ => ⟨rfl, eh77, (by decide : 15 + 0 ≤ _), (by decide : 3062 + 0 ≤ _)⟩)
    dsimp only [Pt.U, Pt.locs, Pt.cells, Pt.slots] at X78 lq78 yq78 zq78 st78 hQ78
    have X78 := own_reb X78 lq78 yq78 zq78
    obtain ⟨rfl, Nq78, eh78⟩ := hQ78
    have N78 := Fr.app N77 Nq78
    obtain ⟨cq79, kq79, q79a, q79b, q79c⟩ := isOf hZ70 eh78 f70_1
    obtain ⟨_, _, ⟨T79, Lw79, kw79, nw79⟩, -, X79, ⟨Lc79, hQ79, lq79, yq79, zq79⟩, st79⟩ := X78.virtualBack hx (y := M32) (z := M32) hown70 (mvT hZ70 (wd hw 246 rfl)) (mvT hZ70 (wd hw 247 rfl)) (notFace_of_selects (args := #[]) (mvT hZ70 (wd hw 249 rfl))) (mvT hZ70 (wd hw 249 rfl)) (mvT hZ70 (wd hw 248 rfl)) (by decide) (backOf (W := 0) (rmCo l Z a0 hw [] nx_70 (403 : Int32) T70.heap n0 Z70 f70_1 f70_3) hZ70 (wd hw 250 rfl) (wd hw 42 rfl) (by decide) (by decide)) q79a q79c (g := (mkF m 89 #[vi p0, vi p1, vi p2, vi p3, vi (3 : Int32), vi c1, vi c2, vi c3, vr nx_65, vr nx_67, vr nx_70, vr nm_70] [(.ref nx_70)])) rfl (by rw [hml]; rfl) (Steps.refl _) (argsL := []) (rest := []) (lenOf pd_2 rfl) rfl (by show 2 * 0 + _ ≤ _; exact Nat.le_of_eq rfl) (hb hby at_89) (fun _ _ => ⟨rfl, eh78, (by decide : 15 + 0 ≤ _), (by decide : 3062 + 0 ≤ _)⟩)
    dsimp only [Pt.U, Pt.locs, Pt.cells, Pt.slots] at X79 lq79 yq79 zq79 st79 hQ79
    have X79 := own_reb X79 lq79 yq79 zq79
    obtain ⟨rfl, Nq79, eh79⟩ := hQ79
    have N79 := Fr.app N78 Nq79
    have c81 := (f67_1.keep Kq70)
    have c82 := (f67_3.keep Kq70 nin0)
    have c83 := (f67_2.keep Kq70 nin0)
    have c84 := (f67_4.keep Kq70 nin0)
    have c85 := (c71.keep Kq70 all0)
    obtain ⟨cq80, kq80, q80a, q80b, q80c⟩ := isOf hZ70 eh79 f70_5
    obtain ⟨_, _, ⟨T80, Lw80, kw80, nw80⟩, -, X80, ⟨Lc80, hQ80, lq80, yq80, zq80⟩, st80⟩ := X79.virtualBack hx (y := M38) (z := M38) hown70 (mvT hZ70 (wd hw 251 rfl)) (mvT hZ70 (wd hw 252 rfl)) (notFace_of_selects (args := #[]) (mvT hZ70 (wd hw 254 rfl))) (mvT hZ70 (wd hw 254 rfl)) (mvT hZ70 (wd hw 253 rfl)) (by decide) (StrChars.Road.eqW (W := 0) hZ70 (fun d hd => hw d (own_w_wordsEq d hd)) (kI := 4) (wd hw 5 rfl) f70_5 f70_7 f70_6 f70_8 (StrChars.Road.codOf (cs := ([73, 110, 115, 117, 102, 102, 105, 99, 105, 101, 110, 116, 32, 112, 101, 114, 109, 105, 115, 115, 105, 111, 110, 115, 58, 32, c1, c2, c3] : List Int32)) (n := 29) rfl (fun c hc => ((own_all3 u1 u2 u3) c hc).2)) (own_up (own_all3 u1 u2 u3)) (Nat.le_of_ble_eq_true rfl) c81 c82 c83 c84 (StrChars.Road.codOf (cs := ([73, 110, 115, 117, 102, 102, 105, 99, 105, 101, 110, 116, 32, 112, 101, 114, 109, 105, 115, 115, 105, 111, 110, 115, 58, 32, c1, c2, c3] : List Int32)) (n := 29) rfl (fun c hc => ((own_all3 u1 u2 u3) c hc).2)) (own_up (own_all3 u1 u2 u3)) (Nat.le_of_ble_eq_true rfl) (uS.ext c85.2) uP (by decide) (by decide)) q80a q80c (g := (mkF m 107 #[vi p0, vi p1, vi p2, vi p3, vi (3 : Int32), vi c1, vi c2, vi c3, vr nx_65, vr nx_67, vr nx_70, vr nm_70] [(.ref nx_67), (.ref nm_70)])) rfl (by rw [hml]; rfl) (Steps.refl _) (argsL := [(.ref nx_67)]) (rest := []) (lenOf pd_25 rfl) rfl (by show 2 * 0 + _ ≤ _; exact Nat.le_of_eq rfl) (hb hby at_107) (fun _ _ => ⟨rfl, eh79, (by decide : 15 + 0 ≤ _), (by decide : 3062 + 0 ≤ _)⟩)
    dsimp only [Pt.U, Pt.locs, Pt.cells, Pt.slots] at X80 lq80 yq80 zq80 st80 hQ80
    have X80 := own_reb X80 lq80 yq80 zq80
    obtain ⟨ho80, rfl, eh80⟩ := hQ80; obtain rfl := own_eqv ho80
    have N80 := Fr.app N79 (Fr.nil n0)
    obtain ⟨fs, hr, hrun, hended, en1, en2, en3, en4⟩ := X80.leaveW hS70 (own_hk eh80 hk70) (v := some (.int (nar .boolean (1 : Int32)))) (fun h => by rw [Bd.returns] at h; cases h)
    refine ⟨_, _, pre0 _ ?_, hrun, hended, _, _, rfl, ?_, own_chr (T := T80) hh eh80 (Re76.trans (CHv.at X80 hZ70 (own_EW hw) hCe76)), en1, en2, en3, en4.mono (by decide) (by decide)⟩
    · refine sg1 _ ?_
      show SS p e below s₁ (mkF m 37 #[vi p0, vi p1, vi p2, vi p3, vi (3 : Int32), vi c1, vi c2, vi c3, uu, uu, uu, uu] [(.int c3), (.int c2), (.int c1), (vI 3)]) _
      refine st65.trans ?_
      refine XS.astore X65.here hx rfl (hb hby at_40) rfl rfl (l' := #[vi p0, vi p1, vi p2, vi p3, vi (3 : Int32), vi c1, vi c2, vi c3, vr nx_65, uu, uu, uu]) rfl ?_
      refine XS.iload X65.here hx rfl (hb hby at_42) rfl ?_
      refine XS.iload X65.here hx rfl (hb hby at_44) rfl ?_
      refine XS.iload X65.here hx rfl (hb hby at_46) rfl ?_
      refine XS.iload X65.here hx rfl (hb hby at_48) rfl ?_
      show SS p e below T65 (mkF m 50 #[vi p0, vi p1, vi p2, vi p3, vi (3 : Int32), vi c1, vi c2, vi c3, vr nx_65, uu, uu, uu] [(.int c3), (.int c2), (.int c1), (vI 3)]) _
      refine st67.trans ?_
      refine XS.astore X67.here hx rfl (hb hby at_53) rfl rfl (l' := #[vi p0, vi p1, vi p2, vi p3, vi (3 : Int32), vi c1, vi c2, vi c3, vr nx_65, vr nx_67, uu, uu]) rfl ?_
      refine XS.aload X67.here hx rfl (hb hby at_55) rfl rfl ?_
      show SS p e below T67 (mkF m 57 #[vi p0, vi p1, vi p2, vi p3, vi (3 : Int32), vi c1, vi c2, vi c3, vr nx_65, vr nx_67, uu, uu] [(.ref nx_65)]) _
      refine st70.trans ?_
      refine XS.astore X70.here hx rfl (hb hby at_60) rfl rfl (l' := #[vi p0, vi p1, vi p2, vi p3, vi (3 : Int32), vi c1, vi c2, vi c3, vr nx_65, vr nx_67, vr nx_70, uu]) rfl ?_
      refine XS.aload X70.here hx rfl (hb hby at_62) rfl rfl ?_
      show SS p e below T70 (mkF m 64 #[vi p0, vi p1, vi p2, vi p3, vi (3 : Int32), vi c1, vi c2, vi c3, vr nx_65, vr nx_67, vr nx_70, uu] [(.ref nx_70)]) _
      refine XS.ifnonnullYes X70.here hx rfl (pc0 := 64) (pc' := 69) rfl (hb hby at_64) rfl (by decide) (by decide) ?_
      refine XS.aload X70.here hx rfl (hb hby at_69) rfl rfl ?_
      show SS p e below T70 (mkF m 71 #[vi p0, vi p1, vi p2, vi p3, vi (3 : Int32), vi c1, vi c2, vi c3, vr nx_65, vr nx_67, vr nx_70, uu] [(.ref nx_70)]) _
      refine st77.trans ?_
      refine XS.astore X77.here hx rfl (hb hby at_74) rfl rfl (l' := #[vi p0, vi p1, vi p2, vi p3, vi (3 : Int32), vi c1, vi c2, vi c3, vr nx_65, vr nx_67, vr nx_70, vr nm_70]) rfl ?_
      refine XS.aload X77.here hx rfl (hb hby at_76) rfl rfl ?_
      show SS p e below T77 (mkF m 78 #[vi p0, vi p1, vi p2, vi p3, vi (3 : Int32), vi c1, vi c2, vi c3, vr nx_65, vr nx_67, vr nx_70, vr nm_70] [(.ref nx_70)]) _
      refine st78.trans ?_
      refine XS.sipush X78.here hx rfl (hb hby at_81) ?_
      show SS p e below T78 (mkF m 84 #[vi p0, vi p1, vi p2, vi p3, vi (3 : Int32), vi c1, vi c2, vi c3, vr nx_65, vr nx_67, vr nx_70, vr nm_70] [(vI 403), (vI 403)]) _
      refine XS.icmpNo X78.here hx rfl (hb hby at_84) rfl (teq (by decide : (403 : Int32) = (403 : Int32))).2 ?_
      refine XS.aload X78.here hx rfl (hb hby at_87) rfl rfl ?_
      show SS p e below T78 (mkF m 89 #[vi p0, vi p1, vi p2, vi p3, vi (3 : Int32), vi c1, vi c2, vi c3, vr nx_65, vr nx_67, vr nx_70, vr nm_70] [(.ref nx_70)]) _
      refine st79.trans ?_
      refine XS.sipush X79.here hx rfl (hb hby at_92) ?_
      show SS p e below T79 (mkF m 95 #[vi p0, vi p1, vi p2, vi p3, vi (3 : Int32), vi c1, vi c2, vi c3, vr nx_65, vr nx_67, vr nx_70, vr nm_70] [(vI 403), (vI 403)]) _
      refine XS.icmpNo X79.here hx rfl (hb hby at_95) rfl (teq (by decide : (403 : Int32) = (403 : Int32))).2 ?_
      refine XS.aload X79.here hx rfl (hb hby at_98) rfl rfl ?_
      show SS p e below T79 (mkF m 100 #[vi p0, vi p1, vi p2, vi p3, vi (3 : Int32), vi c1, vi c2, vi c3, vr nx_65, vr nx_67, vr nx_70, vr nm_70] [(.ref nm_70)]) _
      refine XS.ifnullNo X79.here hx rfl (hb hby at_100) rfl ?_
      refine XS.aload X79.here hx rfl (hb hby at_103) rfl rfl ?_
      refine XS.aload X79.here hx rfl (hb hby at_105) rfl rfl ?_
      show SS p e below T79 (mkF m 107 #[vi p0, vi p1, vi p2, vi p3, vi (3 : Int32), vi c1, vi c2, vi c3, vr nx_65, vr nx_67, vr nx_70, vr nm_70] [(.ref nx_67), (.ref nm_70)]) _
      refine st80.trans ?_
      show SS p e below T80 (mkF m 110 #[vi p0, vi p1, vi p2, vi p3, vi (3 : Int32), vi c1, vi c2, vi c3, vr nx_65, vr nx_67, vr nx_70, vr nm_70] [(.int (if ([73, 110, 115, 117, 102, 102, 105, 99, 105, 101, 110, 116, 32, 112, 101, 114, 109, 105, 115, 115, 105, 111, 110, 115, 58, 32, c1, c2, c3] : List Int32) = ([73, 110, 115, 117, 102, 102, 105, 99, 105, 101, 110, 116, 32, 112, 101, 114, 109, 105, 115, 115, 105, 111, 110, 115, 58, 32, c1, c2, c3] : List Int32) then (1 : Int32) else (0 : Int32)))]) _
      refine XS.ifNo X80.here hx rfl (hb hby at_110) rfl ((if0 _ _).trans (feq (by rw [if_pos rfl]; decide : ¬ ((if ([73, 110, 115, 117, 102, 102, 105, 99, 105, 101, 110, 116, 32, 112, 101, 114, 109, 105, 115, 115, 105, 111, 110, 115, 58, 32, c1, c2, c3] : List Int32) = ([73, 110, 115, 117, 102, 102, 105, 99, 105, 101, 110, 116, 32, 112, 101, 114, 109, 105, 115, 115, 105, 111, 110, 115, 58, 32, c1, c2, c3] : List Int32) then (1 : Int32) else (0 : Int32)) = (0 : Int32)))).1) ?_
      refine XS.iconst X80.here hx rfl (hb hby at_113) ?_
      refine XS.goto X80.here hx rfl (pc0 := 114) (pc' := 118) rfl (hb hby at_114) (by decide) (by decide) ?_
      exact retN X80 hx (t := .boolean) Bd.returns (by simp) (hb hby at_118) hr
    · show Q_rm0 Z p0 p1 p2 p3 zc vu vq (3 : Int32) c1 c2 c3 h0 n0 _ T80.heap _
      rw [eh80]
      exact ⟨rfl, N80⟩
theorem own_4 (x : Int32) : (x &&& (3 : Int32)) = (0 : Int32) ∨ (x &&& (3 : Int32)) = (1 : Int32) ∨ (x &&& (3 : Int32)) = (2 : Int32) ∨ (x &&& (3 : Int32)) = (3 : Int32) := by
  have h := c_mask x (3 : Int32) 2 (by decide) (by decide)
  have e0 : ((0 : Int32)).toInt = 0 := by decide
  have e1 : ((1 : Int32)).toInt = 1 := by decide
  have e2 : ((2 : Int32)).toInt = 2 := by decide
  have e3 : ((3 : Int32)).toInt = 3 := by decide
  generalize (x &&& (3 : Int32)) = z at *
  simp only [← Int32.toInt_inj]
  omega
theorem own_ch (x : Int32) : ¬ ((x &&& (255 : Int32)).toUInt32.toUInt16.toUInt32.toInt32) < 0 ∧ ¬ (255 : Int32) < ((x &&& (255 : Int32)).toUInt32.toUInt16.toUInt32.toInt32) := by
  have h := c_mask x (255 : Int32) 8 (by decide) (by decide)
  have b : ¬ (x &&& (255 : Int32)) < 0 ∧ ¬ (255 : Int32) < (x &&& (255 : Int32)) := own_nr (by omega) (by omega)
  rw [show ((x &&& (255 : Int32)).toUInt32.toUInt16.toUInt32.toInt32) = (x &&& (255 : Int32)) from own_ne b]
  exact b
set_option maxRecDepth 65536 in
set_option maxHeartbeats 40000000 in
theorem comes_1 {Post : Tables → Env → Array Value → State → Outcome → State → Prop} (hpost : ∀ tb e args s v u, (limb_1_1.after args s (.returned v) u = true ∧ limb_1_2.after args s (.returned v) u = true ∧ True) → ReturnedEndW s (.returned v) u (Jvm.fieldLocs frame_1_writes args s ++ Jvm.arrayLocs frame_1_arrays args s ++ Jvm.staticLocs frame_1_statics s) 40 8000 → Post tb e args s (.returned v) u) :
    ArmFor flags0 classFile x code maxLocals ret World_1 tables_1 room_1 Calls_1 rest_1 Pre_1 Post := by
  intro l hfl _ _ p e ha hc hk s m args below hf hA hF happ hP
  obtain ⟨hcalls, hrest, hpre⟩ := hP
  obtain ⟨-, -, -, hnamed, -, -, -, hat⟩ := (Spec.applies_iff hf).mp happ
  obtain ⟨hg, hn⟩ := and_e (Cond.before_iff.mp (show (Jvm.Cond.and given_1 narrow_1).before args s = true from hpre))
  obtain ⟨g1, g2⟩ := and_e hg
  obtain ⟨g3, g4⟩ := and_e g2
  obtain ⟨g5, g6⟩ := and_e g4
  obtain ⟨g7, g8⟩ := and_e g6
  obtain ⟨w0, w1, w2, w3, rfl⟩ : ∃ w0 w1 w2 w3 : Value, args = #[w0, w1, w2, w3] := by
    have hs : args.size = 4 := by simpa [Cond.value, given_1] using g1
    obtain ⟨L⟩ := args
    match L, hs with
    | [w0, w1, w2, w3], _ => exact ⟨w0, w1, w2, w3, rfl⟩
  have hw := fun d (hd : d ∈ tables_1) => atoms_spec (ws := Jvm.Cond.code x code maxLocals ret :: tables_1) hat d (List.mem_cons_of_mem _ hd)
  have hfit : Fit s := fun {y c} hc i hi => by
    obtain ⟨ha, rfl⟩ := Array.getElem?_eq_some_iff.mp hc
    have q := List.all_eq_true.mp ((Array.all_eq_true_iff_forall_mem.mp hF) _ (Array.getElem_mem ha)) i (List.mem_range.mpr hi)
    simpa [Array.getElem?_eq_getElem hi] using q
  obtain ⟨hsets, hown0⟩ := atoms_of _ (rest_1_c_eq ▸ (show rest_1_c.before _ s = true from hrest))
  obtain ⟨i0, ei0⟩ := is_v g3
  obtain rfl : w0 = (.int i0) := Option.some.inj ei0
  obtain ⟨i1, ei1⟩ := is_v g5
  obtain rfl : w1 = (.int i1) := Option.some.inj ei1
  obtain ⟨i2, ei2⟩ := is_v g7
  obtain rfl : w2 = (.int i2) := Option.some.inj ei2
  obtain ⟨i3, ei3⟩ := is_v g8
  obtain rfl : w3 = (.int i3) := Option.some.inj ei3
  obtain ⟨zc, ezc⟩ := is_v (Cond.before_iff.mp (hsets _ (List.mem_of_getElem? (i := 1) rfl)))
  have uS := Sta.start ezc (Or.inl (hsets _ (List.mem_of_getElem? (i := 0) rfl)))
  have uP : ¬ zc = 0 := gotF (Cond.eq_ints ezc (Term.int_eval (0))) (not_v (Cond.before_iff.mp (hsets _ (List.mem_of_getElem? (i := 2) rfl))))
  have uLt : l.stackTraces = true := by
    show (!l.flags.contains noTraceFlag) = true
    rw [hfl]; decide +kernel
  obtain ⟨vu, evu, uRu⟩ := isR_v (Cond.before_iff.mp (hsets _ (List.mem_of_getElem? (i := 16) rfl)))
  have uZu := Sta.start evu (Or.inl (hsets _ (List.mem_of_getElem? (i := 15) rfl)))
  obtain ⟨vq, evq, uRs⟩ := isR_v (Cond.before_iff.mp (hsets _ (List.mem_of_getElem? (i := 21) rfl)))
  have uZs := Sta.start evq (Or.inl (hsets _ (List.mem_of_getElem? (i := 20) rfl)))
  have hCH : CHv s own_EL s.vm s.heap := CHv.start (own_EW hw) (show Jvm.D.constsHeld consts_1 s from hcalls.2.2.1) (hsets _ (List.mem_of_getElem? (i := 2) rfl)) (wd hw 19 rfl) (wd hw 5 rfl)
  obtain ⟨n, o, h1, h2, h3, _, L, rfl, ⟨rfl, N⟩, -, hq⟩ := rm0 l s _ hw tables_1 i0 i1 i2 i3 zc vu vq _ _ _ _ s.heap s.heap.size (Nat.le_refl _) (Old.start s) uS uP uLt uZu uRu uZs uRs rfl rfl rfl rfl (own_ch _) (own_ch _) (own_ch _) (own_4 _) p e ha hc hk s m _ below hf ((Spec.applies_iff_loose hf).mp happ).1 ⟨rfl, State.Warmed39.refl s, rfl, hCH⟩ ⟨hcalls.1, hcalls.2.1⟩
  refine ⟨n, _, h1, h2, h3, hpost _ _ _ _ _ _ ⟨Cond.after_iff.mpr rfl, Cond.after_iff.mpr (eq_i res_at (Term.int_eval (1)) rfl), trivial⟩ ⟨hq.1, hq.2.1, hq.2.2.1, (hq.2.2.2.sift fun y hy => Or.inr (N y hy)).mono (by decide) (by decide)⟩⟩
theorem main_1_1 : Claimed_1_1 := comes_1 fun _ _ _ _ _ _ h hF => ⟨h.1, hF⟩
theorem main_1_2 : Claimed_1_2 := comes_1 fun _ _ _ _ _ _ h hF => ⟨h.2.1, hF⟩
end Jvm.Pilot.@@N@@
namespace Jvm.Pilot.@@N@@
open Jvm Jvm.ClassFile Sem Op Lib Jvm.Free Jvm.Stand Jvm.Pilot.@@N@@.Jvm.D
/-! MADE BY PROGRAM (witnessworld.py) out of the Statement's table words and the real class files: 42 classes; the members and pool entries that the words name. The judged class is class 1, her method 3. -/
namespace start1
open Jvm.ClassFile
def u (s : String) : CpInfo := .utf8 (stringToUtf16 s)
/-- a pool by its gaps: so many unusable entries, then the entry; so many at the end -/
def gap : Nat → List CpInfo → List CpInfo
  | 0, r => r
  | n + 1, r => .unusable :: gap n r
def poolList (es : List (Nat × CpInfo)) (last : Nat) : List CpInfo := es.foldr (fun e r => gap e.1 (e.2 :: r)) (gap last [])
def pool (es : List (Nat × CpInfo)) (last : Nat) : Array CpInfo := ⟨poolList es last⟩
def fileOf (pool : Array CpInfo) (this : Nat) (attrs : Array Attribute := #[]) (ms : Array MethodInfo := #[]) (fl : Nat := 33) (sup : Nat := 0) (ifs : Array Nat := #[]) (fds : Array FieldInfo := #[]) : ClassFile where
  minorVersion := 0
  majorVersion := 65
  constantPool := pool
  accessFlags := fl
  thisClass := this
  superClass := sup
  interfaces := ifs
  fields := fds
  methods := ms
  attributes := attrs
def plain (name : String) (sup : Option ClassId) : Class where
  name := name
  kind := .ordinary
  loader := none
  accessFlags := 33
  super := sup
  interfaces := #[]
  cf := none
  fields := #[]
  methods := #[]
  instanceTypes := #[]
  staticTypes := #[]
  resolved := #[]
  callSites := []
  init := .initialized
  statics := none
  mirror := none

def pool0 : Array CpInfo := pool [(5, u "<init>"), (0, u "()V"), (1, .class_ 10), (1, u "java/lang/Object")] 113

def k0c0 : Code := { maxStack := 0, maxLocals := 1, code := object_method_1_code, exceptionTable := #[], attributes := #[] }
def k0m0 : Method := { name := "<init>", desc := "()V", sig := { parameters := [], returnType := none }, accessFlags := 1, code := some k0c0 }
/-- java/lang/Object -/
def k0 : Class := { plain "java/lang/Object" none with
  accessFlags := 33
  interfaces := #[]
  cf := some (fileOf pool0 8 #[] #[{ accessFlags := 1, nameIndex := 5, descriptorIndex := 6, attributes := #[] }] 33 0 #[] #[])
  fields := #[]
  methods := #[k0m0]
  instanceTypes := #[]
  staticTypes := #[]
  resolved := Array.replicate 124 none
  statics := none }

def pool1 : Array CpInfo := pool [(2, .class_ 4), (1, u "java/lang/Object"), (0, u "<init>"), (0, u "()V"), (0, .class_ 8), (0, u "java/lang/String"), (0, .methodref 7 10), (0, .nameAndType 5 11), (0, u "([C)V"), (0, .methodref 13 14), (0, .class_ 15), (0, .nameAndType 16 17), (0, u "com/example/plain_hub/plainhub/HubExceptionForbiddenPinLaw"), (0, u "reasonOf"), (0, u "(ICCC)Ljava/lang/String;"), (0, .methodref 13 19), (0, .nameAndType 20 17), (0, u "expected"), (0, .methodref 22 23), (0, .class_ 24), (0, .nameAndType 25 26), (0, u "com/example/plain_hub/plainhub/HubException"), (0, u "forbidden"), (0, u "(Ljava/lang/String;)Lcom/example/plain_hub/plainhub/HubException;"), (0, .methodref 22 28), (0, .nameAndType 29 30), (0, u "getMessage"), (0, u "()Ljava/lang/String;"), (0, .methodref 22 32), (0, .nameAndType 33 34), (0, u "status"), (0, u "()I"), (0, .methodref 22 36), (0, .nameAndType 37 34), (0, u "code"), (0, .methodref 7 39), (0, .nameAndType 40 41), (0, u "equals"), (0, u "(Ljava/lang/Object;)Z"), (3, u "law"), (0, u "(IIII)Z")] 2

def k1m0 : Method := { name := "<init>", desc := "()V", sig := { parameters := [], returnType := none }, accessFlags := 2, code := none }
def k1c1 : Code := { maxStack := 6, maxLocals := 4, code := method_2_code, exceptionTable := #[], attributes := #[] }
def k1m1 : Method := { name := "reasonOf", desc := "(ICCC)Ljava/lang/String;", sig := { parameters := [.int, .char, .char, .char], returnType := some (.object "java/lang/String") }, accessFlags := 10, code := some k1c1 }
def k1c2 : Code := { maxStack := 6, maxLocals := 4, code := method_3_code, exceptionTable := #[], attributes := #[] }
def k1m2 : Method := { name := "expected", desc := "(ICCC)Ljava/lang/String;", sig := { parameters := [.int, .char, .char, .char], returnType := some (.object "java/lang/String") }, accessFlags := 10, code := some k1c2 }
def k1c3 : Code := { maxStack := 4, maxLocals := 12, code := code, exceptionTable := #[], attributes := #[] }
def k1m3 : Method := { name := "law", desc := "(IIII)Z", sig := { parameters := [.int, .int, .int, .int], returnType := some .boolean }, accessFlags := 9, code := some k1c3 }
/-- com/example/plain_hub/plainhub/HubExceptionForbiddenPinLaw -/
def k1 : Class := { plain "com/example/plain_hub/plainhub/HubExceptionForbiddenPinLaw" (some 0) with
  accessFlags := 49
  interfaces := #[]
  cf := some (fileOf pool1 13 #[] #[{ accessFlags := 2, nameIndex := 5, descriptorIndex := 6, attributes := #[] }, { accessFlags := 10, nameIndex := 16, descriptorIndex := 17, attributes := #[] }, { accessFlags := 10, nameIndex := 20, descriptorIndex := 17, attributes := #[] }, { accessFlags := 9, nameIndex := 45, descriptorIndex := 46, attributes := #[] }] 49 2 #[] #[])
  fields := #[]
  methods := #[k1m0, k1m1, k1m2, k1m3]
  instanceTypes := #[]
  staticTypes := #[]
  resolved := Array.replicate 49 none
  statics := none }

def pool2 : Array CpInfo := pool [(1, .class_ 2), (0, u "java/io/Serializable"), (0, .class_ 4), (0, u "java/lang/Object")] 2

/-- java/io/Serializable -/
def k2 : Class := { plain "java/io/Serializable" (some 0) with
  accessFlags := 1537
  interfaces := #[]
  cf := some (fileOf pool2 1 #[] #[] 1537 3 #[] #[])
  fields := #[]
  methods := #[]
  instanceTypes := #[]
  staticTypes := #[]
  resolved := Array.replicate 7 none
  statics := none }

def pool3 : Array CpInfo := pool [(1, .class_ 2), (0, u "java/lang/Comparable"), (0, .class_ 4), (0, u "java/lang/Object")] 7

/-- java/lang/Comparable -/
def k3 : Class := { plain "java/lang/Comparable" (some 0) with
  accessFlags := 1537
  interfaces := #[]
  cf := some (fileOf pool3 1 #[] #[] 1537 3 #[] #[])
  fields := #[]
  methods := #[]
  instanceTypes := #[]
  staticTypes := #[]
  resolved := Array.replicate 12 none
  statics := none }

def pool4 : Array CpInfo := pool [(2, .class_ 4), (1, u "java/lang/CharSequence"), (42, .class_ 48), (0, u "java/lang/CharSequence$1CodePointIterator"), (10, .class_ 60), (0, u "java/lang/CharSequence$1CharIterator"), (5, .class_ 67), (0, u "java/lang/Object")] 63

/-- java/lang/CharSequence -/
def k4 : Class := { plain "java/lang/CharSequence" (some 0) with
  accessFlags := 1537
  interfaces := #[]
  cf := some (fileOf pool4 2 #[.nestMembers #[47, 59]] #[] 1537 66 #[] #[])
  fields := #[]
  methods := #[]
  instanceTypes := #[]
  staticTypes := #[]
  resolved := Array.replicate 131 none
  statics := none }

def pool5 : Array CpInfo := pool [(1, .class_ 2), (0, u "java/lang/constant/Constable"), (0, .class_ 4), (0, u "java/lang/Object")] 6

/-- java/lang/constant/Constable -/
def k5 : Class := { plain "java/lang/constant/Constable" (some 0) with
  accessFlags := 1537
  interfaces := #[]
  cf := some (fileOf pool5 1 #[] #[] 1537 3 #[] #[])
  fields := #[]
  methods := #[]
  instanceTypes := #[]
  staticTypes := #[]
  resolved := Array.replicate 11 none
  statics := none }

def pool6 : Array CpInfo := pool [(1, .class_ 2), (0, u "java/lang/constant/ConstantDesc"), (0, .class_ 4), (0, u "java/lang/Object")] 32

/-- java/lang/constant/ConstantDesc -/
def k6 : Class := { plain "java/lang/constant/ConstantDesc" (some 0) with
  accessFlags := 1537
  interfaces := #[]
  cf := some (fileOf pool6 1 #[] #[] 1537 3 #[] #[])
  fields := #[]
  methods := #[]
  instanceTypes := #[]
  staticTypes := #[]
  resolved := Array.replicate 37 none
  statics := none }

def pool7 : Array CpInfo := pool [(1, .methodref 2 3), (0, .class_ 4), (0, .nameAndType 5 6), (0, u "java/lang/Object"), (0, u "<init>"), (0, u "()V"), (0, .string 8), (0, u ""), (0, .fieldref 10 11), (0, .class_ 12), (0, .nameAndType 13 14), (0, u "java/lang/String"), (0, u "value"), (0, u "[B"), (0, .fieldref 10 16), (0, .nameAndType 17 18), (0, u "coder"), (0, u "B"), (2, u "hash"), (0, u "I"), (2, u "hashIsZero"), (0, u "Z"), (0, .methodref 10 28), (0, .nameAndType 5 29), (0, u "([CIILjava/lang/Void;)V"), (8, .fieldref 10 39), (0, .nameAndType 40 26), (0, u "COMPACT_STRINGS"), (1, .class_ 44), (1, u "java/lang/StringUTF16"), (0, u "compress"), (1, .methodref 42 48), (0, .nameAndType 49 50), (0, u "coderFromArrayLen"), (0, u "([BI)B"), (3, .methodref 55 56), (0, .class_ 57), (0, .nameAndType 58 59), (0, u "java/util/Arrays"), (0, u "copyOfRange"), (0, u "([BII)[B"), (47, .class_ 109), (1, u "java/lang/StringLatin1"), (32, u "()Z"), (34, .methodref 42 178), (0, .nameAndType 45 179), (0, u "([CII)[B"), (13, .class_ 195), (1, u "java/lang/System"), (16, .methodref 193 213), (0, .nameAndType 214 215), (0, u "arraycopy"), (0, u "(Ljava/lang/Object;ILjava/lang/Object;II)V"), (118, u "()I"), (0, .methodref 10 336), (0, .nameAndType 17 337), (0, u "()B"), (2, u "()[B"), (148, .methodref 10 490), (0, .nameAndType 5 491), (0, u "(Ljava/lang/AbstractStringBuilder;Ljava/lang/Void;)V"), (1, .nameAndType 494 142), (0, u "isLatin1"), (11, .nameAndType 507 334), (0, u "length"), (24, u "getBytes"), (8, .methodref 107 542), (0, .nameAndType 543 544), (0, u "equals"), (0, u "([B[B)Z"), (4, .methodref 550 506), (0, .class_ 551), (0, u "java/lang/AbstractStringBuilder"), (0, .methodref 550 553), (0, .nameAndType 554 340), (0, u "getValue"), (18, u "(Ljava/lang/Object;)Z"), (1, .class_ 576), (0, u "java/lang/CharSequence"), (22, u "CASE_INSENSITIVE_ORDER"), (0, u "Ljava/util/Comparator;"), (220, u "([BIB)V"), (188, u "([C)V"), (36, .methodref 550 493), (53, u "serialPersistentFields"), (0, u "[Ljava/io/ObjectStreamField;"), (0, .class_ 1104), (0, u "java/lang/String$CaseInsensitiveComparator"), (1, .class_ 1107), (0, u "java/io/Serializable"), (0, .class_ 1109), (0, u "java/lang/Comparable"), (0, .class_ 1111), (0, u "java/lang/constant/Constable"), (0, .class_ 1113), (0, u "java/lang/constant/ConstantDesc"), (2, u "serialVersionUID"), (0, u "J"), (3, u "REPL"), (0, u "C"), (2, u "LATIN1"), (1, u "UTF16"), (105, u "(Ljava/lang/StringBuilder;)V")] 217

def k7m0 : Method := { name := "<init>", desc := "()V", sig := { parameters := [], returnType := none }, accessFlags := 1, code := none }
def k7c1 : Code := { maxStack := 5, maxLocals := 2, code := jdk_42_method_3_code, exceptionTable := #[], attributes := #[] }
def k7m1 : Method := { name := "<init>", desc := "([C)V", sig := { parameters := [(.array .char)], returnType := none }, accessFlags := 1, code := some k7c1 }
def k7c2 : Code := { maxStack := 3, maxLocals := 2, code := jdk_42_method_53_code, exceptionTable := #[], attributes := #[] }
def k7m2 : Method := { name := "<init>", desc := "(Ljava/lang/StringBuilder;)V", sig := { parameters := [(.object "java/lang/StringBuilder")], returnType := none }, accessFlags := 1, code := some k7c2 }
def k7c3 : Code := { maxStack := 2, maxLocals := 1, code := jdk_42_method_54_code, exceptionTable := #[], attributes := #[] }
def k7m3 : Method := { name := "length", desc := "()I", sig := { parameters := [], returnType := some .int }, accessFlags := 1, code := some k7c3 }
def k7c4 : Code := { maxStack := 2, maxLocals := 3, code := jdk_42_method_66_code, exceptionTable := #[], attributes := #[] }
def k7m4 : Method := { name := "equals", desc := "(Ljava/lang/Object;)Z", sig := { parameters := [(.object "java/lang/Object")], returnType := some .boolean }, accessFlags := 1, code := some k7c4 }
def k7c5 : Code := { maxStack := 5, maxLocals := 4, code := jdk_42_method_147_code, exceptionTable := #[], attributes := #[] }
def k7m5 : Method := { name := "getBytes", desc := "([BIB)V", sig := { parameters := [(.array .byte), .int, .byte], returnType := none }, accessFlags := 0, code := some k7c5 }
def k7c6 : Code := { maxStack := 4, maxLocals := 6, code := jdk_42_method_149_code, exceptionTable := #[], attributes := #[] }
def k7m6 : Method := { name := "<init>", desc := "([CIILjava/lang/Void;)V", sig := { parameters := [(.array .char), .int, .int, (.object "java/lang/Void")], returnType := none }, accessFlags := 2, code := some k7c6 }
def k7c7 : Code := { maxStack := 5, maxLocals := 5, code := jdk_42_method_150_code, exceptionTable := #[], attributes := #[] }
def k7m7 : Method := { name := "<init>", desc := "(Ljava/lang/AbstractStringBuilder;Ljava/lang/Void;)V", sig := { parameters := [(.object "java/lang/AbstractStringBuilder"), (.object "java/lang/Void")], returnType := none }, accessFlags := 0, code := some k7c7 }
def k7c8 : Code := { maxStack := 1, maxLocals := 1, code := jdk_42_method_152_code, exceptionTable := #[], attributes := #[] }
def k7m8 : Method := { name := "coder", desc := "()B", sig := { parameters := [], returnType := some .byte }, accessFlags := 0, code := some k7c8 }
/-- java/lang/String -/
def k7 : Class := { plain "java/lang/String" (some 0) with
  accessFlags := 49
  interfaces := #[2, 3, 4, 5, 6]
  cf := some (fileOf pool7 10 #[.nestMembers #[1103]] #[{ accessFlags := 1, nameIndex := 5, descriptorIndex := 6, attributes := #[] }, { accessFlags := 1, nameIndex := 5, descriptorIndex := 1010, attributes := #[] }, { accessFlags := 1, nameIndex := 5, descriptorIndex := 1233, attributes := #[] }, { accessFlags := 1, nameIndex := 507, descriptorIndex := 334, attributes := #[] }, { accessFlags := 1, nameIndex := 543, descriptorIndex := 573, attributes := #[] }, { accessFlags := 0, nameIndex := 532, descriptorIndex := 821, attributes := #[] }, { accessFlags := 2, nameIndex := 5, descriptorIndex := 29, attributes := #[] }, { accessFlags := 0, nameIndex := 5, descriptorIndex := 491, attributes := #[] }, { accessFlags := 0, nameIndex := 17, descriptorIndex := 337, attributes := #[] }] 49 2 #[1106, 1108, 575, 1110, 1112] #[{ accessFlags := 18, nameIndex := 13, descriptorIndex := 14, attributes := #[] }, { accessFlags := 18, nameIndex := 17, descriptorIndex := 18, attributes := #[] }, { accessFlags := 2, nameIndex := 21, descriptorIndex := 22, attributes := #[] }, { accessFlags := 2, nameIndex := 25, descriptorIndex := 26, attributes := #[] }, { accessFlags := 26, nameIndex := 1116, descriptorIndex := 1117, attributes := #[] }, { accessFlags := 24, nameIndex := 40, descriptorIndex := 26, attributes := #[] }, { accessFlags := 26, nameIndex := 1101, descriptorIndex := 1102, attributes := #[] }, { accessFlags := 26, nameIndex := 1121, descriptorIndex := 1122, attributes := #[] }, { accessFlags := 25, nameIndex := 599, descriptorIndex := 600, attributes := #[] }, { accessFlags := 24, nameIndex := 1125, descriptorIndex := 18, attributes := #[] }, { accessFlags := 24, nameIndex := 1127, descriptorIndex := 18, attributes := #[] }])
  fields := #[{ name := "value", type := (.array .byte), accessFlags := 18, slot := 0, constantValue := 0 }, { name := "coder", type := .byte, accessFlags := 18, slot := 1, constantValue := 0 }, { name := "hash", type := .int, accessFlags := 2, slot := 2, constantValue := 0 }, { name := "hashIsZero", type := .boolean, accessFlags := 2, slot := 3, constantValue := 0 }, { name := "serialVersionUID", type := .long, accessFlags := 26, slot := 0, constantValue := 0 }, { name := "COMPACT_STRINGS", type := .boolean, accessFlags := 24, slot := 1, constantValue := 0 }, { name := "serialPersistentFields", type := (.array (.object "java/io/ObjectStreamField")), accessFlags := 26, slot := 2, constantValue := 0 }, { name := "REPL", type := .char, accessFlags := 26, slot := 3, constantValue := 0 }, { name := "CASE_INSENSITIVE_ORDER", type := (.object "java/util/Comparator"), accessFlags := 25, slot := 4, constantValue := 0 }, { name := "LATIN1", type := .byte, accessFlags := 24, slot := 5, constantValue := 0 }, { name := "UTF16", type := .byte, accessFlags := 24, slot := 6, constantValue := 0 }]
  methods := #[k7m0, k7m1, k7m2, k7m3, k7m4, k7m5, k7m6, k7m7, k7m8]
  instanceTypes := #[(.array .byte), .byte, .int, .boolean]
  staticTypes := #[.long, .boolean, (.array (.object "java/io/ObjectStreamField")), .char, (.object "java/util/Comparator"), .byte, .byte]
  resolved := Array.replicate 1451 none
  statics := some 0 }

def pool8 : Array CpInfo := pool [(6, .class_ 8), (1, u "java/lang/Object"), (0, u "<init>"), (0, u "()V"), (1, .class_ 14), (1, u "java/lang/StringUTF16"), (31, u "$assertionsDisabled"), (0, u "Z"), (13, u "HI_BYTE_SHIFT"), (0, u "I"), (2, u "LO_BYTE_SHIFT"), (49, .methodref 12 116), (0, .nameAndType 117 118), (0, u "compress"), (0, u "([CI[BII)I"), (3, u "([CII)[B"), (138, u "coderFromArrayLen"), (0, u "([BI)B"), (106, .class_ 371), (1, u "java/lang/StringUTF16$LinesSpliterator"), (58, u "MAX_LENGTH"), (196, .class_ 628), (0, u "java/lang/StringUTF16$CodePointsSpliterator"), (0, .class_ 630), (0, u "java/lang/StringUTF16$CharsSpliterator")] 4

def k8m0 : Method := { name := "<init>", desc := "()V", sig := { parameters := [], returnType := none }, accessFlags := 0, code := none }
def k8c1 : Code := { maxStack := 2, maxLocals := 2, code := jdk_52_method_15_code, exceptionTable := #[], attributes := #[] }
def k8m1 : Method := { name := "coderFromArrayLen", desc := "([BI)B", sig := { parameters := [(.array .byte), .int], returnType := some .byte }, accessFlags := 8, code := some k8c1 }
def k8c2 : Code := { maxStack := 5, maxLocals := 6, code := jdk_52_method_16_code, exceptionTable := #[], attributes := #[] }
def k8m2 : Method := { name := "compress", desc := "([CII)[B", sig := { parameters := [(.array .char), .int, .int], returnType := some (.array .byte) }, accessFlags := 9, code := some k8c2 }
def k8c3 : Code := { maxStack := 3, maxLocals := 7, code := jdk_52_method_21_code, exceptionTable := #[], attributes := #[] }
def k8m3 : Method := { name := "compress", desc := "([CI[BII)I", sig := { parameters := [(.array .char), .int, (.array .byte), .int, .int], returnType := some .int }, accessFlags := 9, code := some k8c3 }
/-- java/lang/StringUTF16 -/
def k8 : Class := { plain "java/lang/StringUTF16" (some 0) with
  accessFlags := 48
  interfaces := #[]
  cf := some (fileOf pool8 12 #[.nestMembers #[627, 629, 369]] #[{ accessFlags := 0, nameIndex := 9, descriptorIndex := 10, attributes := #[] }, { accessFlags := 8, nameIndex := 261, descriptorIndex := 262, attributes := #[] }, { accessFlags := 9, nameIndex := 117, descriptorIndex := 122, attributes := #[] }, { accessFlags := 9, nameIndex := 117, descriptorIndex := 118, attributes := #[] }] 48 6 #[] #[{ accessFlags := 26, nameIndex := 61, descriptorIndex := 62, attributes := #[] }, { accessFlags := 26, nameIndex := 65, descriptorIndex := 62, attributes := #[] }, { accessFlags := 24, nameIndex := 430, descriptorIndex := 62, attributes := #[] }, { accessFlags := 4120, nameIndex := 46, descriptorIndex := 47, attributes := #[] }])
  fields := #[{ name := "HI_BYTE_SHIFT", type := .int, accessFlags := 26, slot := 0, constantValue := 0 }, { name := "LO_BYTE_SHIFT", type := .int, accessFlags := 26, slot := 1, constantValue := 0 }, { name := "MAX_LENGTH", type := .int, accessFlags := 24, slot := 2, constantValue := 0 }, { name := "$assertionsDisabled", type := .boolean, accessFlags := 4120, slot := 3, constantValue := 0 }]
  methods := #[k8m0, k8m1, k8m2, k8m3]
  instanceTypes := #[]
  staticTypes := #[.int, .int, .int, .boolean]
  resolved := Array.replicate 635 none
  statics := none }

def pool9 : Array CpInfo := pool [(1, .methodref 2 3), (0, .class_ 4), (0, .nameAndType 5 6), (0, u "java/lang/Object"), (0, u "<init>"), (0, u "()V"), (0, .fieldref 8 9), (0, .class_ 10), (0, .nameAndType 11 12), (0, u "java/lang/Throwable"), (0, u "cause"), (0, u "Ljava/lang/Throwable;"), (0, .fieldref 8 14), (0, .nameAndType 15 16), (0, u "UNASSIGNED_STACK"), (0, u "[Ljava/lang/StackTraceElement;"), (0, .fieldref 8 18), (0, .nameAndType 19 16), (0, u "stackTrace"), (0, .fieldref 8 21), (0, .nameAndType 22 23), (0, u "SUPPRESSED_SENTINEL"), (0, u "Ljava/util/List;"), (0, .fieldref 8 25), (0, .nameAndType 26 23), (0, u "suppressedExceptions"), (0, .methodref 8 28), (0, .nameAndType 29 30), (0, u "fillInStackTrace"), (0, u "()Ljava/lang/Throwable;"), (0, .fieldref 8 32), (0, .nameAndType 33 34), (0, u "detailMessage"), (0, u "Ljava/lang/String;"), (3, u "()Ljava/lang/String;"), (2, u "getMessage"), (51, .class_ 94), (0, u "java/lang/Throwable$WrappedPrintStream"), (6, .class_ 103), (1, u "java/lang/Throwable$PrintStreamOrWriter"), (61, u "$assertionsDisabled"), (0, u "Z"), (26, .class_ 194), (0, u "java/lang/Throwable$WrappedPrintWriter"), (3, .fieldref 8 199), (0, .nameAndType 200 201), (0, u "backtrace"), (0, u "Ljava/lang/Object;"), (0, .methodref 8 203), (0, .nameAndType 29 204), (0, u "(I)Ljava/lang/Throwable;"), (6, u "depth"), (0, u "I"), (10, u "(Ljava/lang/String;)V"), (45, .class_ 271), (1, u "java/lang/Throwable$SentinelHolder"), (32, u "EMPTY_THROWABLE_ARRAY"), (0, u "[Ljava/lang/Throwable;"), (12, .class_ 319), (0, u "java/io/Serializable"), (0, u "serialVersionUID"), (0, u "J"), (5, u "NULL_CAUSE_MESSAGE"), (0, u "SELF_SUPPRESSION_MESSAGE"), (0, u "CAUSE_CAPTION"), (0, u "SUPPRESSED_CAPTION")] 73

def k9c0 : Code := { maxStack := 2, maxLocals := 1, code := jdk_78_method_1_code, exceptionTable := #[], attributes := #[] }
def k9m0 : Method := { name := "<init>", desc := "()V", sig := { parameters := [], returnType := none }, accessFlags := 1, code := some k9c0 }
def k9c1 : Code := { maxStack := 2, maxLocals := 2, code := jdk_78_method_2_code, exceptionTable := #[], attributes := #[] }
def k9m1 : Method := { name := "<init>", desc := "(Ljava/lang/String;)V", sig := { parameters := [(.object "java/lang/String")], returnType := none }, accessFlags := 1, code := some k9c1 }
def k9c2 : Code := { maxStack := 1, maxLocals := 1, code := jdk_78_method_6_code, exceptionTable := #[], attributes := #[] }
def k9m2 : Method := { name := "getMessage", desc := "()Ljava/lang/String;", sig := { parameters := [], returnType := some (.object "java/lang/String") }, accessFlags := 1, code := some k9c2 }
def k9c3 : Code := { maxStack := 2, maxLocals := 1, code := ⟨#[0x2a, 0xb4, 0x00, 0x11, 0xc7, 0x00, 0x0a, 0x2a, 0xb4, 0x00, 0xc6, 0xc6, 0x00, 0x10, 0x2a, 0x03, 0xb6, 0x00, 0xca, 0x57, 0x2a, 0xb2, 0x00, 0x0d, 0xb5, 0x00, 0x11, 0x2a, 0xb0]⟩, exceptionTable := #[], attributes := #[] }
def k9m3 : Method := { name := "fillInStackTrace", desc := "()Ljava/lang/Throwable;", sig := { parameters := [], returnType := some (.object "java/lang/Throwable") }, accessFlags := 33, code := some k9c3 }
def k9m4 : Method := { name := "fillInStackTrace", desc := "(I)Ljava/lang/Throwable;", sig := { parameters := [.int], returnType := some (.object "java/lang/Throwable") }, accessFlags := 258, code := none }
/-- java/lang/Throwable -/
def k9 : Class := { plain "java/lang/Throwable" (some 0) with
  accessFlags := 33
  interfaces := #[2]
  cf := some (fileOf pool9 8 #[.nestMembers #[193, 93, 101, 269]] #[{ accessFlags := 1, nameIndex := 5, descriptorIndex := 6, attributes := #[] }, { accessFlags := 1, nameIndex := 5, descriptorIndex := 223, attributes := #[] }, { accessFlags := 1, nameIndex := 41, descriptorIndex := 38, attributes := #[] }, { accessFlags := 33, nameIndex := 29, descriptorIndex := 30, attributes := #[] }, { accessFlags := 258, nameIndex := 29, descriptorIndex := 204, attributes := #[] }] 33 2 #[318] #[{ accessFlags := 26, nameIndex := 320, descriptorIndex := 321, attributes := #[] }, { accessFlags := 130, nameIndex := 200, descriptorIndex := 201, attributes := #[] }, { accessFlags := 2, nameIndex := 33, descriptorIndex := 34, attributes := #[] }, { accessFlags := 26, nameIndex := 15, descriptorIndex := 16, attributes := #[] }, { accessFlags := 2, nameIndex := 11, descriptorIndex := 12, attributes := #[] }, { accessFlags := 2, nameIndex := 19, descriptorIndex := 16, attributes := #[] }, { accessFlags := 130, nameIndex := 211, descriptorIndex := 212, attributes := #[] }, { accessFlags := 26, nameIndex := 22, descriptorIndex := 23, attributes := #[] }, { accessFlags := 2, nameIndex := 26, descriptorIndex := 23, attributes := #[] }, { accessFlags := 26, nameIndex := 327, descriptorIndex := 34, attributes := #[] }, { accessFlags := 26, nameIndex := 328, descriptorIndex := 34, attributes := #[] }, { accessFlags := 26, nameIndex := 329, descriptorIndex := 34, attributes := #[] }, { accessFlags := 26, nameIndex := 330, descriptorIndex := 34, attributes := #[] }, { accessFlags := 26, nameIndex := 304, descriptorIndex := 305, attributes := #[] }, { accessFlags := 4120, nameIndex := 165, descriptorIndex := 166, attributes := #[] }])
  fields := #[{ name := "serialVersionUID", type := .long, accessFlags := 26, slot := 0, constantValue := 0 }, { name := "backtrace", type := (.object "java/lang/Object"), accessFlags := 130, slot := 0, constantValue := 0 }, { name := "detailMessage", type := (.object "java/lang/String"), accessFlags := 2, slot := 1, constantValue := 0 }, { name := "UNASSIGNED_STACK", type := (.array (.object "java/lang/StackTraceElement")), accessFlags := 26, slot := 1, constantValue := 0 }, { name := "cause", type := (.object "java/lang/Throwable"), accessFlags := 2, slot := 2, constantValue := 0 }, { name := "stackTrace", type := (.array (.object "java/lang/StackTraceElement")), accessFlags := 2, slot := 3, constantValue := 0 }, { name := "depth", type := .int, accessFlags := 130, slot := 4, constantValue := 0 }, { name := "SUPPRESSED_SENTINEL", type := (.object "java/util/List"), accessFlags := 26, slot := 2, constantValue := 0 }, { name := "suppressedExceptions", type := (.object "java/util/List"), accessFlags := 2, slot := 5, constantValue := 0 }, { name := "NULL_CAUSE_MESSAGE", type := (.object "java/lang/String"), accessFlags := 26, slot := 3, constantValue := 0 }, { name := "SELF_SUPPRESSION_MESSAGE", type := (.object "java/lang/String"), accessFlags := 26, slot := 4, constantValue := 0 }, { name := "CAUSE_CAPTION", type := (.object "java/lang/String"), accessFlags := 26, slot := 5, constantValue := 0 }, { name := "SUPPRESSED_CAPTION", type := (.object "java/lang/String"), accessFlags := 26, slot := 6, constantValue := 0 }, { name := "EMPTY_THROWABLE_ARRAY", type := (.array (.object "java/lang/Throwable")), accessFlags := 26, slot := 7, constantValue := 0 }, { name := "$assertionsDisabled", type := .boolean, accessFlags := 4120, slot := 8, constantValue := 0 }]
  methods := #[k9m0, k9m1, k9m2, k9m3, k9m4]
  instanceTypes := #[(.object "java/lang/Object"), (.object "java/lang/String"), (.object "java/lang/Throwable"), (.array (.object "java/lang/StackTraceElement")), .int, (.object "java/util/List")]
  staticTypes := #[.long, (.array (.object "java/lang/StackTraceElement")), (.object "java/util/List"), (.object "java/lang/String"), (.object "java/lang/String"), (.object "java/lang/String"), (.object "java/lang/String"), (.array (.object "java/lang/Throwable")), .boolean]
  resolved := Array.replicate 404 none
  statics := some 1 }

def pool10 : Array CpInfo := pool [(2, .class_ 4), (1, u "java/lang/Throwable"), (0, u "<init>"), (0, u "()V"), (0, .methodref 2 8), (0, .nameAndType 5 9), (0, u "(Ljava/lang/String;)V"), (9, .class_ 20), (0, u "java/lang/Exception"), (0, u "serialVersionUID"), (0, u "J")] 17

def k10m0 : Method := { name := "<init>", desc := "()V", sig := { parameters := [], returnType := none }, accessFlags := 1, code := none }
def k10c1 : Code := { maxStack := 2, maxLocals := 2, code := jdk_59_method_2_code, exceptionTable := #[], attributes := #[] }
def k10m1 : Method := { name := "<init>", desc := "(Ljava/lang/String;)V", sig := { parameters := [(.object "java/lang/String")], returnType := none }, accessFlags := 1, code := some k10c1 }
/-- java/lang/Exception -/
def k10 : Class := { plain "java/lang/Exception" (some 9) with
  accessFlags := 33
  interfaces := #[]
  cf := some (fileOf pool10 19 #[] #[{ accessFlags := 1, nameIndex := 5, descriptorIndex := 6, attributes := #[] }, { accessFlags := 1, nameIndex := 5, descriptorIndex := 9, attributes := #[] }] 33 2 #[] #[{ accessFlags := 24, nameIndex := 21, descriptorIndex := 22, attributes := #[] }])
  fields := #[{ name := "serialVersionUID", type := .long, accessFlags := 24, slot := 0, constantValue := 0 }]
  methods := #[k10m0, k10m1]
  instanceTypes := #[(.object "java/lang/Object"), (.object "java/lang/String"), (.object "java/lang/Throwable"), (.array (.object "java/lang/StackTraceElement")), .int, (.object "java/util/List")]
  staticTypes := #[.long]
  resolved := Array.replicate 40 none
  statics := none }

def pool11 : Array CpInfo := pool [(2, .class_ 4), (1, u "java/lang/Exception"), (0, u "<init>"), (0, u "()V"), (0, .methodref 2 8), (0, .nameAndType 5 9), (0, u "(Ljava/lang/String;)V"), (9, .class_ 20), (0, u "java/lang/RuntimeException"), (0, u "serialVersionUID"), (0, u "J")] 17

def k11m0 : Method := { name := "<init>", desc := "()V", sig := { parameters := [], returnType := none }, accessFlags := 1, code := none }
def k11c1 : Code := { maxStack := 2, maxLocals := 2, code := jdk_58_method_2_code, exceptionTable := #[], attributes := #[] }
def k11m1 : Method := { name := "<init>", desc := "(Ljava/lang/String;)V", sig := { parameters := [(.object "java/lang/String")], returnType := none }, accessFlags := 1, code := some k11c1 }
/-- java/lang/RuntimeException -/
def k11 : Class := { plain "java/lang/RuntimeException" (some 10) with
  accessFlags := 33
  interfaces := #[]
  cf := some (fileOf pool11 19 #[] #[{ accessFlags := 1, nameIndex := 5, descriptorIndex := 6, attributes := #[] }, { accessFlags := 1, nameIndex := 5, descriptorIndex := 9, attributes := #[] }] 33 2 #[] #[{ accessFlags := 24, nameIndex := 21, descriptorIndex := 22, attributes := #[] }])
  fields := #[{ name := "serialVersionUID", type := .long, accessFlags := 24, slot := 0, constantValue := 0 }]
  methods := #[k11m0, k11m1]
  instanceTypes := #[(.object "java/lang/Object"), (.object "java/lang/String"), (.object "java/lang/Throwable"), (.array (.object "java/lang/StackTraceElement")), .int, (.object "java/util/List")]
  staticTypes := #[.long]
  resolved := Array.replicate 40 none
  statics := none }

def pool12 : Array CpInfo := pool [(1, .methodref 2 3), (0, .class_ 4), (0, .nameAndType 5 6), (0, u "java/lang/RuntimeException"), (0, u "<init>"), (0, u "(Ljava/lang/String;)V"), (0, .fieldref 8 9), (0, .class_ 10), (0, .nameAndType 11 12), (0, u "com/example/plain_hub/plainhub/HubException"), (0, u "status"), (0, u "I"), (0, .fieldref 8 14), (0, .nameAndType 15 12), (0, u "code"), (0, .methodref 8 17), (0, .nameAndType 5 18), (0, u "(IILjava/lang/String;)V"), (2, .class_ 22), (0, u "java/lang/StringBuilder"), (0, .methodref 21 24), (0, .nameAndType 5 25), (0, u "()V"), (0, .string 27), (0, u "Insufficient permissions: "), (0, .methodref 21 29), (0, .nameAndType 30 31), (0, u "append"), (0, u "(Ljava/lang/String;)Ljava/lang/StringBuilder;"), (0, .methodref 21 33), (0, .nameAndType 34 35), (0, u "toString"), (0, u "()Ljava/lang/String;"), (7, u "serialVersionUID"), (0, u "J"), (6, u "(Ljava/lang/String;)Lcom/example/plain_hub/plainhub/HubException;"), (2, u "forbidden"), (5, u "()I")] 2

def k12c0 : Code := { maxStack := 2, maxLocals := 4, code := prog_2_method_1_code, exceptionTable := #[], attributes := #[] }
def k12m0 : Method := { name := "<init>", desc := "(IILjava/lang/String;)V", sig := { parameters := [.int, .int, (.object "java/lang/String")], returnType := none }, accessFlags := 1, code := some k12c0 }
def k12c1 : Code := { maxStack := 6, maxLocals := 1, code := prog_2_method_4_code, exceptionTable := #[], attributes := #[] }
def k12m1 : Method := { name := "forbidden", desc := "(Ljava/lang/String;)Lcom/example/plain_hub/plainhub/HubException;", sig := { parameters := [(.object "java/lang/String")], returnType := some (.object "com/example/plain_hub/plainhub/HubException") }, accessFlags := 9, code := some k12c1 }
def k12c2 : Code := { maxStack := 1, maxLocals := 1, code := prog_2_method_8_code, exceptionTable := #[], attributes := #[] }
def k12m2 : Method := { name := "status", desc := "()I", sig := { parameters := [], returnType := some .int }, accessFlags := 1, code := some k12c2 }
def k12c3 : Code := { maxStack := 1, maxLocals := 1, code := prog_2_method_9_code, exceptionTable := #[], attributes := #[] }
def k12m3 : Method := { name := "code", desc := "()I", sig := { parameters := [], returnType := some .int }, accessFlags := 1, code := some k12c3 }
/-- com/example/plain_hub/plainhub/HubException -/
def k12 : Class := { plain "com/example/plain_hub/plainhub/HubException" (some 11) with
  accessFlags := 33
  interfaces := #[]
  cf := some (fileOf pool12 8 #[] #[{ accessFlags := 1, nameIndex := 5, descriptorIndex := 18, attributes := #[] }, { accessFlags := 9, nameIndex := 54, descriptorIndex := 51, attributes := #[] }, { accessFlags := 1, nameIndex := 11, descriptorIndex := 60, attributes := #[] }, { accessFlags := 1, nameIndex := 15, descriptorIndex := 60, attributes := #[] }] 33 2 #[] #[{ accessFlags := 26, nameIndex := 43, descriptorIndex := 44, attributes := #[] }, { accessFlags := 18, nameIndex := 11, descriptorIndex := 12, attributes := #[] }, { accessFlags := 18, nameIndex := 15, descriptorIndex := 12, attributes := #[] }])
  fields := #[{ name := "serialVersionUID", type := .long, accessFlags := 26, slot := 0, constantValue := 0 }, { name := "status", type := .int, accessFlags := 18, slot := 6, constantValue := 0 }, { name := "code", type := .int, accessFlags := 18, slot := 7, constantValue := 0 }]
  methods := #[k12m0, k12m1, k12m2, k12m3]
  instanceTypes := #[(.object "java/lang/Object"), (.object "java/lang/String"), (.object "java/lang/Throwable"), (.array (.object "java/lang/StackTraceElement")), .int, (.object "java/util/List"), .int, .int]
  staticTypes := #[.long]
  resolved := Array.replicate 63 none
  statics := none }

def pool13 : Array CpInfo := pool [(1, .class_ 2), (0, u "java/lang/Appendable"), (0, .class_ 4), (0, u "java/lang/Object")] 9

/-- java/lang/Appendable -/
def k13 : Class := { plain "java/lang/Appendable" (some 0) with
  accessFlags := 1537
  interfaces := #[]
  cf := some (fileOf pool13 1 #[] #[] 1537 3 #[] #[])
  fields := #[]
  methods := #[]
  instanceTypes := #[]
  staticTypes := #[]
  resolved := Array.replicate 14 none
  statics := none }

def pool14 : Array CpInfo := pool [(1, .class_ 2), (0, u "java/lang/String"), (0, .methodref 4 5), (0, .class_ 6), (0, .nameAndType 7 8), (0, u "java/lang/Object"), (0, u "<init>"), (0, u "()V"), (1, .class_ 12), (1, u "java/lang/AbstractStringBuilder"), (0, u "EMPTYVALUE"), (0, u "[B"), (0, .fieldref 10 16), (0, .nameAndType 17 14), (0, u "value"), (0, .fieldref 1 19), (0, .nameAndType 20 21), (0, u "COMPACT_STRINGS"), (0, u "Z"), (0, .fieldref 10 23), (0, .nameAndType 24 25), (0, u "coder"), (0, u "B"), (6, .methodref 1 33), (0, .nameAndType 34 35), (0, u "length"), (0, u "()I"), (3, .integer 2147483647), (0, .methodref 1 41), (0, .nameAndType 24 42), (0, u "()B"), (2, u "append"), (0, u "(Ljava/lang/String;)Ljava/lang/AbstractStringBuilder;"), (1, .class_ 49), (0, u "java/lang/CharSequence"), (19, u "(Ljava/lang/String;)V"), (5, u "maybeLatin1"), (3, .fieldref 10 80), (0, .nameAndType 81 82), (0, u "count"), (0, u "I"), (2, u "isLatin1"), (0, u "()Z"), (13, .methodref 10 101), (0, .nameAndType 102 103), (0, u "ensureCapacityInternal"), (0, u "(I)V"), (0, .methodref 10 105), (0, .nameAndType 106 107), (0, u "newCapacity"), (0, u "(I)I"), (0, .methodref 109 110), (0, .class_ 111), (0, .nameAndType 112 113), (0, u "java/util/Arrays"), (0, u "copyOf"), (0, u "([BI)[B"), (0, .methodref 115 116), (0, .class_ 117), (0, .nameAndType 118 119), (0, u "jdk/internal/util/ArraysSupport"), (0, u "newLength"), (0, u "(III)I"), (88, .methodref 10 209), (0, .nameAndType 210 211), (0, u "putStringAt"), (0, u "(ILjava/lang/String;)V"), (5, u "inflateIfNeededFor"), (2, .nameAndType 221 222), (0, u "getBytes"), (0, u "([BIB)V"), (174, .methodref 10 398), (0, .nameAndType 217 69), (0, .methodref 1 220), (3, u "()[B"), (40, .class_ 445), (0, u "java/lang/Appendable"), (106, u "getValue")] 56

def k14m0 : Method := { name := "<init>", desc := "()V", sig := { parameters := [], returnType := none }, accessFlags := 0, code := none }
def k14c1 : Code := { maxStack := 2, maxLocals := 2, code := jdk_68_method_2_code, exceptionTable := #[], attributes := #[] }
def k14m1 : Method := { name := "<init>", desc := "(I)V", sig := { parameters := [.int], returnType := none }, accessFlags := 0, code := some k14c1 }
def k14c2 : Code := { maxStack := 1, maxLocals := 1, code := jdk_68_method_6_code, exceptionTable := #[], attributes := #[] }
def k14m2 : Method := { name := "length", desc := "()I", sig := { parameters := [], returnType := some .int }, accessFlags := 1, code := some k14c2 }
def k14c3 : Code := { maxStack := 4, maxLocals := 3, code := jdk_68_method_9_code, exceptionTable := #[], attributes := #[] }
def k14m3 : Method := { name := "ensureCapacityInternal", desc := "(I)V", sig := { parameters := [.int], returnType := none }, accessFlags := 2, code := some k14c3 }
def k14c4 : Code := { maxStack := 5, maxLocals := 6, code := jdk_68_method_10_code, exceptionTable := #[], attributes := #[] }
def k14m4 : Method := { name := "newCapacity", desc := "(I)I", sig := { parameters := [.int], returnType := some .int }, accessFlags := 2, code := some k14c4 }
def k14c5 : Code := { maxStack := 3, maxLocals := 3, code := jdk_68_method_22_code, exceptionTable := #[], attributes := #[] }
def k14m5 : Method := { name := "append", desc := "(Ljava/lang/String;)Ljava/lang/AbstractStringBuilder;", sig := { parameters := [(.object "java/lang/String")], returnType := some (.object "java/lang/AbstractStringBuilder") }, accessFlags := 1, code := some k14c5 }
def k14c6 : Code := { maxStack := 1, maxLocals := 1, code := jdk_68_method_64_code, exceptionTable := #[], attributes := #[] }
def k14m6 : Method := { name := "getValue", desc := "()[B", sig := { parameters := [], returnType := some (.array .byte) }, accessFlags := 16, code := some k14c6 }
def k14c7 : Code := { maxStack := 1, maxLocals := 1, code := jdk_68_method_68_code, exceptionTable := #[], attributes := #[] }
def k14m7 : Method := { name := "isLatin1", desc := "()Z", sig := { parameters := [], returnType := some .boolean }, accessFlags := 16, code := some k14c7 }
def k14c8 : Code := { maxStack := 2, maxLocals := 2, code := jdk_68_method_71_code, exceptionTable := #[], attributes := #[] }
def k14m8 : Method := { name := "inflateIfNeededFor", desc := "(Ljava/lang/String;)V", sig := { parameters := [(.object "java/lang/String")], returnType := none }, accessFlags := 2, code := some k14c8 }
def k14c9 : Code := { maxStack := 4, maxLocals := 3, code := jdk_68_method_73_code, exceptionTable := #[], attributes := #[] }
def k14m9 : Method := { name := "putStringAt", desc := "(ILjava/lang/String;)V", sig := { parameters := [.int, (.object "java/lang/String")], returnType := none }, accessFlags := 2, code := some k14c9 }
/-- java/lang/AbstractStringBuilder -/
def k14 : Class := { plain "java/lang/AbstractStringBuilder" (some 0) with
  accessFlags := 1056
  interfaces := #[13, 4]
  cf := some (fileOf pool14 10 #[] #[{ accessFlags := 0, nameIndex := 7, descriptorIndex := 8, attributes := #[] }, { accessFlags := 0, nameIndex := 7, descriptorIndex := 103, attributes := #[] }, { accessFlags := 1, nameIndex := 34, descriptorIndex := 35, attributes := #[] }, { accessFlags := 2, nameIndex := 102, descriptorIndex := 103, attributes := #[] }, { accessFlags := 2, nameIndex := 106, descriptorIndex := 107, attributes := #[] }, { accessFlags := 1, nameIndex := 45, descriptorIndex := 46, attributes := #[] }, { accessFlags := 16, nameIndex := 552, descriptorIndex := 403, attributes := #[] }, { accessFlags := 16, nameIndex := 85, descriptorIndex := 86, attributes := #[] }, { accessFlags := 2, nameIndex := 217, descriptorIndex := 69, attributes := #[] }, { accessFlags := 2, nameIndex := 210, descriptorIndex := 211, attributes := #[] }] 1056 4 #[444, 48] #[{ accessFlags := 0, nameIndex := 17, descriptorIndex := 14, attributes := #[] }, { accessFlags := 0, nameIndex := 24, descriptorIndex := 25, attributes := #[] }, { accessFlags := 0, nameIndex := 75, descriptorIndex := 21, attributes := #[] }, { accessFlags := 0, nameIndex := 81, descriptorIndex := 82, attributes := #[] }, { accessFlags := 26, nameIndex := 13, descriptorIndex := 14, attributes := #[] }])
  fields := #[{ name := "value", type := (.array .byte), accessFlags := 0, slot := 0, constantValue := 0 }, { name := "coder", type := .byte, accessFlags := 0, slot := 1, constantValue := 0 }, { name := "maybeLatin1", type := .boolean, accessFlags := 0, slot := 2, constantValue := 0 }, { name := "count", type := .int, accessFlags := 0, slot := 3, constantValue := 0 }, { name := "EMPTYVALUE", type := (.array .byte), accessFlags := 26, slot := 0, constantValue := 0 }]
  methods := #[k14m0, k14m1, k14m2, k14m3, k14m4, k14m5, k14m6, k14m7, k14m8, k14m9]
  instanceTypes := #[(.array .byte), .byte, .boolean, .int]
  staticTypes := #[(.array .byte)]
  resolved := Array.replicate 609 none
  statics := none }

def pool15 : Array CpInfo := pool [(1, .methodref 2 3), (0, .class_ 4), (0, .nameAndType 5 6), (0, u "java/lang/AbstractStringBuilder"), (0, u "<init>"), (0, u "(I)V"), (11, .class_ 20), (1, u "java/lang/String"), (3, .class_ 26), (1, u "java/lang/StringBuilder"), (0, u "append"), (0, u "(Ljava/lang/String;)Ljava/lang/StringBuilder;"), (0, .methodref 2 30), (0, .nameAndType 27 31), (0, u "(Ljava/lang/String;)Ljava/lang/AbstractStringBuilder;"), (105, .methodref 18 138), (0, .nameAndType 5 139), (0, u "(Ljava/lang/StringBuilder;)V"), (5, u "()V"), (10, u "()I"), (186, .methodref 2 344), (0, .nameAndType 345 156), (0, u "length"), (3, .class_ 350), (0, u "java/lang/Appendable"), (0, .class_ 352), (0, u "java/io/Serializable"), (0, .class_ 354), (0, u "java/lang/Comparable"), (0, .class_ 356), (0, u "java/lang/CharSequence"), (0, u "serialVersionUID"), (0, u "J"), (40, u "toString"), (0, u "()Ljava/lang/String;")] 21

def k15c0 : Code := { maxStack := 2, maxLocals := 1, code := jdk_67_method_1_code, exceptionTable := #[], attributes := #[] }
def k15m0 : Method := { name := "<init>", desc := "()V", sig := { parameters := [], returnType := none }, accessFlags := 1, code := some k15c0 }
def k15c1 : Code := { maxStack := 2, maxLocals := 2, code := jdk_67_method_7_code, exceptionTable := #[], attributes := #[] }
def k15m1 : Method := { name := "append", desc := "(Ljava/lang/String;)Ljava/lang/StringBuilder;", sig := { parameters := [(.object "java/lang/String")], returnType := some (.object "java/lang/StringBuilder") }, accessFlags := 1, code := some k15c1 }
def k15c2 : Code := { maxStack := 3, maxLocals := 1, code := jdk_67_method_42_code, exceptionTable := #[], attributes := #[] }
def k15m2 : Method := { name := "toString", desc := "()Ljava/lang/String;", sig := { parameters := [], returnType := some (.object "java/lang/String") }, accessFlags := 1, code := some k15c2 }
def k15c3 : Code := { maxStack := 1, maxLocals := 1, code := jdk_67_method_93_code, exceptionTable := #[], attributes := #[] }
def k15m3 : Method := { name := "length", desc := "()I", sig := { parameters := [], returnType := some .int }, accessFlags := 4161, code := some k15c3 }
/-- java/lang/StringBuilder -/
def k15 : Class := { plain "java/lang/StringBuilder" (some 14) with
  accessFlags := 49
  interfaces := #[13, 2, 3, 4]
  cf := some (fileOf pool15 24 #[] #[{ accessFlags := 1, nameIndex := 5, descriptorIndex := 145, attributes := #[] }, { accessFlags := 1, nameIndex := 27, descriptorIndex := 28, attributes := #[] }, { accessFlags := 1, nameIndex := 399, descriptorIndex := 400, attributes := #[] }, { accessFlags := 4161, nameIndex := 345, descriptorIndex := 156, attributes := #[] }] 49 2 #[349, 351, 353, 355] #[{ accessFlags := 24, nameIndex := 357, descriptorIndex := 358, attributes := #[] }])
  fields := #[{ name := "serialVersionUID", type := .long, accessFlags := 24, slot := 0, constantValue := 0 }]
  methods := #[k15m0, k15m1, k15m2, k15m3]
  instanceTypes := #[(.array .byte), .byte, .boolean, .int]
  staticTypes := #[.long]
  resolved := Array.replicate 422 none
  statics := none }

def pool16 : Array CpInfo := pool [(9, u "<init>"), (6, .class_ 18), (1, u "java/lang/Object"), (0, u "()V"), (1, .class_ 23), (1, u "jdk/internal/util/ArraysSupport"), (0, u "LOG2_ARRAY_LONG_INDEX_SCALE"), (0, u "I"), (2, u "U"), (0, u "Ljdk/internal/misc/Unsafe;"), (8, u "BIG_ENDIAN"), (0, u "Z"), (8, u "LOG2_BYTE_BIT_SIZE"), (4, u "LOG2_ARRAY_INT_INDEX_SCALE"), (54, u "JLA"), (0, u "Ljdk/internal/access/JavaLangAccess;"), (11, u "LOG2_ARRAY_BOOLEAN_INDEX_SCALE"), (9, u "LOG2_ARRAY_BYTE_INDEX_SCALE"), (5, u "LOG2_ARRAY_CHAR_INDEX_SCALE"), (5, u "LOG2_ARRAY_SHORT_INDEX_SCALE"), (18, u "LOG2_ARRAY_FLOAT_INDEX_SCALE"), (24, u "LOG2_ARRAY_DOUBLE_INDEX_SCALE"), (6, .methodref 195 196), (0, .class_ 197), (0, .nameAndType 198 199), (0, u "java/lang/Math"), (0, u "max"), (0, u "(II)I"), (0, .integer 2147483639), (76, u "T_BOOLEAN"), (2, u "T_CHAR"), (1, u "T_FLOAT"), (1, u "T_DOUBLE"), (1, u "T_BYTE"), (1, u "T_SHORT"), (1, u "T_INT"), (1, u "T_LONG"), (1, u "SOFT_MAX_ARRAY_LENGTH"), (56, u "newLength"), (0, u "(III)I")] 25

def k16m0 : Method := { name := "<init>", desc := "()V", sig := { parameters := [], returnType := none }, accessFlags := 2, code := none }
def k16c1 : Code := { maxStack := 3, maxLocals := 4, code := jdk_48_method_27_code, exceptionTable := #[], attributes := #[] }
def k16m1 : Method := { name := "newLength", desc := "(III)I", sig := { parameters := [.int, .int, .int], returnType := some .int }, accessFlags := 9, code := some k16c1 }
/-- jdk/internal/util/ArraysSupport -/
def k16 : Class := { plain "jdk/internal/util/ArraysSupport" (some 0) with
  accessFlags := 33
  interfaces := #[]
  cf := some (fileOf pool16 21 #[] #[{ accessFlags := 2, nameIndex := 9, descriptorIndex := 19, attributes := #[] }, { accessFlags := 9, nameIndex := 351, descriptorIndex := 352, attributes := #[] }] 33 16 #[] #[{ accessFlags := 24, nameIndex := 28, descriptorIndex := 29, attributes := #[] }, { accessFlags := 26, nameIndex := 38, descriptorIndex := 39, attributes := #[] }, { accessFlags := 25, nameIndex := 121, descriptorIndex := 25, attributes := #[] }, { accessFlags := 25, nameIndex := 131, descriptorIndex := 25, attributes := #[] }, { accessFlags := 25, nameIndex := 137, descriptorIndex := 25, attributes := #[] }, { accessFlags := 25, nameIndex := 143, descriptorIndex := 25, attributes := #[] }, { accessFlags := 25, nameIndex := 53, descriptorIndex := 25, attributes := #[] }, { accessFlags := 25, nameIndex := 24, descriptorIndex := 25, attributes := #[] }, { accessFlags := 25, nameIndex := 162, descriptorIndex := 25, attributes := #[] }, { accessFlags := 25, nameIndex := 187, descriptorIndex := 25, attributes := #[] }, { accessFlags := 26, nameIndex := 48, descriptorIndex := 25, attributes := #[] }, { accessFlags := 25, nameIndex := 277, descriptorIndex := 25, attributes := #[] }, { accessFlags := 25, nameIndex := 280, descriptorIndex := 25, attributes := #[] }, { accessFlags := 25, nameIndex := 282, descriptorIndex := 25, attributes := #[] }, { accessFlags := 25, nameIndex := 284, descriptorIndex := 25, attributes := #[] }, { accessFlags := 25, nameIndex := 286, descriptorIndex := 25, attributes := #[] }, { accessFlags := 25, nameIndex := 288, descriptorIndex := 25, attributes := #[] }, { accessFlags := 25, nameIndex := 290, descriptorIndex := 25, attributes := #[] }, { accessFlags := 25, nameIndex := 292, descriptorIndex := 25, attributes := #[] }, { accessFlags := 26, nameIndex := 108, descriptorIndex := 109, attributes := #[] }, { accessFlags := 25, nameIndex := 294, descriptorIndex := 25, attributes := #[] }])
  fields := #[{ name := "U", type := (.object "jdk/internal/misc/Unsafe"), accessFlags := 24, slot := 0, constantValue := 0 }, { name := "BIG_ENDIAN", type := .boolean, accessFlags := 26, slot := 1, constantValue := 0 }, { name := "LOG2_ARRAY_BOOLEAN_INDEX_SCALE", type := .int, accessFlags := 25, slot := 2, constantValue := 0 }, { name := "LOG2_ARRAY_BYTE_INDEX_SCALE", type := .int, accessFlags := 25, slot := 3, constantValue := 0 }, { name := "LOG2_ARRAY_CHAR_INDEX_SCALE", type := .int, accessFlags := 25, slot := 4, constantValue := 0 }, { name := "LOG2_ARRAY_SHORT_INDEX_SCALE", type := .int, accessFlags := 25, slot := 5, constantValue := 0 }, { name := "LOG2_ARRAY_INT_INDEX_SCALE", type := .int, accessFlags := 25, slot := 6, constantValue := 0 }, { name := "LOG2_ARRAY_LONG_INDEX_SCALE", type := .int, accessFlags := 25, slot := 7, constantValue := 0 }, { name := "LOG2_ARRAY_FLOAT_INDEX_SCALE", type := .int, accessFlags := 25, slot := 8, constantValue := 0 }, { name := "LOG2_ARRAY_DOUBLE_INDEX_SCALE", type := .int, accessFlags := 25, slot := 9, constantValue := 0 }, { name := "LOG2_BYTE_BIT_SIZE", type := .int, accessFlags := 26, slot := 10, constantValue := 0 }, { name := "T_BOOLEAN", type := .int, accessFlags := 25, slot := 11, constantValue := 0 }, { name := "T_CHAR", type := .int, accessFlags := 25, slot := 12, constantValue := 0 }, { name := "T_FLOAT", type := .int, accessFlags := 25, slot := 13, constantValue := 0 }, { name := "T_DOUBLE", type := .int, accessFlags := 25, slot := 14, constantValue := 0 }, { name := "T_BYTE", type := .int, accessFlags := 25, slot := 15, constantValue := 0 }, { name := "T_SHORT", type := .int, accessFlags := 25, slot := 16, constantValue := 0 }, { name := "T_INT", type := .int, accessFlags := 25, slot := 17, constantValue := 0 }, { name := "T_LONG", type := .int, accessFlags := 25, slot := 18, constantValue := 0 }, { name := "JLA", type := (.object "jdk/internal/access/JavaLangAccess"), accessFlags := 26, slot := 19, constantValue := 0 }, { name := "SOFT_MAX_ARRAY_LENGTH", type := .int, accessFlags := 25, slot := 20, constantValue := 0 }]
  methods := #[k16m0, k16m1]
  instanceTypes := #[]
  staticTypes := #[(.object "jdk/internal/misc/Unsafe"), .boolean, .int, .int, .int, .int, .int, .int, .int, .int, .int, .int, .int, .int, .int, .int, .int, .int, .int, (.object "jdk/internal/access/JavaLangAccess"), .int]
  resolved := Array.replicate 378 none
  statics := none }

def pool17 : Array CpInfo := pool [(1, .class_ 2), (0, u "java/lang/Math"), (1, .class_ 6), (1, u "java/lang/Object"), (0, u "<init>"), (0, u "()V"), (89, .class_ 100), (1, u "java/lang/Math$RandomNumberGeneratorHolder"), (71, u "negativeZeroFloatBits"), (0, u "J"), (2, u "negativeZeroDoubleBits"), (21, u "max"), (2, u "min"), (43, u "$assertionsDisabled"), (0, u "Z"), (88, u "(II)I"), (2, u "twoToTheDoubleScaleDown"), (0, u "D"), (4, u "twoToTheDoubleScaleUp"), (9, u "E"), (3, u "PI"), (2, u "TAU"), (2, u "DEGREES_TO_RADIANS"), (0, u "RADIANS_TO_DEGREES")] 94

def k17m0 : Method := { name := "<init>", desc := "()V", sig := { parameters := [], returnType := none }, accessFlags := 2, code := none }
def k17c1 : Code := { maxStack := 2, maxLocals := 2, code := jdk_29_method_65_code, exceptionTable := #[], attributes := #[] }
def k17m1 : Method := { name := "max", desc := "(II)I", sig := { parameters := [.int, .int], returnType := some .int }, accessFlags := 9, code := some k17c1 }
def k17c2 : Code := { maxStack := 2, maxLocals := 2, code := jdk_29_method_69_code, exceptionTable := #[], attributes := #[] }
def k17m2 : Method := { name := "min", desc := "(II)I", sig := { parameters := [.int, .int], returnType := some .int }, accessFlags := 9, code := some k17c2 }
/-- java/lang/Math -/
def k17 : Class := { plain "java/lang/Math" (some 0) with
  accessFlags := 49
  interfaces := #[]
  cf := some (fileOf pool17 1 #[.nestMembers #[98]] #[{ accessFlags := 2, nameIndex := 7, descriptorIndex := 8, attributes := #[] }, { accessFlags := 9, nameIndex := 198, descriptorIndex := 335, attributes := #[] }, { accessFlags := 9, nameIndex := 201, descriptorIndex := 335, attributes := #[] }] 49 4 #[] #[{ accessFlags := 25, nameIndex := 354, descriptorIndex := 339, attributes := #[] }, { accessFlags := 25, nameIndex := 358, descriptorIndex := 339, attributes := #[] }, { accessFlags := 25, nameIndex := 361, descriptorIndex := 339, attributes := #[] }, { accessFlags := 26, nameIndex := 364, descriptorIndex := 339, attributes := #[] }, { accessFlags := 26, nameIndex := 365, descriptorIndex := 339, attributes := #[] }, { accessFlags := 26, nameIndex := 172, descriptorIndex := 173, attributes := #[] }, { accessFlags := 26, nameIndex := 176, descriptorIndex := 173, attributes := #[] }, { accessFlags := 8, nameIndex := 344, descriptorIndex := 339, attributes := #[] }, { accessFlags := 8, nameIndex := 338, descriptorIndex := 339, attributes := #[] }, { accessFlags := 4120, nameIndex := 245, descriptorIndex := 246, attributes := #[] }])
  fields := #[{ name := "E", type := .double, accessFlags := 25, slot := 0, constantValue := 0 }, { name := "PI", type := .double, accessFlags := 25, slot := 1, constantValue := 0 }, { name := "TAU", type := .double, accessFlags := 25, slot := 2, constantValue := 0 }, { name := "DEGREES_TO_RADIANS", type := .double, accessFlags := 26, slot := 3, constantValue := 0 }, { name := "RADIANS_TO_DEGREES", type := .double, accessFlags := 26, slot := 4, constantValue := 0 }, { name := "negativeZeroFloatBits", type := .long, accessFlags := 26, slot := 5, constantValue := 0 }, { name := "negativeZeroDoubleBits", type := .long, accessFlags := 26, slot := 6, constantValue := 0 }, { name := "twoToTheDoubleScaleUp", type := .double, accessFlags := 8, slot := 7, constantValue := 0 }, { name := "twoToTheDoubleScaleDown", type := .double, accessFlags := 8, slot := 8, constantValue := 0 }, { name := "$assertionsDisabled", type := .boolean, accessFlags := 4120, slot := 9, constantValue := 0 }]
  methods := #[k17m0, k17m1, k17m2]
  instanceTypes := #[]
  staticTypes := #[.double, .double, .double, .double, .double, .long, .long, .double, .double, .boolean]
  resolved := Array.replicate 460 none
  statics := none }

def pool18 : Array CpInfo := pool [(2, .class_ 4), (1, u "java/lang/Object"), (0, u "<init>"), (0, u "()V"), (7, .class_ 16), (1, u "java/util/Arrays"), (57, .class_ 76), (1, u "java/util/Arrays$NaturalOrder"), (36, .class_ 115), (1, u "java/util/Arrays$LegacyMergeSort"), (1, u "Z"), (21, u "copyOfRange"), (10, .methodref 151 152), (0, .class_ 153), (0, .nameAndType 154 155), (0, u "java/lang/System"), (0, u "arraycopy"), (0, u "(Ljava/lang/Object;ILjava/lang/Object;II)V"), (146, u "copyOf"), (1, .methodref 305 306), (0, .class_ 307), (0, .nameAndType 308 309), (0, u "java/lang/Math"), (0, u "min"), (0, u "(II)I"), (29, .methodref 14 340), (0, .nameAndType 341 342), (0, u "copyOfRangeByte"), (0, u "([BII)[B"), (0, .methodref 14 344), (0, .nameAndType 345 346), (0, u "checkLength"), (0, u "(II)V"), (28, .class_ 376), (0, u "java/util/Arrays$ArrayList"), (68, u "$assertionsDisabled"), (269, u "MIN_ARRAY_SORT_GRAN"), (0, u "I"), (2, u "INSERTIONSORT_THRESHOLD"), (149, u "([BI)[B"), (105, .class_ 976), (0, u "java/util/Arrays$ArrayItr")] 52

def k18m0 : Method := { name := "<init>", desc := "()V", sig := { parameters := [], returnType := none }, accessFlags := 2, code := none }
def k18c1 : Code := { maxStack := 6, maxLocals := 3, code := jdk_65_method_121_code, exceptionTable := #[], attributes := #[] }
def k18m1 : Method := { name := "copyOf", desc := "([BI)[B", sig := { parameters := [(.array .byte), .int], returnType := some (.array .byte) }, accessFlags := 9, code := some k18c1 }
def k18c2 : Code := { maxStack := 4, maxLocals := 2, code := jdk_65_method_131_code, exceptionTable := #[], attributes := #[] }
def k18m2 : Method := { name := "checkLength", desc := "(II)V", sig := { parameters := [.int, .int], returnType := none }, accessFlags := 10, code := some k18c2 }
def k18c3 : Code := { maxStack := 3, maxLocals := 3, code := jdk_65_method_132_code, exceptionTable := #[], attributes := #[] }
def k18m3 : Method := { name := "copyOfRange", desc := "([BII)[B", sig := { parameters := [(.array .byte), .int, .int], returnType := some (.array .byte) }, accessFlags := 9, code := some k18c3 }
def k18c4 : Code := { maxStack := 6, maxLocals := 5, code := jdk_65_method_133_code, exceptionTable := #[], attributes := #[] }
def k18m4 : Method := { name := "copyOfRangeByte", desc := "([BII)[B", sig := { parameters := [(.array .byte), .int, .int], returnType := some (.array .byte) }, accessFlags := 10, code := some k18c4 }
/-- java/util/Arrays -/
def k18 : Class := { plain "java/util/Arrays" (some 0) with
  accessFlags := 49
  interfaces := #[]
  cf := some (fileOf pool18 14 #[.nestMembers #[975, 375, 113, 74]] #[{ accessFlags := 2, nameIndex := 5, descriptorIndex := 6, attributes := #[] }, { accessFlags := 9, nameIndex := 302, descriptorIndex := 869, attributes := #[] }, { accessFlags := 10, nameIndex := 345, descriptorIndex := 346, attributes := #[] }, { accessFlags := 9, nameIndex := 139, descriptorIndex := 342, attributes := #[] }, { accessFlags := 10, nameIndex := 341, descriptorIndex := 342, attributes := #[] }] 49 2 #[] #[{ accessFlags := 26, nameIndex := 715, descriptorIndex := 716, attributes := #[] }, { accessFlags := 26, nameIndex := 719, descriptorIndex := 716, attributes := #[] }, { accessFlags := 4120, nameIndex := 445, descriptorIndex := 117, attributes := #[] }])
  fields := #[{ name := "MIN_ARRAY_SORT_GRAN", type := .int, accessFlags := 26, slot := 0, constantValue := 0 }, { name := "INSERTIONSORT_THRESHOLD", type := .int, accessFlags := 26, slot := 1, constantValue := 0 }, { name := "$assertionsDisabled", type := .boolean, accessFlags := 4120, slot := 2, constantValue := 0 }]
  methods := #[k18m0, k18m1, k18m2, k18m3, k18m4]
  instanceTypes := #[]
  staticTypes := #[.int, .int, .boolean]
  resolved := Array.replicate 1029 none
  statics := none }

def pool19 : Array CpInfo := pool [(2, .class_ 4), (1, u "java/lang/Object"), (0, u "<init>"), (0, u "()V"), (1, .class_ 10), (1, u "java/lang/System"), (0, u "allowSecurityManager"), (0, u "I"), (16, u "cons"), (0, u "Ljava/io/Console;"), (77, .class_ 110), (1, u "java/lang/System$CallersHolder"), (43, u "initialErrStream"), (0, u "Ljava/io/PrintStream;"), (19, u "security"), (0, u "Ljava/lang/SecurityManager;"), (31, .class_ 209), (0, u "java/lang/System$1"), (7, u "props"), (0, u "Ljava/util/Properties;"), (2, u "lineSeparator"), (0, u "Ljava/lang/String;"), (96, .class_ 321), (1, u "java/lang/System$LoggerFinder"), (5, .class_ 328), (0, u "java/lang/System$Logger"), (67, u "err"), (2, u "out"), (91, u "notSupportedJnuEncoding"), (15, u "in"), (17, u "initialIn"), (0, u "Ljava/io/InputStream;"), (35, u "bootLayer"), (0, u "Ljava/lang/ModuleLayer;"), (99, .class_ 664), (0, u "java/lang/System$2"), (9, u "NEVER"), (2, u "MAYBE"), (49, u "arraycopy"), (0, u "(Ljava/lang/Object;ILjava/lang/Object;II)V"), (72, .class_ 802), (0, u "java/lang/System$Logger$Level")] 31

def k19m0 : Method := { name := "<init>", desc := "()V", sig := { parameters := [], returnType := none }, accessFlags := 2, code := none }
def k19m1 : Method := { name := "arraycopy", desc := "(Ljava/lang/Object;ILjava/lang/Object;II)V", sig := { parameters := [(.object "java/lang/Object"), .int, (.object "java/lang/Object"), .int, .int], returnType := none }, accessFlags := 265, code := none }
/-- java/lang/System -/
def k19 : Class := { plain "java/lang/System" (some 0) with
  accessFlags := 49
  interfaces := #[]
  cf := some (fileOf pool19 8 #[.nestMembers #[319, 327, 801, 108, 663, 208]] #[{ accessFlags := 2, nameIndex := 5, descriptorIndex := 6, attributes := #[] }, { accessFlags := 265, nameIndex := 727, descriptorIndex := 728, attributes := #[] }] 49 2 #[] #[{ accessFlags := 25, nameIndex := 507, descriptorIndex := 526, attributes := #[] }, { accessFlags := 25, nameIndex := 399, descriptorIndex := 155, attributes := #[] }, { accessFlags := 25, nameIndex := 396, descriptorIndex := 155, attributes := #[] }, { accessFlags := 10, nameIndex := 525, descriptorIndex := 526, attributes := #[] }, { accessFlags := 26, nameIndex := 674, descriptorIndex := 12, attributes := #[] }, { accessFlags := 26, nameIndex := 677, descriptorIndex := 12, attributes := #[] }, { accessFlags := 10, nameIndex := 11, descriptorIndex := 12, attributes := #[] }, { accessFlags := 74, nameIndex := 175, descriptorIndex := 176, attributes := #[] }, { accessFlags := 10, nameIndex := 491, descriptorIndex := 222, attributes := #[] }, { accessFlags := 74, nameIndex := 29, descriptorIndex := 30, attributes := #[] }, { accessFlags := 74, nameIndex := 154, descriptorIndex := 155, attributes := #[] }, { accessFlags := 10, nameIndex := 217, descriptorIndex := 218, attributes := #[] }, { accessFlags := 10, nameIndex := 221, descriptorIndex := 222, attributes := #[] }, { accessFlags := 8, nameIndex := 562, descriptorIndex := 563, attributes := #[] }])
  fields := #[{ name := "in", type := (.object "java/io/InputStream"), accessFlags := 25, slot := 0, constantValue := 0 }, { name := "out", type := (.object "java/io/PrintStream"), accessFlags := 25, slot := 1, constantValue := 0 }, { name := "err", type := (.object "java/io/PrintStream"), accessFlags := 25, slot := 2, constantValue := 0 }, { name := "initialIn", type := (.object "java/io/InputStream"), accessFlags := 10, slot := 3, constantValue := 0 }, { name := "NEVER", type := .int, accessFlags := 26, slot := 4, constantValue := 0 }, { name := "MAYBE", type := .int, accessFlags := 26, slot := 5, constantValue := 0 }, { name := "allowSecurityManager", type := .int, accessFlags := 10, slot := 6, constantValue := 0 }, { name := "security", type := (.object "java/lang/SecurityManager"), accessFlags := 74, slot := 7, constantValue := 0 }, { name := "notSupportedJnuEncoding", type := (.object "java/lang/String"), accessFlags := 10, slot := 8, constantValue := 0 }, { name := "cons", type := (.object "java/io/Console"), accessFlags := 74, slot := 9, constantValue := 0 }, { name := "initialErrStream", type := (.object "java/io/PrintStream"), accessFlags := 74, slot := 10, constantValue := 0 }, { name := "props", type := (.object "java/util/Properties"), accessFlags := 10, slot := 11, constantValue := 0 }, { name := "lineSeparator", type := (.object "java/lang/String"), accessFlags := 10, slot := 12, constantValue := 0 }, { name := "bootLayer", type := (.object "java/lang/ModuleLayer"), accessFlags := 8, slot := 13, constantValue := 0 }]
  methods := #[k19m0, k19m1]
  instanceTypes := #[]
  staticTypes := #[(.object "java/io/InputStream"), (.object "java/io/PrintStream"), (.object "java/io/PrintStream"), (.object "java/io/InputStream"), .int, .int, .int, (.object "java/lang/SecurityManager"), (.object "java/lang/String"), (.object "java/io/Console"), (.object "java/io/PrintStream"), (.object "java/util/Properties"), (.object "java/lang/String"), (.object "java/lang/ModuleLayer")]
  resolved := Array.replicate 834 none
  statics := none }

def pool20 : Array CpInfo := pool [(4, .class_ 6), (1, u "java/lang/Object"), (0, u "<init>"), (0, u "()V"), (5, .class_ 16), (1, u "java/lang/StringLatin1"), (104, u "$assertionsDisabled"), (0, u "Z"), (98, .class_ 223), (1, u "java/lang/StringLatin1$LinesSpliterator"), (57, u "equals"), (0, u "([B[B)Z"), (107, .class_ 391), (0, u "java/lang/StringLatin1$CharsSpliterator")] 3

def k20m0 : Method := { name := "<init>", desc := "()V", sig := { parameters := [], returnType := none }, accessFlags := 0, code := none }
def k20c1 : Code := { maxStack := 3, maxLocals := 3, code := jdk_43_method_13_code, exceptionTable := #[], attributes := #[] }
def k20m1 : Method := { name := "equals", desc := "([B[B)Z", sig := { parameters := [(.array .byte), (.array .byte)], returnType := some .boolean }, accessFlags := 9, code := some k20c1 }
/-- java/lang/StringLatin1 -/
def k20 : Class := { plain "java/lang/StringLatin1" (some 0) with
  accessFlags := 48
  interfaces := #[]
  cf := some (fileOf pool20 14 #[.nestMembers #[390, 221]] #[{ accessFlags := 0, nameIndex := 7, descriptorIndex := 8, attributes := #[] }, { accessFlags := 9, nameIndex := 281, descriptorIndex := 282, attributes := #[] }] 48 4 #[] #[{ accessFlags := 4120, nameIndex := 121, descriptorIndex := 122, attributes := #[] }])
  fields := #[{ name := "$assertionsDisabled", type := .boolean, accessFlags := 4120, slot := 0, constantValue := 0 }]
  methods := #[k20m0, k20m1]
  instanceTypes := #[]
  staticTypes := #[.boolean]
  resolved := Array.replicate 395 none
  statics := none }

def pool21 : Array CpInfo := pool [(2, .class_ 4), (1, u "java/lang/Object"), (0, u "<init>"), (0, u "()V"), (17, .class_ 26), (1, u "jdk/internal/util/Preconditions"), (28, .class_ 56), (0, u "jdk/internal/util/Preconditions$4"), (57, .class_ 115), (0, u "jdk/internal/util/Preconditions$1"), (7, u "SIOOBE_FORMATTER"), (0, u "Ljava/util/function/BiFunction;"), (0, .class_ 126), (0, u "jdk/internal/util/Preconditions$2"), (3, u "AIOOBE_FORMATTER"), (0, .class_ 132), (0, u "jdk/internal/util/Preconditions$3"), (3, u "IOOBE_FORMATTER")] 57

def k21m0 : Method := { name := "<init>", desc := "()V", sig := { parameters := [], returnType := none }, accessFlags := 1, code := none }
/-- jdk/internal/util/Preconditions -/
def k21 : Class := { plain "jdk/internal/util/Preconditions" (some 0) with
  accessFlags := 33
  interfaces := #[]
  cf := some (fileOf pool21 24 #[.nestMembers #[55, 131, 125, 114]] #[{ accessFlags := 1, nameIndex := 5, descriptorIndex := 6, attributes := #[] }] 33 2 #[] #[{ accessFlags := 25, nameIndex := 123, descriptorIndex := 124, attributes := #[] }, { accessFlags := 25, nameIndex := 130, descriptorIndex := 124, attributes := #[] }, { accessFlags := 25, nameIndex := 136, descriptorIndex := 124, attributes := #[] }])
  fields := #[{ name := "SIOOBE_FORMATTER", type := (.object "java/util/function/BiFunction"), accessFlags := 25, slot := 0, constantValue := 0 }, { name := "AIOOBE_FORMATTER", type := (.object "java/util/function/BiFunction"), accessFlags := 25, slot := 1, constantValue := 0 }, { name := "IOOBE_FORMATTER", type := (.object "java/util/function/BiFunction"), accessFlags := 25, slot := 2, constantValue := 0 }]
  methods := #[k21m0]
  instanceTypes := #[]
  staticTypes := #[(.object "java/util/function/BiFunction"), (.object "java/util/function/BiFunction"), (.object "java/util/function/BiFunction")]
  resolved := Array.replicate 194 none
  statics := some 2 }

def pool22 : Array CpInfo := pool [(2, .class_ 4), (1, u "java/lang/Object"), (0, u "<init>"), (0, u "()V"), (12, .class_ 20), (0, u "java/util/Collections"), (63, u "r"), (0, u "Ljava/util/Random;"), (80, .class_ 167), (0, u "java/util/Collections$UnmodifiableCollection"), (6, .class_ 175), (0, u "java/util/Collections$UnmodifiableSequencedCollection"), (6, .class_ 183), (0, u "java/util/Collections$UnmodifiableSet"), (6, .class_ 191), (0, u "java/util/Collections$UnmodifiableSequencedSet"), (6, .class_ 199), (0, u "java/util/Collections$UnmodifiableSortedSet"), (6, .class_ 207), (0, u "java/util/Collections$UnmodifiableNavigableSet"), (4, .class_ 213), (0, u "java/util/Collections$UnmodifiableList"), (1, .class_ 216), (0, u "java/util/Collections$UnmodifiableRandomAccessList"), (6, .class_ 224), (0, u "java/util/Collections$UnmodifiableMap"), (6, .class_ 232), (0, u "java/util/Collections$UnmodifiableSequencedMap"), (4, .class_ 238), (0, u "java/util/Collections$UnmodifiableSortedMap"), (6, .class_ 246), (0, u "java/util/Collections$UnmodifiableNavigableMap"), (3, .class_ 251), (0, u "java/util/Collections$SynchronizedCollection"), (4, .class_ 257), (0, u "java/util/Collections$SynchronizedSet"), (4, .class_ 263), (0, u "java/util/Collections$SynchronizedSortedSet"), (1, .class_ 266), (0, u "java/util/Collections$SynchronizedNavigableSet"), (1, .class_ 269), (0, u "java/util/Collections$SynchronizedRandomAccessList"), (1, .class_ 272), (0, u "java/util/Collections$SynchronizedList"), (5, .class_ 279), (0, u "java/util/Collections$SynchronizedMap"), (1, .class_ 282), (0, u "java/util/Collections$SynchronizedSortedMap"), (1, .class_ 285), (0, u "java/util/Collections$SynchronizedNavigableMap"), (1, .class_ 288), (0, u "java/util/Collections$CheckedCollection"), (11, .class_ 301), (0, u "java/util/Collections$CheckedQueue"), (3, .class_ 306), (0, u "java/util/Collections$CheckedSet"), (3, .class_ 311), (0, u "java/util/Collections$CheckedSortedSet"), (3, .class_ 316), (0, u "java/util/Collections$CheckedNavigableSet"), (3, .class_ 321), (0, u "java/util/Collections$CheckedRandomAccessList"), (3, .class_ 326), (0, u "java/util/Collections$CheckedList"), (1, .class_ 329), (0, u "java/util/Collections$CheckedMap"), (3, .class_ 334), (0, u "java/util/Collections$CheckedSortedMap"), (3, .class_ 339), (0, u "java/util/Collections$CheckedNavigableMap"), (4, .class_ 346), (1, u "java/util/Collections$EmptyIterator"), (3, .class_ 352), (1, u "java/util/Collections$EmptyListIterator"), (2, .class_ 357), (1, u "java/util/Collections$EmptyEnumeration"), (4, u "EMPTY_SET"), (0, u "Ljava/util/Set;"), (6, u "EMPTY_LIST"), (0, u "Ljava/util/List;"), (2, u "EMPTY_MAP"), (0, u "Ljava/util/Map;"), (4, .class_ 381), (0, u "java/util/Collections$SingletonSet"), (2, .class_ 385), (0, u "java/util/Collections$1"), (1, .class_ 388), (0, u "java/util/Collections$2"), (1, .class_ 391), (0, u "java/util/Collections$SingletonList"), (1, .class_ 394), (0, u "java/util/Collections$SingletonMap"), (22, .class_ 418), (0, u "java/util/Collections$CopiesList"), (4, .class_ 425), (1, u "java/util/Collections$ReverseComparator"), (8, .class_ 435), (0, u "java/util/Collections$ReverseComparator2"), (6, .class_ 443), (0, u "java/util/Collections$3"), (25, .class_ 470), (0, u "java/util/Collections$SetFromMap"), (2, .class_ 474), (0, u "java/util/Collections$SequencedSetFromMap"), (3, .class_ 479), (0, u "java/util/Collections$AsLIFOQueue"), (11, .class_ 492), (0, u "java/util/Collections$EmptySet"), (1, .class_ 495), (0, u "java/util/Collections$EmptyList"), (1, .class_ 498), (0, u "java/util/Collections$EmptyMap"), (1, u "BINARYSEARCH_THRESHOLD"), (0, u "I"), (2, u "REVERSE_THRESHOLD"), (1, u "SHUFFLE_THRESHOLD"), (1, u "FILL_THRESHOLD"), (1, u "ROTATE_THRESHOLD"), (1, u "COPY_THRESHOLD"), (1, u "REPLACEALL_THRESHOLD"), (1, u "INDEXOFSUBLIST_THRESHOLD"), (333, .class_ 851), (0, u "java/util/Collections$CheckedMap$CheckedEntrySet"), (0, .class_ 853), (0, u "java/util/Collections$CheckedMap$CheckedEntrySet$CheckedEntry"), (0, .class_ 855), (0, u "java/util/Collections$CheckedMap$CheckedEntrySet$1"), (0, .class_ 857), (0, u "java/util/Collections$CheckedList$1"), (0, .class_ 859), (0, u "java/util/Collections$CheckedCollection$1"), (0, .class_ 861), (0, u "java/util/Collections$UnmodifiableNavigableMap$EmptyNavigableMap"), (0, .class_ 863), (0, u "java/util/Collections$UnmodifiableMap$UnmodifiableEntrySet"), (0, .class_ 865), (0, u "java/util/Collections$UnmodifiableMap$UnmodifiableEntrySet$UnmodifiableEntry"), (0, .class_ 867), (0, u "java/util/Collections$UnmodifiableMap$UnmodifiableEntrySet$UnmodifiableEntrySetSpliterator"), (0, .class_ 869), (0, u "java/util/Collections$UnmodifiableMap$UnmodifiableEntrySet$1"), (0, .class_ 871), (0, u "java/util/Collections$UnmodifiableList$1"), (0, .class_ 873), (0, u "java/util/Collections$UnmodifiableNavigableSet$EmptyNavigableSet"), (0, .class_ 875), (0, u "java/util/Collections$UnmodifiableCollection$1")] 57

def k22m0 : Method := { name := "<init>", desc := "()V", sig := { parameters := [], returnType := none }, accessFlags := 2, code := none }
/-- java/util/Collections -/
def k22 : Class := { plain "java/util/Collections" (some 0) with
  accessFlags := 33
  interfaces := #[]
  cf := some (fileOf pool22 19 #[.nestMembers #[478, 473, 469, 434, 423, 417, 393, 390, 380, 497, 494, 491, 355, 350, 344, 338, 333, 328, 850, 852, 854, 320, 325, 856, 315, 310, 305, 300, 287, 858, 284, 281, 278, 268, 271, 265, 262, 256, 250, 245, 860, 237, 231, 223, 862, 864, 866, 868, 215, 212, 870, 206, 872, 198, 190, 182, 174, 166, 874, 442, 387, 384]] #[{ accessFlags := 2, nameIndex := 5, descriptorIndex := 6, attributes := #[] }] 33 2 #[] #[{ accessFlags := 26, nameIndex := 500, descriptorIndex := 501, attributes := #[] }, { accessFlags := 26, nameIndex := 504, descriptorIndex := 501, attributes := #[] }, { accessFlags := 26, nameIndex := 506, descriptorIndex := 501, attributes := #[] }, { accessFlags := 26, nameIndex := 508, descriptorIndex := 501, attributes := #[] }, { accessFlags := 26, nameIndex := 510, descriptorIndex := 501, attributes := #[] }, { accessFlags := 26, nameIndex := 512, descriptorIndex := 501, attributes := #[] }, { accessFlags := 26, nameIndex := 514, descriptorIndex := 501, attributes := #[] }, { accessFlags := 26, nameIndex := 516, descriptorIndex := 501, attributes := #[] }, { accessFlags := 10, nameIndex := 84, descriptorIndex := 85, attributes := #[] }, { accessFlags := 25, nameIndex := 362, descriptorIndex := 363, attributes := #[] }, { accessFlags := 25, nameIndex := 370, descriptorIndex := 371, attributes := #[] }, { accessFlags := 25, nameIndex := 374, descriptorIndex := 375, attributes := #[] }])
  fields := #[{ name := "BINARYSEARCH_THRESHOLD", type := .int, accessFlags := 26, slot := 0, constantValue := 0 }, { name := "REVERSE_THRESHOLD", type := .int, accessFlags := 26, slot := 1, constantValue := 0 }, { name := "SHUFFLE_THRESHOLD", type := .int, accessFlags := 26, slot := 2, constantValue := 0 }, { name := "FILL_THRESHOLD", type := .int, accessFlags := 26, slot := 3, constantValue := 0 }, { name := "ROTATE_THRESHOLD", type := .int, accessFlags := 26, slot := 4, constantValue := 0 }, { name := "COPY_THRESHOLD", type := .int, accessFlags := 26, slot := 5, constantValue := 0 }, { name := "REPLACEALL_THRESHOLD", type := .int, accessFlags := 26, slot := 6, constantValue := 0 }, { name := "INDEXOFSUBLIST_THRESHOLD", type := .int, accessFlags := 26, slot := 7, constantValue := 0 }, { name := "r", type := (.object "java/util/Random"), accessFlags := 10, slot := 8, constantValue := 0 }, { name := "EMPTY_SET", type := (.object "java/util/Set"), accessFlags := 25, slot := 9, constantValue := 0 }, { name := "EMPTY_LIST", type := (.object "java/util/List"), accessFlags := 25, slot := 10, constantValue := 0 }, { name := "EMPTY_MAP", type := (.object "java/util/Map"), accessFlags := 25, slot := 11, constantValue := 0 }]
  methods := #[k22m0]
  instanceTypes := #[]
  staticTypes := #[.int, .int, .int, .int, .int, .int, .int, .int, (.object "java/util/Random"), (.object "java/util/Set"), (.object "java/util/List"), (.object "java/util/Map")]
  resolved := Array.replicate 933 none
  statics := some 3 }

def pool23 : Array CpInfo := pool [(8, .class_ 10), (1, u "java/lang/Iterable"), (24, .class_ 36), (0, u "java/lang/Object")] 25

/-- java/lang/Iterable -/
def k23 : Class := { plain "java/lang/Iterable" (some 0) with
  accessFlags := 1537
  interfaces := #[]
  cf := some (fileOf pool23 8 #[] #[] 1537 35 #[] #[])
  fields := #[]
  methods := #[]
  instanceTypes := #[]
  staticTypes := #[]
  resolved := Array.replicate 62 none
  statics := none }

def pool24 : Array CpInfo := pool [(10, .class_ 12), (1, u "java/util/Collection"), (47, .class_ 61), (0, u "java/lang/Object"), (0, .class_ 63), (0, u "java/lang/Iterable")] 51

/-- java/util/Collection -/
def k24 : Class := { plain "java/util/Collection" (some 0) with
  accessFlags := 1537
  interfaces := #[23]
  cf := some (fileOf pool24 10 #[] #[] 1537 60 #[62] #[])
  fields := #[]
  methods := #[]
  instanceTypes := #[]
  staticTypes := #[]
  resolved := Array.replicate 115 none
  statics := none }

def pool25 : Array CpInfo := pool [(2, .class_ 4), (1, u "java/lang/Object"), (0, u "<init>"), (0, u "()V"), (1, .class_ 10), (1, u "java/util/AbstractCollection"), (66, .class_ 78), (0, u "java/util/Collection")] 81

def k25m0 : Method := { name := "<init>", desc := "()V", sig := { parameters := [], returnType := none }, accessFlags := 4, code := none }
/-- java/util/AbstractCollection -/
def k25 : Class := { plain "java/util/AbstractCollection" (some 0) with
  accessFlags := 1057
  interfaces := #[24]
  cf := some (fileOf pool25 8 #[] #[{ accessFlags := 4, nameIndex := 5, descriptorIndex := 6, attributes := #[] }] 1057 2 #[77] #[])
  fields := #[]
  methods := #[k25m0]
  instanceTypes := #[]
  staticTypes := #[]
  resolved := Array.replicate 160 none
  statics := none }

def pool26 : Array CpInfo := pool [(8, .class_ 10), (1, u "java/util/SequencedCollection"), (15, .class_ 27), (0, u "java/lang/Object"), (0, .class_ 29), (0, u "java/util/Collection")] 27

/-- java/util/SequencedCollection -/
def k26 : Class := { plain "java/util/SequencedCollection" (some 0) with
  accessFlags := 1537
  interfaces := #[24]
  cf := some (fileOf pool26 8 #[] #[] 1537 26 #[28] #[])
  fields := #[]
  methods := #[]
  instanceTypes := #[]
  staticTypes := #[]
  resolved := Array.replicate 57 none
  statics := none }

def pool27 : Array CpInfo := pool [(8, .class_ 10), (1, u "java/util/List"), (92, .class_ 104), (0, u "java/lang/Object"), (15, .class_ 121), (0, u "java/util/SequencedCollection")] 129

/-- java/util/List -/
def k27 : Class := { plain "java/util/List" (some 0) with
  accessFlags := 1537
  interfaces := #[26]
  cf := some (fileOf pool27 8 #[] #[] 1537 103 #[120] #[])
  fields := #[]
  methods := #[]
  instanceTypes := #[]
  staticTypes := #[]
  resolved := Array.replicate 251 none
  statics := none }

def pool28 : Array CpInfo := pool [(2, .class_ 4), (1, u "java/util/AbstractCollection"), (0, u "<init>"), (0, u "()V"), (1, .class_ 10), (1, u "java/util/AbstractList"), (0, u "modCount"), (0, u "I"), (64, .class_ 78), (0, u "java/util/AbstractList$Itr"), (3, .class_ 83), (0, u "java/util/AbstractList$ListItr"), (9, .class_ 94), (0, u "java/util/AbstractList$RandomAccessSubList"), (3, .class_ 99), (0, u "java/util/AbstractList$SubList"), (33, .class_ 134), (0, u "java/util/List"), (73, .class_ 209), (0, u "java/util/AbstractList$SubList$1"), (0, .class_ 211), (0, u "java/util/AbstractList$RandomAccessSpliterator")] 6

def k28m0 : Method := { name := "<init>", desc := "()V", sig := { parameters := [], returnType := none }, accessFlags := 4, code := none }
/-- java/util/AbstractList -/
def k28 : Class := { plain "java/util/AbstractList" (some 25) with
  accessFlags := 1057
  interfaces := #[27]
  cf := some (fileOf pool28 8 #[.nestMembers #[93, 98, 208, 210, 82, 77]] #[{ accessFlags := 4, nameIndex := 5, descriptorIndex := 6, attributes := #[] }] 1057 2 #[133] #[{ accessFlags := 132, nameIndex := 11, descriptorIndex := 12, attributes := #[] }])
  fields := #[{ name := "modCount", type := .int, accessFlags := 132, slot := 0, constantValue := 0 }]
  methods := #[k28m0]
  instanceTypes := #[.int]
  staticTypes := #[]
  resolved := Array.replicate 218 none
  statics := none }

def pool29 : Array CpInfo := pool [(1, .class_ 2), (0, u "java/util/RandomAccess"), (0, .class_ 4), (0, u "java/lang/Object")] 2

/-- java/util/RandomAccess -/
def k29 : Class := { plain "java/util/RandomAccess" (some 0) with
  accessFlags := 1537
  interfaces := #[]
  cf := some (fileOf pool29 1 #[] #[] 1537 3 #[] #[])
  fields := #[]
  methods := #[]
  instanceTypes := #[]
  staticTypes := #[]
  resolved := Array.replicate 7 none
  statics := none }

def pool30 : Array CpInfo := pool [(2, .class_ 4), (1, u "java/util/AbstractList"), (0, u "<init>"), (0, u "()V"), (1, .class_ 10), (1, u "java/util/Collections"), (54, .class_ 66), (0, u "java/util/Collections$EmptyList"), (0, .class_ 68), (0, u "java/util/RandomAccess"), (0, .class_ 70), (0, u "java/io/Serializable"), (0, u "serialVersionUID"), (0, u "J")] 77

def k30m0 : Method := { name := "<init>", desc := "()V", sig := { parameters := [], returnType := none }, accessFlags := 2, code := none }
/-- java/util/Collections$EmptyList -/
def k30 : Class := { plain "java/util/Collections$EmptyList" (some 28) with
  accessFlags := 32
  interfaces := #[29, 2]
  cf := some (fileOf pool30 65 #[.nestHost 8] #[{ accessFlags := 2, nameIndex := 5, descriptorIndex := 6, attributes := #[] }] 32 2 #[67, 69] #[{ accessFlags := 26, nameIndex := 71, descriptorIndex := 72, attributes := #[] }])
  fields := #[{ name := "serialVersionUID", type := .long, accessFlags := 26, slot := 0, constantValue := 0 }]
  methods := #[k30m0]
  instanceTypes := #[.int]
  staticTypes := #[.long]
  resolved := Array.replicate 150 none
  statics := none }

def pool31 : Array CpInfo := pool [(2, .class_ 4), (1, u "java/lang/StackTraceElement"), (0, u "<init>"), (2, .class_ 10), (1, u "java/lang/Object"), (0, u "()V"), (2, u "format"), (0, u "B"), (2, u "classLoaderName"), (0, u "Ljava/lang/String;"), (2, u "moduleName"), (2, u "moduleVersion"), (12, u "declaringClass"), (4, u "methodName"), (2, u "fileName"), (2, u "lineNumber"), (0, u "I"), (65, u "declaringClassObject"), (0, u "Ljava/lang/Class;"), (33, .class_ 153), (1, u "java/lang/StackTraceElement$HashedModules"), (17, .class_ 172), (0, u "java/io/Serializable"), (0, u "NATIVE_METHOD"), (1, u "UNKNOWN_SOURCE"), (2, u "BUILTIN_CLASS_LOADER"), (1, u "JDK_NON_UPGRADEABLE_MODULE"), (1, u "serialVersionUID"), (0, u "J")] 51

def k31m0 : Method := { name := "<init>", desc := "()V", sig := { parameters := [], returnType := none }, accessFlags := 2, code := none }
/-- java/lang/StackTraceElement -/
def k31 : Class := { plain "java/lang/StackTraceElement" (some 0) with
  accessFlags := 49
  interfaces := #[2]
  cf := some (fileOf pool31 2 #[.nestMembers #[151]] #[{ accessFlags := 2, nameIndex := 5, descriptorIndex := 11, attributes := #[] }] 49 8 #[171] #[{ accessFlags := 26, nameIndex := 173, descriptorIndex := 19, attributes := #[] }, { accessFlags := 26, nameIndex := 175, descriptorIndex := 19, attributes := #[] }, { accessFlags := 130, nameIndex := 116, descriptorIndex := 117, attributes := #[] }, { accessFlags := 2, nameIndex := 18, descriptorIndex := 19, attributes := #[] }, { accessFlags := 2, nameIndex := 22, descriptorIndex := 19, attributes := #[] }, { accessFlags := 2, nameIndex := 25, descriptorIndex := 19, attributes := #[] }, { accessFlags := 2, nameIndex := 38, descriptorIndex := 19, attributes := #[] }, { accessFlags := 2, nameIndex := 43, descriptorIndex := 19, attributes := #[] }, { accessFlags := 2, nameIndex := 46, descriptorIndex := 19, attributes := #[] }, { accessFlags := 2, nameIndex := 49, descriptorIndex := 50, attributes := #[] }, { accessFlags := 2, nameIndex := 14, descriptorIndex := 15, attributes := #[] }, { accessFlags := 26, nameIndex := 178, descriptorIndex := 15, attributes := #[] }, { accessFlags := 26, nameIndex := 180, descriptorIndex := 15, attributes := #[] }, { accessFlags := 26, nameIndex := 182, descriptorIndex := 183, attributes := #[] }])
  fields := #[{ name := "NATIVE_METHOD", type := (.object "java/lang/String"), accessFlags := 26, slot := 0, constantValue := 0 }, { name := "UNKNOWN_SOURCE", type := (.object "java/lang/String"), accessFlags := 26, slot := 1, constantValue := 0 }, { name := "declaringClassObject", type := (.object "java/lang/Class"), accessFlags := 130, slot := 0, constantValue := 0 }, { name := "classLoaderName", type := (.object "java/lang/String"), accessFlags := 2, slot := 1, constantValue := 0 }, { name := "moduleName", type := (.object "java/lang/String"), accessFlags := 2, slot := 2, constantValue := 0 }, { name := "moduleVersion", type := (.object "java/lang/String"), accessFlags := 2, slot := 3, constantValue := 0 }, { name := "declaringClass", type := (.object "java/lang/String"), accessFlags := 2, slot := 4, constantValue := 0 }, { name := "methodName", type := (.object "java/lang/String"), accessFlags := 2, slot := 5, constantValue := 0 }, { name := "fileName", type := (.object "java/lang/String"), accessFlags := 2, slot := 6, constantValue := 0 }, { name := "lineNumber", type := .int, accessFlags := 2, slot := 7, constantValue := 0 }, { name := "format", type := .byte, accessFlags := 2, slot := 8, constantValue := 0 }, { name := "BUILTIN_CLASS_LOADER", type := .byte, accessFlags := 26, slot := 2, constantValue := 0 }, { name := "JDK_NON_UPGRADEABLE_MODULE", type := .byte, accessFlags := 26, slot := 3, constantValue := 0 }, { name := "serialVersionUID", type := .long, accessFlags := 26, slot := 4, constantValue := 0 }]
  methods := #[k31m0]
  instanceTypes := #[(.object "java/lang/Class"), (.object "java/lang/String"), (.object "java/lang/String"), (.object "java/lang/String"), (.object "java/lang/String"), (.object "java/lang/String"), (.object "java/lang/String"), .int, .byte]
  staticTypes := #[(.object "java/lang/String"), (.object "java/lang/String"), .byte, .byte, .long]
  resolved := Array.replicate 235 none
  statics := none }

def pool32 : Array CpInfo := pool [(1, u "java/lang/Cloneable"), (0, .class_ 1), (0, u "java/lang/Object"), (0, .class_ 3)] 3

/-- java/lang/Cloneable -/
def k32 : Class := { plain "java/lang/Cloneable" (some 0) with
  accessFlags := 1537
  interfaces := #[]
  cf := some (fileOf pool32 2 #[] #[] 1537 4 #[] #[])
  fields := #[]
  methods := #[]
  instanceTypes := #[]
  staticTypes := #[]
  resolved := Array.replicate 8 none
  statics := none }

/-- the primitive byte -/
def k33 : Class := { plain "byte" none with kind := .primitive 'B', accessFlags := 0x411 }
/-- [B -/
def k34 : Class := { plain "[B" (some 0) with kind := .array 33 .byte, interfaces := #[32, 2], accessFlags := 1041 }

/-- the primitive char -/
def k35 : Class := { plain "char" none with kind := .primitive 'C', accessFlags := 0x411 }
/-- [C -/
def k36 : Class := { plain "[C" (some 0) with kind := .array 35 .char, interfaces := #[32, 2], accessFlags := 1041 }

/-- the primitive int -/
def k37 : Class := { plain "int" none with kind := .primitive 'I', accessFlags := 0x411 }
/-- [I -/
def k38 : Class := { plain "[I" (some 0) with kind := .array 37 .int, interfaces := #[32, 2], accessFlags := 1041 }

/-- [Ljava/lang/Object; -/
def k39 : Class := { plain "[Ljava/lang/Object;" (some 0) with kind := .array 0 (.object "java/lang/Object"), interfaces := #[32, 2], accessFlags := 1041 }

/-- [Ljava/lang/StackTraceElement; -/
def k40 : Class := { plain "[Ljava/lang/StackTraceElement;" (some 0) with kind := .array 31 (.object "java/lang/StackTraceElement"), interfaces := #[32, 2], accessFlags := 1041 }

/-- [Ljava/lang/Throwable; -/
def k41 : Class := { plain "[Ljava/lang/Throwable;" (some 0) with kind := .array 9 (.object "java/lang/Throwable"), interfaces := #[32, 2], accessFlags := 1041 }

def heap : Heap := #[{ cls := 7, slots := #[.long 0, .int 1, .null, .int 0, .null, .int 0, .int 0], vm := .statics 7 },
  { cls := 9, slots := #[.long 0, .ref 4, .ref 5, .null, .null, .null, .null, .ref 6, .int 1], vm := .statics 9 },
  { cls := 21, slots := #[.null, .null, .null], vm := .statics 21 },
  { cls := 22, slots := #[.int 0, .int 0, .int 0, .int 0, .int 0, .int 0, .int 0, .int 0, .null, .null, .ref 5, .null], vm := .statics 22 },
  { cls := 40, slots := #[], vm := .none },
  { cls := 30, slots := #[.int 0], vm := .none },
  { cls := 41, slots := #[], vm := .none }]
def classes : Array Class := #[k0, k1, k2, k3, k4, k5, k6, k7, k8, k9, k10, k11, k12, k13, k14, k15, k16, k17, k18, k19, k20, k21, k22, k23, k24, k25, k26, k27, k28, k29, k30, k31, k32, k33, k34, k35, k36, k37, k38, k39, k40, k41]
def interned : List (Array UInt16 × Addr) := []
def slotsUsed : Nat := 32
def theMethod : MethodId := ⟨1, 3⟩
def args0 : Array Value := #[.int 5, .int 66, .int 67, .int 68]
def aboutOver (below : List Frame) : State where
  vm := { classes := classes, interned := interned.toArray }
  heap := heap
  slotsUsed := slotsUsed
  threads := #[{ frames := .invoking theMethod args0 :: below }]
def below0 : List Frame := [.native { method := ⟨0, 0⟩, args := #[] }]
def about1 : State := aboutOver below0
def p0 : Program := .bare "" "" ""
def e0 : Env := launch0.env 0 0 0
theorem w_frames : about1.frames = Frame.invoking theMethod args0 :: below0 := rfl
set_option maxRecDepth 65536 in
theorem w_args : argsFit about1.vm theMethod args0 = true := by decide +kernel
set_option maxRecDepth 65536 in
theorem w_heap : heapFits about1 = true := by decide +kernel
set_option maxRecDepth 65536 in
theorem w_runnable : about1.curStatus? = some .runnable := by decide +kernel
set_option maxRecDepth 65536 in
theorem w_alone : about1.alone = true := by decide +kernel
set_option maxRecDepth 65536 in
theorem w_named : about1.methodNamed? x = some theMethod := by decide +kernel
set_option maxRecDepth 65536 in
theorem w_hears : about1.hears theMethod below0 = true := by decide +kernel
set_option maxRecDepth 65536 in
theorem w_ripe : about1.ripe theMethod args0 below0 = true := by decide +kernel
theorem w_running : about1.status = .running := rfl
set_option maxRecDepth 65536 in
theorem w_room : about1.hasRoom e0.platform room_1 = true :=
  launch0.hasRoom_least _ room_1 (by decide +kernel) (by decide +kernel) (by decide +kernel) (by decide +kernel) (by decide +kernel) (by decide +kernel)
theorem allAtoms_all (ts : List Jvm.Cond) (a : Array Jvm.Value) (st : Jvm.State) : (allAtoms ts).before a st = ts.all (fun c => c.before a st) := by
  induction ts with
  | nil => rfl
  | cons c t ih =>
    show (Jvm.Cond.and c (allAtoms t)).before a st = _
    rw [Jvm.Cond.before_and, ih, List.all_cons]
def words1 : List Jvm.Cond := Jvm.Cond.code x code maxLocals ret :: tables_1
/-- a 'code' word, met by the world's own term for the bytes: nothing is compared byte by byte -/
theorem code_word {y : MethodName} {bytes : ByteArray} {mx : Nat} {rt : Option FieldType} {a : Array Value} {s : State} {m : MethodId} {meth : Method} {c : Code} (h1 : s.methodNamed? y = some m) (h2 : s.vm.method? m = some meth) (h3 : meth.code = some c) (h4 : c.code = bytes)
    (h5 : (c.maxLocals == mx && c.exceptionTable.isEmpty && decide (c.maxStack ≤ mostOperands) && decide (meth.sig.returnType = rt) && !meth.locks && decide (parseMethodDescriptor y.desc = some meth.sig)) = true) : (Jvm.Cond.code y bytes mx rt).before a s = true := by
  simp only [Bool.and_eq_true, beq_iff_eq, Bool.not_eq_true', decide_eq_true_eq] at h5
  obtain ⟨⟨⟨⟨⟨g1, g2⟩, g3⟩, g4⟩, g5⟩, g6⟩ := h5
  simp [Cond.before, Cond.holds, Cond.value, h1, h2, h3, h4, g1, g2, g3, g4, g5, g6]
def isCode : Jvm.Cond → Bool
  | .code _ _ _ _ => true
  | _ => false
theorem all_split {L : List Jvm.Cond} {P : Jvm.Cond → Bool} (h1 : L.all (fun c => isCode c || P c) = true) (h2 : ∀ c ∈ L.filter isCode, P c = true) : L.all P = true := by
  refine List.all_eq_true.mpr fun c hc => ?_
  have h := List.all_eq_true.mp h1 c hc
  rcases Bool.eq_false_or_eq_true (isCode c) with hi | hi
  · exact h2 c (List.mem_filter.mpr ⟨hc, hi⟩)
  · simpa [hi] using h
set_option maxRecDepth 65536 in
theorem w_c0 : (Jvm.Cond.code x code maxLocals ret).before args0 about1 = true := code_word (m := ⟨1, 3⟩) (meth := k1m3) (c := k1c3) (by decide +kernel) rfl rfl rfl (by decide +kernel)
set_option maxRecDepth 65536 in
theorem w_c1 : (Jvm.Cond.code ({ cls := "com/example/plain_hub/plainhub/HubExceptionForbiddenPinLaw", name := "reasonOf", desc := "(ICCC)Ljava/lang/String;" } : Jvm.MethodName) method_2_code (4 : Nat) (Option.some (Jvm.ClassFile.FieldType.object "java/lang/String"))).before args0 about1 = true := code_word (m := ⟨1, 1⟩) (meth := k1m1) (c := k1c1) (by decide +kernel) rfl rfl rfl (by decide +kernel)
set_option maxRecDepth 65536 in
theorem w_c2 : (Jvm.Cond.code ({ cls := "java/lang/String", name := "<init>", desc := "([C)V" } : Jvm.MethodName) jdk_42_method_3_code (2 : Nat) (Option.none : Option Jvm.ClassFile.FieldType)).before args0 about1 = true := code_word (m := ⟨7, 1⟩) (meth := k7m1) (c := k7c1) (by decide +kernel) rfl rfl rfl (by decide +kernel)
set_option maxRecDepth 65536 in
theorem w_c3 : (Jvm.Cond.code ({ cls := "java/lang/String", name := "<init>", desc := "([CIILjava/lang/Void;)V" } : Jvm.MethodName) jdk_42_method_149_code (6 : Nat) (Option.none : Option Jvm.ClassFile.FieldType)).before args0 about1 = true := code_word (m := ⟨7, 6⟩) (meth := k7m6) (c := k7c6) (by decide +kernel) rfl rfl rfl (by decide +kernel)
set_option maxRecDepth 65536 in
theorem w_c4 : (Jvm.Cond.code ({ cls := "java/lang/Object", name := "<init>", desc := "()V" } : Jvm.MethodName) object_method_1_code (1 : Nat) (Option.none : Option Jvm.ClassFile.FieldType)).before args0 about1 = true := code_word (m := ⟨0, 0⟩) (meth := k0m0) (c := k0c0) (by decide +kernel) rfl rfl rfl (by decide +kernel)
set_option maxRecDepth 65536 in
theorem w_c5 : (Jvm.Cond.code ({ cls := "com/example/plain_hub/plainhub/HubExceptionForbiddenPinLaw", name := "expected", desc := "(ICCC)Ljava/lang/String;" } : Jvm.MethodName) method_3_code (4 : Nat) (Option.some (Jvm.ClassFile.FieldType.object "java/lang/String"))).before args0 about1 = true := code_word (m := ⟨1, 2⟩) (meth := k1m2) (c := k1c2) (by decide +kernel) rfl rfl rfl (by decide +kernel)
set_option maxRecDepth 65536 in
theorem w_c6 : (Jvm.Cond.code ({ cls := "java/lang/StringUTF16", name := "compress", desc := "([CII)[B" } : Jvm.MethodName) jdk_52_method_16_code (6 : Nat) (Option.some (Jvm.ClassFile.FieldType.array Jvm.ClassFile.FieldType.byte))).before args0 about1 = true := code_word (m := ⟨8, 2⟩) (meth := k8m2) (c := k8c2) (by decide +kernel) rfl rfl rfl (by decide +kernel)
set_option maxRecDepth 65536 in
theorem w_c7 : (Jvm.Cond.code ({ cls := "java/lang/StringUTF16", name := "compress", desc := "([CI[BII)I" } : Jvm.MethodName) jdk_52_method_21_code (7 : Nat) (Option.some Jvm.ClassFile.FieldType.int)).before args0 about1 = true := code_word (m := ⟨8, 3⟩) (meth := k8m3) (c := k8c3) (by decide +kernel) rfl rfl rfl (by decide +kernel)
set_option maxRecDepth 65536 in
theorem w_c8 : (Jvm.Cond.code ({ cls := "java/lang/StringUTF16", name := "coderFromArrayLen", desc := "([BI)B" } : Jvm.MethodName) jdk_52_method_15_code (2 : Nat) (Option.some Jvm.ClassFile.FieldType.byte)).before args0 about1 = true := code_word (m := ⟨8, 1⟩) (meth := k8m1) (c := k8c1) (by decide +kernel) rfl rfl rfl (by decide +kernel)
set_option maxRecDepth 65536 in
theorem w_c9 : (Jvm.Cond.code ({ cls := "com/example/plain_hub/plainhub/HubException", name := "forbidden", desc := "(Ljava/lang/String;)Lcom/example/plain_hub/plainhub/HubException;" } : Jvm.MethodName) prog_2_method_4_code (1 : Nat) (Option.some (Jvm.ClassFile.FieldType.object "com/example/plain_hub/plainhub/HubException"))).before args0 about1 = true := code_word (m := ⟨12, 1⟩) (meth := k12m1) (c := k12c1) (by decide +kernel) rfl rfl rfl (by decide +kernel)
set_option maxRecDepth 65536 in
theorem w_c10 : (Jvm.Cond.code ({ cls := "java/lang/StringBuilder", name := "<init>", desc := "()V" } : Jvm.MethodName) jdk_67_method_1_code (1 : Nat) (Option.none : Option Jvm.ClassFile.FieldType)).before args0 about1 = true := code_word (m := ⟨15, 0⟩) (meth := k15m0) (c := k15c0) (by decide +kernel) rfl rfl rfl (by decide +kernel)
set_option maxRecDepth 65536 in
theorem w_c11 : (Jvm.Cond.code ({ cls := "java/lang/AbstractStringBuilder", name := "<init>", desc := "(I)V" } : Jvm.MethodName) jdk_68_method_2_code (2 : Nat) (Option.none : Option Jvm.ClassFile.FieldType)).before args0 about1 = true := code_word (m := ⟨14, 1⟩) (meth := k14m1) (c := k14c1) (by decide +kernel) rfl rfl rfl (by decide +kernel)
set_option maxRecDepth 65536 in
theorem w_c12 : (Jvm.Cond.code ({ cls := "java/lang/StringBuilder", name := "append", desc := "(Ljava/lang/String;)Ljava/lang/StringBuilder;" } : Jvm.MethodName) jdk_67_method_7_code (2 : Nat) (Option.some (Jvm.ClassFile.FieldType.object "java/lang/StringBuilder"))).before args0 about1 = true := code_word (m := ⟨15, 1⟩) (meth := k15m1) (c := k15c1) (by decide +kernel) rfl rfl rfl (by decide +kernel)
set_option maxRecDepth 65536 in
theorem w_c13 : (Jvm.Cond.code ({ cls := "java/lang/AbstractStringBuilder", name := "append", desc := "(Ljava/lang/String;)Ljava/lang/AbstractStringBuilder;" } : Jvm.MethodName) jdk_68_method_22_code (3 : Nat) (Option.some (Jvm.ClassFile.FieldType.object "java/lang/AbstractStringBuilder"))).before args0 about1 = true := code_word (m := ⟨14, 5⟩) (meth := k14m5) (c := k14c5) (by decide +kernel) rfl rfl rfl (by decide +kernel)
set_option maxRecDepth 65536 in
theorem w_c14 : (Jvm.Cond.code ({ cls := "java/lang/String", name := "length", desc := "()I" } : Jvm.MethodName) jdk_42_method_54_code (1 : Nat) (Option.some Jvm.ClassFile.FieldType.int)).before args0 about1 = true := code_word (m := ⟨7, 3⟩) (meth := k7m3) (c := k7c3) (by decide +kernel) rfl rfl rfl (by decide +kernel)
set_option maxRecDepth 65536 in
theorem w_c15 : (Jvm.Cond.code ({ cls := "java/lang/String", name := "coder", desc := "()B" } : Jvm.MethodName) jdk_42_method_152_code (1 : Nat) (Option.some Jvm.ClassFile.FieldType.byte)).before args0 about1 = true := code_word (m := ⟨7, 8⟩) (meth := k7m8) (c := k7c8) (by decide +kernel) rfl rfl rfl (by decide +kernel)
set_option maxRecDepth 65536 in
theorem w_c16 : (Jvm.Cond.code ({ cls := "java/lang/AbstractStringBuilder", name := "ensureCapacityInternal", desc := "(I)V" } : Jvm.MethodName) jdk_68_method_9_code (3 : Nat) (Option.none : Option Jvm.ClassFile.FieldType)).before args0 about1 = true := code_word (m := ⟨14, 3⟩) (meth := k14m3) (c := k14c3) (by decide +kernel) rfl rfl rfl (by decide +kernel)
set_option maxRecDepth 65536 in
theorem w_c17 : (Jvm.Cond.code ({ cls := "java/lang/AbstractStringBuilder", name := "newCapacity", desc := "(I)I" } : Jvm.MethodName) jdk_68_method_10_code (6 : Nat) (Option.some Jvm.ClassFile.FieldType.int)).before args0 about1 = true := code_word (m := ⟨14, 4⟩) (meth := k14m4) (c := k14c4) (by decide +kernel) rfl rfl rfl (by decide +kernel)
set_option maxRecDepth 65536 in
theorem w_c18 : (Jvm.Cond.code ({ cls := "jdk/internal/util/ArraysSupport", name := "newLength", desc := "(III)I" } : Jvm.MethodName) jdk_48_method_27_code (4 : Nat) (Option.some Jvm.ClassFile.FieldType.int)).before args0 about1 = true := code_word (m := ⟨16, 1⟩) (meth := k16m1) (c := k16c1) (by decide +kernel) rfl rfl rfl (by decide +kernel)
set_option maxRecDepth 65536 in
theorem w_c19 : (Jvm.Cond.code ({ cls := "java/lang/Math", name := "max", desc := "(II)I" } : Jvm.MethodName) jdk_29_method_65_code (2 : Nat) (Option.some Jvm.ClassFile.FieldType.int)).before args0 about1 = true := code_word (m := ⟨17, 1⟩) (meth := k17m1) (c := k17c1) (by decide +kernel) rfl rfl rfl (by decide +kernel)
set_option maxRecDepth 65536 in
theorem w_c20 : (Jvm.Cond.code ({ cls := "java/util/Arrays", name := "copyOf", desc := "([BI)[B" } : Jvm.MethodName) jdk_65_method_121_code (3 : Nat) (Option.some (Jvm.ClassFile.FieldType.array Jvm.ClassFile.FieldType.byte))).before args0 about1 = true := code_word (m := ⟨18, 1⟩) (meth := k18m1) (c := k18c1) (by decide +kernel) rfl rfl rfl (by decide +kernel)
set_option maxRecDepth 65536 in
theorem w_c21 : (Jvm.Cond.code ({ cls := "java/lang/Math", name := "min", desc := "(II)I" } : Jvm.MethodName) jdk_29_method_69_code (2 : Nat) (Option.some Jvm.ClassFile.FieldType.int)).before args0 about1 = true := code_word (m := ⟨17, 2⟩) (meth := k17m2) (c := k17c2) (by decide +kernel) rfl rfl rfl (by decide +kernel)
set_option maxRecDepth 65536 in
theorem w_c22 : (Jvm.Cond.code ({ cls := "java/lang/AbstractStringBuilder", name := "putStringAt", desc := "(ILjava/lang/String;)V" } : Jvm.MethodName) jdk_68_method_73_code (3 : Nat) (Option.none : Option Jvm.ClassFile.FieldType)).before args0 about1 = true := code_word (m := ⟨14, 9⟩) (meth := k14m9) (c := k14c9) (by decide +kernel) rfl rfl rfl (by decide +kernel)
set_option maxRecDepth 65536 in
theorem w_c23 : (Jvm.Cond.code ({ cls := "java/lang/AbstractStringBuilder", name := "inflateIfNeededFor", desc := "(Ljava/lang/String;)V" } : Jvm.MethodName) jdk_68_method_71_code (2 : Nat) (Option.none : Option Jvm.ClassFile.FieldType)).before args0 about1 = true := code_word (m := ⟨14, 8⟩) (meth := k14m8) (c := k14c8) (by decide +kernel) rfl rfl rfl (by decide +kernel)
set_option maxRecDepth 65536 in
theorem w_c24 : (Jvm.Cond.code ({ cls := "java/lang/String", name := "getBytes", desc := "([BIB)V" } : Jvm.MethodName) jdk_42_method_147_code (4 : Nat) (Option.none : Option Jvm.ClassFile.FieldType)).before args0 about1 = true := code_word (m := ⟨7, 5⟩) (meth := k7m5) (c := k7c5) (by decide +kernel) rfl rfl rfl (by decide +kernel)
set_option maxRecDepth 65536 in
theorem w_c25 : (Jvm.Cond.code ({ cls := "java/lang/StringBuilder", name := "toString", desc := "()Ljava/lang/String;" } : Jvm.MethodName) jdk_67_method_42_code (1 : Nat) (Option.some (Jvm.ClassFile.FieldType.object "java/lang/String"))).before args0 about1 = true := code_word (m := ⟨15, 2⟩) (meth := k15m2) (c := k15c2) (by decide +kernel) rfl rfl rfl (by decide +kernel)
set_option maxRecDepth 65536 in
theorem w_c26 : (Jvm.Cond.code ({ cls := "java/lang/String", name := "<init>", desc := "(Ljava/lang/StringBuilder;)V" } : Jvm.MethodName) jdk_42_method_53_code (2 : Nat) (Option.none : Option Jvm.ClassFile.FieldType)).before args0 about1 = true := code_word (m := ⟨7, 2⟩) (meth := k7m2) (c := k7c2) (by decide +kernel) rfl rfl rfl (by decide +kernel)
set_option maxRecDepth 65536 in
theorem w_c27 : (Jvm.Cond.code ({ cls := "java/lang/String", name := "<init>", desc := "(Ljava/lang/AbstractStringBuilder;Ljava/lang/Void;)V" } : Jvm.MethodName) jdk_42_method_150_code (5 : Nat) (Option.none : Option Jvm.ClassFile.FieldType)).before args0 about1 = true := code_word (m := ⟨7, 7⟩) (meth := k7m7) (c := k7c7) (by decide +kernel) rfl rfl rfl (by decide +kernel)
set_option maxRecDepth 65536 in
theorem w_c28 : (Jvm.Cond.code ({ cls := "java/lang/AbstractStringBuilder", name := "getValue", desc := "()[B" } : Jvm.MethodName) jdk_68_method_64_code (1 : Nat) (Option.some (Jvm.ClassFile.FieldType.array Jvm.ClassFile.FieldType.byte))).before args0 about1 = true := code_word (m := ⟨14, 6⟩) (meth := k14m6) (c := k14c6) (by decide +kernel) rfl rfl rfl (by decide +kernel)
set_option maxRecDepth 65536 in
theorem w_c29 : (Jvm.Cond.code ({ cls := "java/lang/StringBuilder", name := "length", desc := "()I" } : Jvm.MethodName) jdk_67_method_93_code (1 : Nat) (Option.some Jvm.ClassFile.FieldType.int)).before args0 about1 = true := code_word (m := ⟨15, 3⟩) (meth := k15m3) (c := k15c3) (by decide +kernel) rfl rfl rfl (by decide +kernel)
set_option maxRecDepth 65536 in
theorem w_c30 : (Jvm.Cond.code ({ cls := "java/lang/AbstractStringBuilder", name := "length", desc := "()I" } : Jvm.MethodName) jdk_68_method_6_code (1 : Nat) (Option.some Jvm.ClassFile.FieldType.int)).before args0 about1 = true := code_word (m := ⟨14, 2⟩) (meth := k14m2) (c := k14c2) (by decide +kernel) rfl rfl rfl (by decide +kernel)
set_option maxRecDepth 65536 in
theorem w_c31 : (Jvm.Cond.code ({ cls := "java/lang/AbstractStringBuilder", name := "isLatin1", desc := "()Z" } : Jvm.MethodName) jdk_68_method_68_code (1 : Nat) (Option.some Jvm.ClassFile.FieldType.boolean)).before args0 about1 = true := code_word (m := ⟨14, 7⟩) (meth := k14m7) (c := k14c7) (by decide +kernel) rfl rfl rfl (by decide +kernel)
set_option maxRecDepth 65536 in
theorem w_c32 : (Jvm.Cond.code ({ cls := "java/util/Arrays", name := "copyOfRange", desc := "([BII)[B" } : Jvm.MethodName) jdk_65_method_132_code (3 : Nat) (Option.some (Jvm.ClassFile.FieldType.array Jvm.ClassFile.FieldType.byte))).before args0 about1 = true := code_word (m := ⟨18, 3⟩) (meth := k18m3) (c := k18c3) (by decide +kernel) rfl rfl rfl (by decide +kernel)
set_option maxRecDepth 65536 in
theorem w_c33 : (Jvm.Cond.code ({ cls := "java/util/Arrays", name := "copyOfRangeByte", desc := "([BII)[B" } : Jvm.MethodName) jdk_65_method_133_code (5 : Nat) (Option.some (Jvm.ClassFile.FieldType.array Jvm.ClassFile.FieldType.byte))).before args0 about1 = true := code_word (m := ⟨18, 4⟩) (meth := k18m4) (c := k18c4) (by decide +kernel) rfl rfl rfl (by decide +kernel)
set_option maxRecDepth 65536 in
theorem w_c34 : (Jvm.Cond.code ({ cls := "java/util/Arrays", name := "checkLength", desc := "(II)V" } : Jvm.MethodName) jdk_65_method_131_code (2 : Nat) (Option.none : Option Jvm.ClassFile.FieldType)).before args0 about1 = true := code_word (m := ⟨18, 2⟩) (meth := k18m2) (c := k18c2) (by decide +kernel) rfl rfl rfl (by decide +kernel)
set_option maxRecDepth 65536 in
theorem w_c35 : (Jvm.Cond.code ({ cls := "com/example/plain_hub/plainhub/HubException", name := "<init>", desc := "(IILjava/lang/String;)V" } : Jvm.MethodName) prog_2_method_1_code (4 : Nat) (Option.none : Option Jvm.ClassFile.FieldType)).before args0 about1 = true := code_word (m := ⟨12, 0⟩) (meth := k12m0) (c := k12c0) (by decide +kernel) rfl rfl rfl (by decide +kernel)
set_option maxRecDepth 65536 in
theorem w_c36 : (Jvm.Cond.code ({ cls := "java/lang/RuntimeException", name := "<init>", desc := "(Ljava/lang/String;)V" } : Jvm.MethodName) jdk_58_method_2_code (2 : Nat) (Option.none : Option Jvm.ClassFile.FieldType)).before args0 about1 = true := code_word (m := ⟨11, 1⟩) (meth := k11m1) (c := k11c1) (by decide +kernel) rfl rfl rfl (by decide +kernel)
set_option maxRecDepth 65536 in
theorem w_c37 : (Jvm.Cond.code ({ cls := "java/lang/Exception", name := "<init>", desc := "(Ljava/lang/String;)V" } : Jvm.MethodName) jdk_59_method_2_code (2 : Nat) (Option.none : Option Jvm.ClassFile.FieldType)).before args0 about1 = true := code_word (m := ⟨10, 1⟩) (meth := k10m1) (c := k10c1) (by decide +kernel) rfl rfl rfl (by decide +kernel)
set_option maxRecDepth 65536 in
theorem w_c38 : (Jvm.Cond.code ({ cls := "java/lang/Throwable", name := "<init>", desc := "(Ljava/lang/String;)V" } : Jvm.MethodName) jdk_78_method_2_code (2 : Nat) (Option.none : Option Jvm.ClassFile.FieldType)).before args0 about1 = true := code_word (m := ⟨9, 1⟩) (meth := k9m1) (c := k9c1) (by decide +kernel) rfl rfl rfl (by decide +kernel)
set_option maxRecDepth 65536 in
theorem w_c39 : (Jvm.Cond.code ({ cls := "java/lang/Throwable", name := "<init>", desc := "()V" } : Jvm.MethodName) jdk_78_method_1_code (1 : Nat) (Option.none : Option Jvm.ClassFile.FieldType)).before args0 about1 = true := code_word (m := ⟨9, 0⟩) (meth := k9m0) (c := k9c0) (by decide +kernel) rfl rfl rfl (by decide +kernel)
set_option maxRecDepth 65536 in
theorem w_c40 : (Jvm.Cond.code ({ cls := "java/lang/Throwable", name := "getMessage", desc := "()Ljava/lang/String;" } : Jvm.MethodName) jdk_78_method_6_code (1 : Nat) (Option.some (Jvm.ClassFile.FieldType.object "java/lang/String"))).before args0 about1 = true := code_word (m := ⟨9, 2⟩) (meth := k9m2) (c := k9c2) (by decide +kernel) rfl rfl rfl (by decide +kernel)
set_option maxRecDepth 65536 in
theorem w_c41 : (Jvm.Cond.code ({ cls := "com/example/plain_hub/plainhub/HubException", name := "status", desc := "()I" } : Jvm.MethodName) prog_2_method_8_code (1 : Nat) (Option.some Jvm.ClassFile.FieldType.int)).before args0 about1 = true := code_word (m := ⟨12, 2⟩) (meth := k12m2) (c := k12c2) (by decide +kernel) rfl rfl rfl (by decide +kernel)
set_option maxRecDepth 65536 in
theorem w_c42 : (Jvm.Cond.code ({ cls := "com/example/plain_hub/plainhub/HubException", name := "code", desc := "()I" } : Jvm.MethodName) prog_2_method_9_code (1 : Nat) (Option.some Jvm.ClassFile.FieldType.int)).before args0 about1 = true := code_word (m := ⟨12, 3⟩) (meth := k12m3) (c := k12c3) (by decide +kernel) rfl rfl rfl (by decide +kernel)
set_option maxRecDepth 65536 in
theorem w_c43 : (Jvm.Cond.code ({ cls := "java/lang/String", name := "equals", desc := "(Ljava/lang/Object;)Z" } : Jvm.MethodName) jdk_42_method_66_code (3 : Nat) (Option.some Jvm.ClassFile.FieldType.boolean)).before args0 about1 = true := code_word (m := ⟨7, 4⟩) (meth := k7m4) (c := k7c4) (by decide +kernel) rfl rfl rfl (by decide +kernel)
set_option maxRecDepth 65536 in
theorem w_c44 : (Jvm.Cond.code ({ cls := "java/lang/StringLatin1", name := "equals", desc := "([B[B)Z" } : Jvm.MethodName) jdk_43_method_13_code (3 : Nat) (Option.some Jvm.ClassFile.FieldType.boolean)).before args0 about1 = true := code_word (m := ⟨20, 1⟩) (meth := k20m1) (c := k20c1) (by decide +kernel) rfl rfl rfl (by decide +kernel)
def codes1 : List Jvm.Cond := [Jvm.Cond.code x code maxLocals ret, Jvm.Cond.code ({ cls := "com/example/plain_hub/plainhub/HubExceptionForbiddenPinLaw", name := "reasonOf", desc := "(ICCC)Ljava/lang/String;" } : Jvm.MethodName) method_2_code (4 : Nat) (Option.some (Jvm.ClassFile.FieldType.object "java/lang/String")), Jvm.Cond.code ({ cls := "java/lang/String", name := "<init>", desc := "([C)V" } : Jvm.MethodName) jdk_42_method_3_code (2 : Nat) (Option.none : Option Jvm.ClassFile.FieldType), Jvm.Cond.code ({ cls := "java/lang/String", name := "<init>", desc := "([CIILjava/lang/Void;)V" } : Jvm.MethodName) jdk_42_method_149_code (6 : Nat) (Option.none : Option Jvm.ClassFile.FieldType), Jvm.Cond.code ({ cls := "java/lang/Object", name := "<init>", desc := "()V" } : Jvm.MethodName) object_method_1_code (1 : Nat) (Option.none : Option Jvm.ClassFile.FieldType), Jvm.Cond.code ({ cls := "com/example/plain_hub/plainhub/HubExceptionForbiddenPinLaw", name := "expected", desc := "(ICCC)Ljava/lang/String;" } : Jvm.MethodName) method_3_code (4 : Nat) (Option.some (Jvm.ClassFile.FieldType.object "java/lang/String")), Jvm.Cond.code ({ cls := "java/lang/StringUTF16", name := "compress", desc := "([CII)[B" } : Jvm.MethodName) jdk_52_method_16_code (6 : Nat) (Option.some (Jvm.ClassFile.FieldType.array Jvm.ClassFile.FieldType.byte)), Jvm.Cond.code ({ cls := "java/lang/StringUTF16", name := "compress", desc := "([CI[BII)I" } : Jvm.MethodName) jdk_52_method_21_code (7 : Nat) (Option.some Jvm.ClassFile.FieldType.int), Jvm.Cond.code ({ cls := "java/lang/StringUTF16", name := "coderFromArrayLen", desc := "([BI)B" } : Jvm.MethodName) jdk_52_method_15_code (2 : Nat) (Option.some Jvm.ClassFile.FieldType.byte), Jvm.Cond.code ({ cls := "com/example/plain_hub/plainhub/HubException", name := "forbidden", desc := "(Ljava/lang/String;)Lcom/example/plain_hub/plainhub/HubException;" } : Jvm.MethodName) prog_2_method_4_code (1 : Nat) (Option.some (Jvm.ClassFile.FieldType.object "com/example/plain_hub/plainhub/HubException")), Jvm.Cond.code ({ cls := "java/lang/StringBuilder", name := "<init>", desc := "()V" } : Jvm.MethodName) jdk_67_method_1_code (1 : Nat) (Option.none : Option Jvm.ClassFile.FieldType), Jvm.Cond.code ({ cls := "java/lang/AbstractStringBuilder", name := "<init>", desc := "(I)V" } : Jvm.MethodName) jdk_68_method_2_code (2 : Nat) (Option.none : Option Jvm.ClassFile.FieldType), Jvm.Cond.code ({ cls := "java/lang/StringBuilder", name := "append", desc := "(Ljava/lang/String;)Ljava/lang/StringBuilder;" } : Jvm.MethodName) jdk_67_method_7_code (2 : Nat) (Option.some (Jvm.ClassFile.FieldType.object "java/lang/StringBuilder")), Jvm.Cond.code ({ cls := "java/lang/AbstractStringBuilder", name := "append", desc := "(Ljava/lang/String;)Ljava/lang/AbstractStringBuilder;" } : Jvm.MethodName) jdk_68_method_22_code (3 : Nat) (Option.some (Jvm.ClassFile.FieldType.object "java/lang/AbstractStringBuilder")), Jvm.Cond.code ({ cls := "java/lang/String", name := "length", desc := "()I" } : Jvm.MethodName) jdk_42_method_54_code (1 : Nat) (Option.some Jvm.ClassFile.FieldType.int), Jvm.Cond.code ({ cls := "java/lang/String", name := "coder", desc := "()B" } : Jvm.MethodName) jdk_42_method_152_code (1 : Nat) (Option.some Jvm.ClassFile.FieldType.byte), Jvm.Cond.code ({ cls := "java/lang/AbstractStringBuilder", name := "ensureCapacityInternal", desc := "(I)V" } : Jvm.MethodName) jdk_68_method_9_code (3 : Nat) (Option.none : Option Jvm.ClassFile.FieldType), Jvm.Cond.code ({ cls := "java/lang/AbstractStringBuilder", name := "newCapacity", desc := "(I)I" } : Jvm.MethodName) jdk_68_method_10_code (6 : Nat) (Option.some Jvm.ClassFile.FieldType.int), Jvm.Cond.code ({ cls := "jdk/internal/util/ArraysSupport", name := "newLength", desc := "(III)I" } : Jvm.MethodName) jdk_48_method_27_code (4 : Nat) (Option.some Jvm.ClassFile.FieldType.int), Jvm.Cond.code ({ cls := "java/lang/Math", name := "max", desc := "(II)I" } : Jvm.MethodName) jdk_29_method_65_code (2 : Nat) (Option.some Jvm.ClassFile.FieldType.int), Jvm.Cond.code ({ cls := "java/util/Arrays", name := "copyOf", desc := "([BI)[B" } : Jvm.MethodName) jdk_65_method_121_code (3 : Nat) (Option.some (Jvm.ClassFile.FieldType.array Jvm.ClassFile.FieldType.byte)), Jvm.Cond.code ({ cls := "java/lang/Math", name := "min", desc := "(II)I" } : Jvm.MethodName) jdk_29_method_69_code (2 : Nat) (Option.some Jvm.ClassFile.FieldType.int), Jvm.Cond.code ({ cls := "java/lang/AbstractStringBuilder", name := "putStringAt", desc := "(ILjava/lang/String;)V" } : Jvm.MethodName) jdk_68_method_73_code (3 : Nat) (Option.none : Option Jvm.ClassFile.FieldType), Jvm.Cond.code ({ cls := "java/lang/AbstractStringBuilder", name := "inflateIfNeededFor", desc := "(Ljava/lang/String;)V" } : Jvm.MethodName) jdk_68_method_71_code (2 : Nat) (Option.none : Option Jvm.ClassFile.FieldType), Jvm.Cond.code ({ cls := "java/lang/String", name := "getBytes", desc := "([BIB)V" } : Jvm.MethodName) jdk_42_method_147_code (4 : Nat) (Option.none : Option Jvm.ClassFile.FieldType), Jvm.Cond.code ({ cls := "java/lang/StringBuilder", name := "toString", desc := "()Ljava/lang/String;" } : Jvm.MethodName) jdk_67_method_42_code (1 : Nat) (Option.some (Jvm.ClassFile.FieldType.object "java/lang/String")), Jvm.Cond.code ({ cls := "java/lang/String", name := "<init>", desc := "(Ljava/lang/StringBuilder;)V" } : Jvm.MethodName) jdk_42_method_53_code (2 : Nat) (Option.none : Option Jvm.ClassFile.FieldType), Jvm.Cond.code ({ cls := "java/lang/String", name := "<init>", desc := "(Ljava/lang/AbstractStringBuilder;Ljava/lang/Void;)V" } : Jvm.MethodName) jdk_42_method_150_code (5 : Nat) (Option.none : Option Jvm.ClassFile.FieldType), Jvm.Cond.code ({ cls := "java/lang/AbstractStringBuilder", name := "getValue", desc := "()[B" } : Jvm.MethodName) jdk_68_method_64_code (1 : Nat) (Option.some (Jvm.ClassFile.FieldType.array Jvm.ClassFile.FieldType.byte)), Jvm.Cond.code ({ cls := "java/lang/StringBuilder", name := "length", desc := "()I" } : Jvm.MethodName) jdk_67_method_93_code (1 : Nat) (Option.some Jvm.ClassFile.FieldType.int), Jvm.Cond.code ({ cls := "java/lang/AbstractStringBuilder", name := "length", desc := "()I" } : Jvm.MethodName) jdk_68_method_6_code (1 : Nat) (Option.some Jvm.ClassFile.FieldType.int), Jvm.Cond.code ({ cls := "java/lang/AbstractStringBuilder", name := "isLatin1", desc := "()Z" } : Jvm.MethodName) jdk_68_method_68_code (1 : Nat) (Option.some Jvm.ClassFile.FieldType.boolean), Jvm.Cond.code ({ cls := "java/util/Arrays", name := "copyOfRange", desc := "([BII)[B" } : Jvm.MethodName) jdk_65_method_132_code (3 : Nat) (Option.some (Jvm.ClassFile.FieldType.array Jvm.ClassFile.FieldType.byte)), Jvm.Cond.code ({ cls := "java/util/Arrays", name := "copyOfRangeByte", desc := "([BII)[B" } : Jvm.MethodName) jdk_65_method_133_code (5 : Nat) (Option.some (Jvm.ClassFile.FieldType.array Jvm.ClassFile.FieldType.byte)), Jvm.Cond.code ({ cls := "java/util/Arrays", name := "checkLength", desc := "(II)V" } : Jvm.MethodName) jdk_65_method_131_code (2 : Nat) (Option.none : Option Jvm.ClassFile.FieldType), Jvm.Cond.code ({ cls := "com/example/plain_hub/plainhub/HubException", name := "<init>", desc := "(IILjava/lang/String;)V" } : Jvm.MethodName) prog_2_method_1_code (4 : Nat) (Option.none : Option Jvm.ClassFile.FieldType), Jvm.Cond.code ({ cls := "java/lang/RuntimeException", name := "<init>", desc := "(Ljava/lang/String;)V" } : Jvm.MethodName) jdk_58_method_2_code (2 : Nat) (Option.none : Option Jvm.ClassFile.FieldType), Jvm.Cond.code ({ cls := "java/lang/Exception", name := "<init>", desc := "(Ljava/lang/String;)V" } : Jvm.MethodName) jdk_59_method_2_code (2 : Nat) (Option.none : Option Jvm.ClassFile.FieldType), Jvm.Cond.code ({ cls := "java/lang/Throwable", name := "<init>", desc := "(Ljava/lang/String;)V" } : Jvm.MethodName) jdk_78_method_2_code (2 : Nat) (Option.none : Option Jvm.ClassFile.FieldType), Jvm.Cond.code ({ cls := "java/lang/Throwable", name := "<init>", desc := "()V" } : Jvm.MethodName) jdk_78_method_1_code (1 : Nat) (Option.none : Option Jvm.ClassFile.FieldType), Jvm.Cond.code ({ cls := "java/lang/Throwable", name := "getMessage", desc := "()Ljava/lang/String;" } : Jvm.MethodName) jdk_78_method_6_code (1 : Nat) (Option.some (Jvm.ClassFile.FieldType.object "java/lang/String")), Jvm.Cond.code ({ cls := "com/example/plain_hub/plainhub/HubException", name := "status", desc := "()I" } : Jvm.MethodName) prog_2_method_8_code (1 : Nat) (Option.some Jvm.ClassFile.FieldType.int), Jvm.Cond.code ({ cls := "com/example/plain_hub/plainhub/HubException", name := "code", desc := "()I" } : Jvm.MethodName) prog_2_method_9_code (1 : Nat) (Option.some Jvm.ClassFile.FieldType.int), Jvm.Cond.code ({ cls := "java/lang/String", name := "equals", desc := "(Ljava/lang/Object;)Z" } : Jvm.MethodName) jdk_42_method_66_code (3 : Nat) (Option.some Jvm.ClassFile.FieldType.boolean), Jvm.Cond.code ({ cls := "java/lang/StringLatin1", name := "equals", desc := "([B[B)Z" } : Jvm.MethodName) jdk_43_method_13_code (3 : Nat) (Option.some Jvm.ClassFile.FieldType.boolean)]
set_option maxRecDepth 65536 in
theorem codes_eq : words1.filter isCode = codes1 := rfl
theorem w_codes : ∀ c ∈ words1.filter isCode, c.before args0 about1 = true := by
  rw [codes_eq]
  intro c hc
  simp only [codes1, List.mem_cons, List.not_mem_nil, or_false] at hc
  rcases hc with rfl | rfl | rfl | rfl | rfl | rfl | rfl | rfl | rfl | rfl | rfl | rfl | rfl | rfl | rfl | rfl | rfl | rfl | rfl | rfl | rfl | rfl | rfl | rfl | rfl | rfl | rfl | rfl | rfl | rfl | rfl | rfl | rfl | rfl | rfl | rfl | rfl | rfl | rfl | rfl | rfl | rfl | rfl | rfl | rfl
  · exact w_c0
  · exact w_c1
  · exact w_c2
  · exact w_c3
  · exact w_c4
  · exact w_c5
  · exact w_c6
  · exact w_c7
  · exact w_c8
  · exact w_c9
  · exact w_c10
  · exact w_c11
  · exact w_c12
  · exact w_c13
  · exact w_c14
  · exact w_c15
  · exact w_c16
  · exact w_c17
  · exact w_c18
  · exact w_c19
  · exact w_c20
  · exact w_c21
  · exact w_c22
  · exact w_c23
  · exact w_c24
  · exact w_c25
  · exact w_c26
  · exact w_c27
  · exact w_c28
  · exact w_c29
  · exact w_c30
  · exact w_c31
  · exact w_c32
  · exact w_c33
  · exact w_c34
  · exact w_c35
  · exact w_c36
  · exact w_c37
  · exact w_c38
  · exact w_c39
  · exact w_c40
  · exact w_c41
  · exact w_c42
  · exact w_c43
  · exact w_c44
set_option maxRecDepth 65536 in
theorem w_t1 : (words1.take 24).all (fun c => isCode c || c.before args0 about1) = true := by decide +kernel
set_option maxRecDepth 65536 in
theorem w_t2 : ((words1.drop 24).take 24).all (fun c => isCode c || c.before args0 about1) = true := by decide +kernel
set_option maxRecDepth 65536 in
theorem w_t3 : (((words1.drop 24).drop 24).take 24).all (fun c => isCode c || c.before args0 about1) = true := by decide +kernel
set_option maxRecDepth 65536 in
theorem w_t4 : ((((words1.drop 24).drop 24).drop 24).take 24).all (fun c => isCode c || c.before args0 about1) = true := by decide +kernel
set_option maxRecDepth 65536 in
theorem w_t5 : (((((words1.drop 24).drop 24).drop 24).drop 24).take 24).all (fun c => isCode c || c.before args0 about1) = true := by decide +kernel
set_option maxRecDepth 65536 in
theorem w_t6 : ((((((words1.drop 24).drop 24).drop 24).drop 24).drop 24).take 24).all (fun c => isCode c || c.before args0 about1) = true := by decide +kernel
set_option maxRecDepth 65536 in
theorem w_t7 : (((((((words1.drop 24).drop 24).drop 24).drop 24).drop 24).drop 24).take 24).all (fun c => isCode c || c.before args0 about1) = true := by decide +kernel
set_option maxRecDepth 65536 in
theorem w_t8 : ((((((((words1.drop 24).drop 24).drop 24).drop 24).drop 24).drop 24).drop 24).take 24).all (fun c => isCode c || c.before args0 about1) = true := by decide +kernel
set_option maxRecDepth 65536 in
theorem w_t9 : (((((((((words1.drop 24).drop 24).drop 24).drop 24).drop 24).drop 24).drop 24).drop 24).take 24).all (fun c => isCode c || c.before args0 about1) = true := by decide +kernel
set_option maxRecDepth 65536 in
theorem w_t10 : ((((((((((words1.drop 24).drop 24).drop 24).drop 24).drop 24).drop 24).drop 24).drop 24).drop 24).take 24).all (fun c => isCode c || c.before args0 about1) = true := by decide +kernel
set_option maxRecDepth 65536 in
theorem w_t11 : ((((((((((words1.drop 24).drop 24).drop 24).drop 24).drop 24).drop 24).drop 24).drop 24).drop 24).drop 24).all (fun c => isCode c || c.before args0 about1) = true := by decide +kernel
theorem w_tables : (allAtoms (Jvm.Cond.code x code maxLocals ret :: tables_1)).before args0 about1 = true := by
  rw [allAtoms_all]
  show words1.all (fun c => c.before args0 about1) = true
  refine all_split ?_ w_codes
  rw [← List.take_append_drop 24 words1, List.all_append, w_t1, ← List.take_append_drop 24 (words1.drop 24), List.all_append, w_t2, ← List.take_append_drop 24 ((words1.drop 24).drop 24), List.all_append, w_t3, ← List.take_append_drop 24 (((words1.drop 24).drop 24).drop 24), List.all_append, w_t4, ← List.take_append_drop 24 ((((words1.drop 24).drop 24).drop 24).drop 24), List.all_append, w_t5, ← List.take_append_drop 24 (((((words1.drop 24).drop 24).drop 24).drop 24).drop 24), List.all_append, w_t6, ← List.take_append_drop 24 ((((((words1.drop 24).drop 24).drop 24).drop 24).drop 24).drop 24), List.all_append, w_t7, ← List.take_append_drop 24 (((((((words1.drop 24).drop 24).drop 24).drop 24).drop 24).drop 24).drop 24), List.all_append, w_t8, ← List.take_append_drop 24 ((((((((words1.drop 24).drop 24).drop 24).drop 24).drop 24).drop 24).drop 24).drop 24), List.all_append, w_t9, ← List.take_append_drop 24 (((((((((words1.drop 24).drop 24).drop 24).drop 24).drop 24).drop 24).drop 24).drop 24).drop 24), List.all_append, w_t10, w_t11]
  rfl
set_option maxRecDepth 65536 in
theorem w_rest : rest_1_c.before args0 about1 = true := by decide +kernel
set_option maxRecDepth 65536 in
theorem w_case : (Jvm.Cond.and given_1 narrow_1).before args0 about1 = true := by decide +kernel
set_option maxRecDepth 65536 in
theorem w_consts : constsHeld consts_1 about1 := Jvm.Lit.constsHeldB_iff.mp (by decide +kernel)
theorem w_applies : (headSpec (Jvm.Cond.code x code maxLocals ret :: tables_1) room_1).applies x e0.platform about1 = true :=
  (Spec.applies_iff w_frames).mpr ⟨w_running, w_runnable, w_alone, w_named, w_hears, w_ripe, w_room, w_tables⟩
theorem atStart : AtStart classFile x code maxLocals ret World_1 tables_1 room_1 Calls_1 rest_1 Pre_1 launch0 p0 e0 about1 theMethod args0 below0 :=
  ⟨lists_1, trivial, launch0.admits_env _ _ _, launch0.least_env, fairChoices_fair.cas, fairChoices_fair.clock, w_frames, w_args, w_heap, w_applies, ⟨(by decide +kernel : framesKnown about1 = true), ⟨(by decide +kernel : tablesKnown about1 = true), ⟨w_consts, trivial⟩⟩⟩, w_rest, w_case⟩
end start1
theorem witness_1 : WitnessClaimed_1 := ⟨start1.p0, start1.e0, start1.about1, start1.theMethod, start1.args0, start1.below0, start1.atStart⟩
end Jvm.Pilot.@@N@@
