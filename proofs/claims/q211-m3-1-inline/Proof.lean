import JvmDerived
import JvmDerived.Pilot.@@N@@Statement
import JvmDerived.Pilot.@@N@@Code
set_option linter.unusedVariables false
set_option linter.unusedSimpArgs false
namespace Jvm.RoadKit
open Sem ClassFile Op Lib Jvm.Stand Jvm.Free Jvm.LawKit
section New
variable {p : Program} {l : Launch} {e : Env} {R : Room} {s : State} {m : MethodId} {args : Array Value} {below : List Frame} {meth : Method} {c : Code} {T : State} {locs : List Loc} {cells slots : Nat}
theorem retI (X : Stand p l e R s m args below meth c T locs cells slots) (hx : p.tables.exec = Jvm.exec) {pc : Nat} {Ls : Array Slot} {z : Int32} {rest : List Value} (hret : meth.sig.returnType = some .int) (hd : decode c.code pc = .ok (.ireturn, 1)) {fs : List Frame}
    (hl : ∀ (f : JFrame) (acts : List Action), f.method = m → f.locked = none → f.entered = [] → (doReturn e (T.setTop f) acts (some (.int z))).1 = T.setFrames fs) : Steps p.tables e below (T.setTop (mkF m pc Ls (.int z :: rest))) (T.setFrames fs) := by
  have hm' : T.vm.method? m = some meth := X.method'
  have hn : narrow .int (.int z) = .int z := rfl
  show Steps p.tables e below (T.setTop { method := m, pc := pc, locals := Ls, stack := _ :: rest, locked := none }) _
  jvm_step X.here [X.here.top, hx, hd, hm', hret, hn]
  first | (intro acts; rw [hl _ acts rfl rfl rfl]) | rw [hl _ _ rfl rfl rfl]
  exact Steps.refl _
end New
end Jvm.RoadKit
@@BLOCK:TracedD.lean.txt@@
/- laws to paste: Road.backV, Road.eqW, Road.chN, Road.codOf (cut by pick.py; bodies as the Statement names them) -/
namespace Jvm.Pilot.@@N@@
namespace StrChars
open Jvm Sem ClassFile Op Lib Jvm.Stand Jvm.Free.XT Jvm.Free.ALB Jvm.Free.JM Jvm.Free
open Jvm.Lib.Cold (StaticIs)
/-- a char array whose places are chars -/
def Ch (a : Addr) (A : Cell) (U : State) : Prop := Arr .char a A U ∧ Typed .char A
theorem Ch.mv {a : Addr} {A : Cell} {U U' : State} (h : Ch a A U) (hal : U.vm.Alike U'.vm) (hh : U'.heap = U.heap) : Ch a A U' := ⟨h.1.mv hal hh, h.2⟩
theorem Ch.keep {a : Addr} {A : Cell} {U U' : State} (h : Ch a A U) (hal : U.vm.Alike U'.vm) (hk : U'.heap[a]? = some A) : Ch a A U' := ⟨h.1.keep hal hk, h.2⟩
/-- what place i of a char[]'s cell holds -/
def cv (A : Cell) (i : Nat) : Int32 := match A.slots[i]? with | some (.int x) => x | _ => 0
theorem Ch.get {a : Addr} {A : Cell} {U : State} (h : Ch a A U) {i : Nat} (hi : i < A.slots.size) : A.slots[i]? = some (.int (cv A i)) := by
  have e := Array.getElem?_eq_getElem hi
  have f := h.2 i _ e
  unfold cv; rw [e]
  generalize A.slots[i] = v at f
  cases v <;> simp [fits] at f ⊢
/-- the byte that i2b leaves of a char -/
def lo8 (x : Int32) : Int32 := x.toInt8.toInt32
theorem fits_lo8 (y : Int32) : fits .byte (.int (lo8 y)) = true := by
  have h1 := y.toInt8.le_toInt
  have h2 := y.toInt8.toInt_lt
  simp only [lo8, fits, Bool.and_eq_true, decide_eq_true_eq, Int32.le_iff_toInt_le, Int8.toInt_toInt32, show (-128 : Int32).toInt = -128 from by decide, show (127 : Int32).toInt = 127 from by decide]
  omega
/-- A' is A but that each place j of lo .. hi - 1 holds f j -/
def Laid (A A' : Cell) (lo hi : Nat) (f : Nat → Value) : Prop := A'.cls = A.cls ∧ A'.vm = A.vm ∧ A'.slots.size = A.slots.size ∧ ∀ i, A'.slots[i]? = if lo ≤ i ∧ i < hi then some (f i) else A.slots[i]?
theorem Laid.zero (A : Cell) (lo : Nat) (f : Nat → Value) : Laid A A lo (lo + 0) f := ⟨rfl, rfl, rfl, fun i => by rw [if_neg (by omega)]⟩
theorem Laid.step {A Ak : Cell} {lo k : Nat} {f : Nat → Value} {v : Value} (h : Laid A Ak lo k f) (hlo : lo ≤ k) (hk : k < Ak.slots.size) (hv : v = f k) : Laid A (Ak.setSlot k v) lo (k + 1) f := by
  refine ⟨h.1, h.2.1, by simpa [Cell.setSlot] using h.2.2.1, fun i => ?_⟩
  by_cases e : k = i
  · subst e; rw [Cell.slots_setSlot_self v hk, if_pos (by omega), hv]
  · rw [Cell.slots_setSlot_ne v e, h.2.2.2 i]
    by_cases q : lo ≤ i ∧ i < k
    · rw [if_pos q, if_pos (by omega)]
    · rw [if_neg q, if_neg (by omega)]
def U16 : String := "java/lang/StringUTF16"
namespace Cmp5
def yN : MethodName := ⟨"java/lang/StringUTF16", "compress", "([CI[BII)I"⟩
abbrev yB : ByteArray := jdk_52_method_21_code
theorem d0 : decode yB 0 = .ok (.iconst 0, 1) := by decide +kernel
theorem d1 : decode yB 1 = .ok (.istore 5, 2) := by decide +kernel
theorem d3 : decode yB 3 = .ok (.iload 5, 2) := by decide +kernel
theorem d5 : decode yB 5 = .ok (.iload 4, 2) := by decide +kernel
theorem d7 : decode yB 7 = .ok (.if_icmp (.ge) 37, 3) := by decide +kernel
theorem d10 : decode yB 10 = .ok (.aload_n 0, 1) := by decide +kernel
theorem d11 : decode yB 11 = .ok (.iload_n 1, 1) := by decide +kernel
theorem d12 : decode yB 12 = .ok (.caload, 1) := by decide +kernel
theorem d13 : decode yB 13 = .ok (.istore 6, 2) := by decide +kernel
theorem d15 : decode yB 15 = .ok (.iload 6, 2) := by decide +kernel
theorem d17 : decode yB 17 = .ok (.sipush 255, 3) := by decide +kernel
theorem d20 : decode yB 20 = .ok (.if_icmp (.le) 6, 3) := by decide +kernel
theorem d26 : decode yB 26 = .ok (.aload_n 2, 1) := by decide +kernel
theorem d27 : decode yB 27 = .ok (.iload_n 3, 1) := by decide +kernel
theorem d28 : decode yB 28 = .ok (.iload 6, 2) := by decide +kernel
theorem d30 : decode yB 30 = .ok (.i2b, 1) := by decide +kernel
theorem d31 : decode yB 31 = .ok (.bastore, 1) := by decide +kernel
theorem d32 : decode yB 32 = .ok (.iinc 1 1, 3) := by decide +kernel
theorem d35 : decode yB 35 = .ok (.iinc 3 1, 3) := by decide +kernel
theorem d38 : decode yB 38 = .ok (.iinc 5 1, 3) := by decide +kernel
theorem d41 : decode yB 41 = .ok (.goto (-38), 3) := by decide +kernel
theorem d44 : decode yB 44 = .ok (.iload 4, 2) := by decide +kernel
theorem d46 : decode yB 46 = .ok (.ireturn, 1) := by decide +kernel
def site : List Cond := []
def tab : Cond := tabOf yN yB 7 (some .int) site
def P (b : Addr) (A : Cell) (d : Addr) (B : Cell) (o q len : Nat) (args : Array Value) (s : State) : Prop := args = #[.ref b, .int (Int32.ofNat o), .ref d, .int (Int32.ofNat q), .int (Int32.ofNat len)] ∧ Ch b A s ∧ Arr .byte d B s ∧ b ≠ d ∧ o + len ≤ A.slots.size ∧ q + len ≤ B.slots.size ∧ ∀ i, i < len → ¬ 255 < cv A (o + i)
def E (b : Addr) (A : Cell) (d : Addr) (B : Cell) (o q len : Nat) (r : Option Value) (s u : State) : Prop := r = some (.int (Int32.ofNat len)) ∧ ∃ B', Put d B' s u ∧ Laid B B' q (q + len) (fun j => Value.int (lo8 (cv A (o + (j - q)))))
/-- no char of the range above 255: len; the places written hold each char's low byte -/
theorem law (l : Launch) (b : Addr) (A : Cell) (d : Addr) (B : Cell) (o q len : Nat) : Law l yN 5 5 0 0 yB 7 (some .int) site (P b A d B o q len) (E b A d B o q len) (copyLocs d q len) 0 0 := by
  refine Law.of_walk (plainFor_of_name (by decide +kernel)) (by decide +kernel) (by decide +kernel) (by decide) (fun _ _ h => by rw [h.1]; rfl) (fun _ U U' hal hh h => ⟨h.1, h.2.1.mv hal hh, h.2.2.1.mv hal hh, h.2.2.2⟩) (fun r U U' V V' h1 hal h2 h => ⟨h.1, h.2.elim fun B' q => ⟨B', q.1.mv h1 h2, q.2⟩⟩) ?_
  intro p e s m args below meth c s₁ X0 hexec hbytes hml hret hlk hnm hown hh0 W hP
  obtain ⟨rfl, hA, hB, hne, l1, l2, hp⟩ := hP
  have c1 : Steps p.tables e below (s₁.setTop (entryFrame m #[.ref b, .int (Int32.ofNat o), .ref d, .int (Int32.ofNat q), .int (Int32.ofNat len)] 7)) (s₁.setTop (mkF m 0 #[.val (.ref b), .val (.int (Int32.ofNat o)), .val (.ref d), .val (.int (Int32.ofNat q)), .val (.int (Int32.ofNat len)), .unset, .unset] [])) := entry rfl
  have hA0 := hA.1.mv X0.warmed.alike hh0
  have hB0 := hB.mv X0.warmed.alike hh0
  have a31 := hA.1.2.2.2
  have c2 : Steps p.tables e below (s₁.setTop (entryFrame m #[.ref b, .int (Int32.ofNat o), .ref d, .int (Int32.ofNat q), .int (Int32.ofNat len)] 7)) (s₁.setTop (mkF m 3 #[.val (.ref b), .val (.int (Int32.ofNat o)), .val (.ref d), .val (.int (Int32.ofNat q)), .val (.int (Int32.ofNat len)), .val (.int 0), .unset] [])) := c1.trans (by
    refine iconstV X0.here hexec rfl 0 (hb hbytes d0) (by decide) ?_
    refine XS.istore X0.here hexec rfl (hb hbytes d1) rfl rfl ?_
    exact Steps.refl _)
  have loop : ∀ (r i : Nat), i + r = len → ∀ (z : Slot), (z = .unset ∨ ∃ w, z = .val w ∧ w.category = 1) → ∀ (Tl : State) (Bk : Cell), Stand p l e { frames := 0, locals := 0, cells := 0, slots := 0 } s m #[.ref b, .int (Int32.ofNat o), .ref d, .int (Int32.ofNat q), .int (Int32.ofNat len)] below meth c Tl ([] ++ copyLocs d q i) 0 0 → Put d Bk s₁ Tl → Laid B Bk q (q + i) (fun j => Value.int (lo8 (cv A (o + (j - q))))) →
      Steps p.tables e below (s₁.setTop (entryFrame m #[.ref b, .int (Int32.ofNat o), .ref d, .int (Int32.ofNat q), .int (Int32.ofNat len)] 7)) (Tl.setTop (mkF m 3 #[.val (.ref b), .val (.int (Int32.ofNat (o + i))), .val (.ref d), .val (.int (Int32.ofNat (q + i))), .val (.int (Int32.ofNat len)), .val (.int (Int32.ofNat i)), z] [])) → ∃ (T' : State) (B' : Cell) (z' : Slot), Stand p l e { frames := 0, locals := 0, cells := 0, slots := 0 } s m #[.ref b, .int (Int32.ofNat o), .ref d, .int (Int32.ofNat q), .int (Int32.ofNat len)] below meth c T' ([] ++ copyLocs d q len) 0 0 ∧ Put d B' s₁ T' ∧ Laid B B' q (q + len) (fun j => Value.int (lo8 (cv A (o + (j - q))))) ∧
      Steps p.tables e below (s₁.setTop (entryFrame m #[.ref b, .int (Int32.ofNat o), .ref d, .int (Int32.ofNat q), .int (Int32.ofNat len)] 7)) (T'.setTop (mkF m 3 #[.val (.ref b), .val (.int (Int32.ofNat (o + len))), .val (.ref d), .val (.int (Int32.ofNat (q + len))), .val (.int (Int32.ofNat len)), .val (.int (Int32.ofNat len)), z'] [])) := by
    intro r
    induction r with
    | zero =>
      intro i hi z hz Tl Bk Xl pl fl cl
      have hil : i = len := by omega
      rw [hil] at Xl fl cl
      exact ⟨Tl, Bk, z, Xl, pl, fl, cl⟩
    | succ r ih =>
      intro i hi z hz Tl Bk Xl pl fl cl
      have all := X0.warmed.alike.symm.trans Xl.warmed.alike
      have hAl := hA0.keep all (pl.other hne hA0.1)
      have hBk := hB0.like all pl.1 fl.1 fl.2.1 fl.2.2.1
      have hlt : q + i < Bk.slots.size := by rw [fl.2.2.1]; omega
      have c3 : Steps p.tables e below (s₁.setTop (entryFrame m #[.ref b, .int (Int32.ofNat o), .ref d, .int (Int32.ofNat q), .int (Int32.ofNat len)] 7)) (Tl.setTop (mkF m 12 #[.val (.ref b), .val (.int (Int32.ofNat (o + i))), .val (.ref d), .val (.int (Int32.ofNat (q + i))), .val (.int (Int32.ofNat len)), .val (.int (Int32.ofNat i)), z] [.int (Int32.ofNat (o + i)), .ref b])) := cl.trans (by
        refine XS.iload Xl.here hexec rfl (hb hbytes d3) rfl ?_
        refine XS.iload Xl.here hexec rfl (hb hbytes d5) rfl ?_
        refine XS.icmpNo Xl.here hexec rfl (hb hbytes d7) rfl (ii_ge_f (lt32 (by omega) (by omega))) ?_
        refine XS.aloadN Xl.here hexec rfl (hb hbytes d10) rfl rfl ?_
        refine XS.iloadN Xl.here hexec rfl (hb hbytes d11) rfl ?_
        exact Steps.refl _)
      have c4 : Steps p.tables e below (s₁.setTop (entryFrame m #[.ref b, .int (Int32.ofNat o), .ref d, .int (Int32.ofNat q), .int (Int32.ofNat len)] 7)) (Tl.setTop (mkF m 13 #[.val (.ref b), .val (.int (Int32.ofNat (o + i))), .val (.ref d), .val (.int (Int32.ofNat (q + i))), .val (.int (Int32.ofNat len)), .val (.int (Int32.ofNat i)), z] [.int (cv A (o + i))])) := c3.trans (by
        refine Xl.aget hexec hAl rfl (hA.get (i := o + i) (by omega)) rfl rfl (hb hbytes d12) ?_
        exact Steps.refl _)
      have c5 : Steps p.tables e below (s₁.setTop (entryFrame m #[.ref b, .int (Int32.ofNat o), .ref d, .int (Int32.ofNat q), .int (Int32.ofNat len)] 7)) (Tl.setTop (mkF m 15 #[.val (.ref b), .val (.int (Int32.ofNat (o + i))), .val (.ref d), .val (.int (Int32.ofNat (q + i))), .val (.int (Int32.ofNat len)), .val (.int (Int32.ofNat i)), .val (.int (cv A (o + i)))] [])) := c4.trans (by
        refine XS.istoreS Xl.here hexec rfl (hb hbytes d13) rfl rfl hz ?_
        exact Steps.refl _)
      have c6 : Steps p.tables e below (s₁.setTop (entryFrame m #[.ref b, .int (Int32.ofNat o), .ref d, .int (Int32.ofNat q), .int (Int32.ofNat len)] 7)) (Tl.setTop (mkF m 31 #[.val (.ref b), .val (.int (Int32.ofNat (o + i))), .val (.ref d), .val (.int (Int32.ofNat (q + i))), .val (.int (Int32.ofNat len)), .val (.int (Int32.ofNat i)), .val (.int (cv A (o + i)))] [.int (lo8 (cv A (o + i))), .int (Int32.ofNat (q + i)), .ref d])) := c5.trans (by
        refine XS.iload Xl.here hexec rfl (hb hbytes d15) rfl ?_
        refine sipushV Xl.here hexec rfl 255 (hb hbytes d17) (by decide) ?_
        refine XS.icmpYes Xl.here hexec rfl (pc0 := 20) rfl (hb hbytes d20) rfl (ii_le_t (hp i (by omega))) (by decide) rfl ?_
        refine XS.aloadN Xl.here hexec rfl (hb hbytes d26) rfl rfl ?_
        refine XS.iloadN Xl.here hexec rfl (hb hbytes d27) rfl ?_
        refine XS.iload Xl.here hexec rfl (hb hbytes d28) rfl ?_
        refine i2b Xl.here hexec rfl (hb hbytes d30) rfl ?_
        exact Steps.refl _)
      obtain ⟨T7, X7, p7, st7⟩ := Xl.aput hexec hBk rfl hlt rfl (fits_lo8 (cv A (o + i))) (g := (mkF m 31 #[.val (.ref b), .val (.int (Int32.ofNat (o + i))), .val (.ref d), .val (.int (Int32.ofNat (q + i))), .val (.int (Int32.ofNat len)), .val (.int (Int32.ofNat i)), .val (.int (cv A (o + i)))] [.int (lo8 (cv A (o + i))), .int (Int32.ofNat (q + i)), .ref d])) rfl (rest := []) rfl (hb hbytes d31)
      have c8 : Steps p.tables e below (s₁.setTop (entryFrame m #[.ref b, .int (Int32.ofNat o), .ref d, .int (Int32.ofNat q), .int (Int32.ofNat len)] 7)) (T7.setTop (mkF m 32 #[.val (.ref b), .val (.int (Int32.ofNat (o + i))), .val (.ref d), .val (.int (Int32.ofNat (q + i))), .val (.int (Int32.ofNat len)), .val (.int (Int32.ofNat i)), .val (.int (cv A (o + i)))] [])) := c6.trans (st7 _ (Steps.refl _))
      have c9 : Steps p.tables e below (s₁.setTop (entryFrame m #[.ref b, .int (Int32.ofNat o), .ref d, .int (Int32.ofNat q), .int (Int32.ofNat len)] 7)) (T7.setTop (mkF m 3 #[.val (.ref b), .val (.int (Int32.ofNat (o + i) + 1)), .val (.ref d), .val (.int (Int32.ofNat (q + i) + 1)), .val (.int (Int32.ofNat len)), .val (.int (Int32.ofNat i + 1)), .val (.int (cv A (o + i)))] [])) := c8.trans (by
        refine iincV X7.here hexec rfl 1 (hb hbytes d32) (by decide) rfl rfl ?_
        refine iincV X7.here hexec rfl 1 (hb hbytes d35) (by decide) rfl rfl ?_
        refine iincV X7.here hexec rfl 1 (hb hbytes d38) (by decide) rfl rfl ?_
        refine XS.goto X7.here hexec rfl (pc0 := 41) rfl (hb hbytes d41) (by decide) rfl ?_
        exact Steps.refl _)
      have c10 : Steps p.tables e below (s₁.setTop (entryFrame m #[.ref b, .int (Int32.ofNat o), .ref d, .int (Int32.ofNat q), .int (Int32.ofNat len)] 7)) (T7.setTop (mkF m 3 #[.val (.ref b), .val (.int (Int32.ofNat (o + (i + 1)))), .val (.ref d), .val (.int (Int32.ofNat (q + (i + 1)))), .val (.int (Int32.ofNat len)), .val (.int (Int32.ofNat (i + 1))), .val (.int (cv A (o + i)))] [])) := by
        have := c9
        rw [succ32, succ32, succ32] at this
        exact this
      exact ih (i + 1) (by omega) _ (Or.inr ⟨_, rfl, rfl⟩) T7 _ (by rw [copyLocs_step, ← List.append_assoc]; exact X7) (pl.trans p7) (fl.step (by omega) hlt (by simp)) c10
  obtain ⟨T9, B9, z9, X9, p9, f9, g9⟩ := loop len 0 (by omega) .unset (Or.inl rfl) s₁ B (by simpa [copyLocs] using X0) ⟨hB0.1, fun _ _ => rfl, rfl⟩ (Laid.zero _ _ _) c2
  have c11 : Steps p.tables e below (s₁.setTop (entryFrame m #[.ref b, .int (Int32.ofNat o), .ref d, .int (Int32.ofNat q), .int (Int32.ofNat len)] 7)) (T9.setTop (mkF m 46 #[.val (.ref b), .val (.int (Int32.ofNat (o + len))), .val (.ref d), .val (.int (Int32.ofNat (q + len))), .val (.int (Int32.ofNat len)), .val (.int (Int32.ofNat len)), z9] [.int (Int32.ofNat len)])) := g9.trans (by
    refine XS.iload X9.here hexec rfl (hb hbytes d3) rfl ?_
    refine XS.iload X9.here hexec rfl (hb hbytes d5) rfl ?_
    refine XS.icmpYes X9.here hexec rfl (pc0 := 7) rfl (hb hbytes d7) rfl (ii_ge_t (nlt32 (by omega) (Nat.le_refl _))) (by decide) rfl ?_
    refine XS.iload X9.here hexec rfl (hb hbytes d44) rfl ?_
    exact Steps.refl _)
  exact ⟨T9, some (.int (Int32.ofNat len)), _, _, _, X9, by simp, rfl, rfl, (fun h => by cases h), ⟨rfl, B9, p9.from hh0, f9⟩, fun fs hl => c11.trans (X9.ireturnOut hexec hret rfl (Or.inl rfl) (hb hbytes d46) hl)⟩
end Cmp5
namespace Cmp3
def yN : MethodName := ⟨"java/lang/StringUTF16", "compress", "([CII)[B"⟩
abbrev yB : ByteArray := jdk_52_method_16_code
theorem d0 : decode yB 0 = .ok (.iload_n 2, 1) := by decide +kernel
theorem d1 : decode yB 1 = .ok (.newarray .byte, 2) := by decide +kernel
theorem d3 : decode yB 3 = .ok (.astore_n 3, 1) := by decide +kernel
theorem d4 : decode yB 4 = .ok (.aload_n 0, 1) := by decide +kernel
theorem d5 : decode yB 5 = .ok (.iload_n 1, 1) := by decide +kernel
theorem d6 : decode yB 6 = .ok (.aload_n 3, 1) := by decide +kernel
theorem d7 : decode yB 7 = .ok (.iconst 0, 1) := by decide +kernel
theorem d8 : decode yB 8 = .ok (.iload_n 2, 1) := by decide +kernel
theorem d9 : decode yB 9 = .ok (.invokestatic 115, 3) := by decide +kernel
theorem d12 : decode yB 12 = .ok (.istore 4, 2) := by decide +kernel
theorem d14 : decode yB 14 = .ok (.iload 4, 2) := by decide +kernel
theorem d16 : decode yB 16 = .ok (.iload_n 2, 1) := by decide +kernel
theorem d17 : decode yB 17 = .ok (.if_icmp (.eq) 40, 3) := by decide +kernel
theorem d57 : decode yB 57 = .ok (.aload_n 3, 1) := by decide +kernel
theorem d58 : decode yB 58 = .ok (.areturn, 1) := by decide +kernel
def site : List Cond := [.arrayClass .byte, Cmp5.tab] ++ staticW U16 115 Cmp5.yN
def tab : Cond := tabOf yN yB 6 (some (.array .byte)) site
def P (b : Addr) (A : Cell) (o len : Nat) (args : Array Value) (s : State) : Prop := args = #[.ref b, .int (Int32.ofNat o), .int (Int32.ofNat len)] ∧ Ch b A s ∧ o + len ≤ A.slots.size ∧ len ≤ 536870912 ∧ ∀ i, i < len → ¬ 255 < cv A (o + i)
def E (b : Addr) (A : Cell) (o len : Nat) (r : Option Value) (s u : State) : Prop := NewArr .byte "[B" len (fun j => .int (lo8 (cv A (o + j)))) r s u ∧ u.heap.size = s.heap.size + 1
/-- no char of the range above 255: a new byte[] of their low bytes -/
theorem law (l : Launch) (b : Addr) (A : Cell) (o len : Nat) : Law l yN 3 3 1 18 yB 6 (some (.array .byte)) site (P b A o len) (E b A o len) [] 1 len := by
  refine Law.of_walk (plainFor_of_name (by decide +kernel)) (by decide +kernel) (by decide +kernel) (by decide) (fun _ _ h => by rw [h.1]; rfl) (fun _ U U' hal hh h => ⟨h.1, h.2.1.mv hal hh, h.2.2⟩) (fun r U U' V V' h1 hal h2 h => ⟨NewArr.mv r U U' V V' h1 hal h2 h.1, by rw [h1, h2]; exact h.2⟩) ?_
  intro p e s m args below meth c s₁ X0 hexec hbytes hml hret hlk hnm hown hh0 W hP
  obtain ⟨rfl, hA, l1, l2, hp⟩ := hP
  have a31 := hA.1.2.2.2
  have c1 : Steps p.tables e below (s₁.setTop (entryFrame m #[.ref b, .int (Int32.ofNat o), .int (Int32.ofNat len)] 6)) (s₁.setTop (mkF m 0 #[.val (.ref b), .val (.int (Int32.ofNat o)), .val (.int (Int32.ofNat len)), .unset, .unset, .unset] [])) := entry rfl
  have c2 : Steps p.tables e below (s₁.setTop (entryFrame m #[.ref b, .int (Int32.ofNat o), .int (Int32.ofNat len)] 6)) (s₁.setTop (mkF m 1 #[.val (.ref b), .val (.int (Int32.ofNat o)), .val (.int (Int32.ofNat len)), .unset, .unset, .unset] [.int (Int32.ofNat len)])) := c1.trans (by
    refine XS.iloadN X0.here hexec rfl (hb hbytes d0) rfl ?_
    exact Steps.refl _)
  obtain ⟨T3, B3, X3, ba3, bs3, bv3, bh3, bf3, st3⟩ := X0.anew hexec (atype := .byte) (wk W (.arrayClass .byte)) rfl (by show len * 1 ≤ _; omega) (by omega) (g := (mkF m 1 #[.val (.ref b), .val (.int (Int32.ofNat o)), .val (.int (Int32.ofNat len)), .unset, .unset, .unset] [.int (Int32.ofNat len)])) rfl (hb hbytes d1) (rest := []) rfl (Nat.le_refl _) (by show 0 + len ≤ len; omega)
  rw [hh0] at ba3 st3
  have kp3 : XT.Kept s T3 := (XT.Kept.of_eq hh0).push bh3
  have hA3 := hA.keep X3.warmed.alike (kp3 _ _ hA.1.1)
  have hne : b ≠ s.heap.size := hA.1.ne
  have c4 : Steps p.tables e below (s₁.setTop (entryFrame m #[.ref b, .int (Int32.ofNat o), .int (Int32.ofNat len)] 6)) (T3.setTop (mkF m 3 #[.val (.ref b), .val (.int (Int32.ofNat o)), .val (.int (Int32.ofNat len)), .unset, .unset, .unset] [.ref s.heap.size])) := c2.trans (st3 _ (Steps.refl _))
  have c5 : Steps p.tables e below (s₁.setTop (entryFrame m #[.ref b, .int (Int32.ofNat o), .int (Int32.ofNat len)] 6)) (T3.setTop (mkF m 9 #[.val (.ref b), .val (.int (Int32.ofNat o)), .val (.int (Int32.ofNat len)), .val (.ref s.heap.size), .unset, .unset] [.int (Int32.ofNat len), .int 0, .ref s.heap.size, .int (Int32.ofNat o), .ref b])) := c4.trans (by
    refine XS.astoreN X3.here hexec rfl (hb hbytes d3) rfl rfl rfl ?_
    refine XS.aloadN X3.here hexec rfl (hb hbytes d4) rfl rfl ?_
    refine XS.iloadN X3.here hexec rfl (hb hbytes d5) rfl ?_
    refine XS.aloadN X3.here hexec rfl (hb hbytes d6) rfl rfl ?_
    refine iconstV X3.here hexec rfl 0 (hb hbytes d7) (by decide) ?_
    refine XS.iloadN X3.here hexec rfl (hb hbytes d8) rfl ?_
    exact Steps.refl _)
  obtain ⟨v6, T6, X6, E6, g6⟩ := X3.callS hexec (Cmp5.law l b A s.heap.size B3 o 0 len) hown (wks W (staticW U16 115 Cmp5.yN)) (wk W Cmp5.tab) (W := 0) (Nat.le_of_ble_eq_true rfl) (Nat.le_of_ble_eq_true rfl) (Nat.le_refl _) (by show 0 + len + 0 ≤ len; omega) (g := (mkF m 9 #[.val (.ref b), .val (.int (Int32.ofNat o)), .val (.int (Int32.ofNat len)), .val (.ref s.heap.size), .unset, .unset] [.int (Int32.ofNat len), .int (Int32.ofNat 0), .ref s.heap.size, .int (Int32.ofNat o), .ref b])) rfl (by rw [hml]; rfl) c5 (argsL := [.ref b, .int (Int32.ofNat o), .ref s.heap.size, .int (Int32.ofNat 0), .int (Int32.ofNat len)]) (rest := []) rfl rfl (by show 2 * 0 + 0 ≤ _; decide) (hb hbytes d9) (⟨rfl, hA3, ba3, hne, l1, by rw [bs3]; simp, hp⟩)
  obtain ⟨rfl, B6, p6, f6⟩ := E6
  have c7 : Steps p.tables e below (s₁.setTop (entryFrame m #[.ref b, .int (Int32.ofNat o), .int (Int32.ofNat len)] 6)) (T6.setTop (mkF m 12 #[.val (.ref b), .val (.int (Int32.ofNat o)), .val (.int (Int32.ofNat len)), .val (.ref s.heap.size), .unset, .unset] [.int (Int32.ofNat len)])) := g6
  have c8 : Steps p.tables e below (s₁.setTop (entryFrame m #[.ref b, .int (Int32.ofNat o), .int (Int32.ofNat len)] 6)) (T6.setTop (mkF m 58 #[.val (.ref b), .val (.int (Int32.ofNat o)), .val (.int (Int32.ofNat len)), .val (.ref s.heap.size), .val (.int (Int32.ofNat len)), .unset] [.ref s.heap.size])) := c7.trans (by
    refine XS.istore X6.here hexec rfl (hb hbytes d12) rfl rfl ?_
    refine XS.iload X6.here hexec rfl (hb hbytes d14) rfl ?_
    refine XS.iloadN X6.here hexec rfl (hb hbytes d16) rfl ?_
    refine XS.icmpYes X6.here hexec rfl (pc0 := 17) rfl (hb hbytes d17) rfl (ii_eq_t rfl) (by decide) rfl ?_
    refine XS.aloadN X6.here hexec rfl (hb hbytes d57) rfl rfl ?_
    exact Steps.refl _)
  have X8 := X6.wide (L' := []) (cells' := 1) (slots' := len) (fun x hx hlt => by
    simp only [List.nil_append, copyLocs, List.mem_map, List.mem_range] at hx
    obtain ⟨i, -, rfl⟩ := hx
    exact absurd hlt (Nat.lt_irrefl _)) (Nat.le_refl _) (by omega)
  exact ⟨T6, some (.ref s.heap.size), _, _, _, X8, rfl, rfl, rfl, (fun h => by cases h), ⟨⟨rfl, B6, ba3.like (X3.warmed.alike.symm.trans X6.warmed.alike) p6.1 f6.1 f6.2.1 f6.2.2.1, f6.2.1.trans bv3, by rw [X6.warmed.alike.findClass, f6.1]; exact bf3, by rw [f6.2.2.1, bs3]; simp, fun j hj => by rw [f6.2.2.2 j, if_pos (by omega)]; rfl, kp3.put p6 (Nat.le_refl _)⟩, by rw [p6.2.2, bh3, hh0]; simp⟩, fun fs hl => c8.trans (X8.areturnOut hexec rfl hret rfl (hb hbytes d58) hl)⟩
end Cmp3
namespace CodL
def yN : MethodName := ⟨"java/lang/StringUTF16", "coderFromArrayLen", "([BI)B"⟩
abbrev yB : ByteArray := jdk_52_method_15_code
theorem d0 : decode yB 0 = .ok (.iload_n 1, 1) := by decide +kernel
theorem d1 : decode yB 1 = .ok (.aload_n 0, 1) := by decide +kernel
theorem d2 : decode yB 2 = .ok (.arraylength, 1) := by decide +kernel
theorem d3 : decode yB 3 = .ok (.isub, 1) := by decide +kernel
theorem d4 : decode yB 4 = .ok (.bipush 31, 2) := by decide +kernel
theorem d6 : decode yB 6 = .ok (.iushr, 1) := by decide +kernel
theorem d7 : decode yB 7 = .ok (.i2b, 1) := by decide +kernel
theorem d8 : decode yB 8 = .ok (.ireturn, 1) := by decide +kernel
def site : List Cond := []
def tab : Cond := tabOf yN yB 2 (some .byte) site
def P (d : Addr) (B : Cell) (args : Array Value) (s : State) : Prop := args = #[.ref d, .int (Int32.ofNat B.slots.size)] ∧ Arr .byte d B s
def E (r : Option Value) (s u : State) : Prop := XT.PureE (some (.int 0)) r s u
/-- an array as long as the number of chars: LATIN1 -/
theorem law (l : Launch) (d : Addr) (B : Cell) : Law l yN 2 2 0 0 yB 2 (some .byte) site (P d B) E [] 0 0 := by
  refine Law.of_walk (plainFor_of_name (by decide +kernel)) (by decide +kernel) (by decide +kernel) (by decide) (fun _ _ h => by rw [h.1]; rfl) (fun _ U U' hal hh h => ⟨h.1, h.2.mv hal hh⟩) (fun r U U' V V' h1 hal h2 h => XT.PureE.mv r U U' V V' h1 hal h2 h) ?_
  intro p e s m args below meth c s₁ X0 hexec hbytes hml hret hlk hnm hown hh0 W hP
  obtain ⟨rfl, hB⟩ := hP
  have hB0 := hB.mv X0.warmed.alike hh0
  have c1 : Steps p.tables e below (s₁.setTop (entryFrame m #[.ref d, .int (Int32.ofNat B.slots.size)] 2)) (s₁.setTop (mkF m 0 #[.val (.ref d), .val (.int (Int32.ofNat B.slots.size))] [])) := entry rfl
  have c2 : Steps p.tables e below (s₁.setTop (entryFrame m #[.ref d, .int (Int32.ofNat B.slots.size)] 2)) (s₁.setTop (mkF m 2 #[.val (.ref d), .val (.int (Int32.ofNat B.slots.size))] [.ref d, .int (Int32.ofNat B.slots.size)])) := c1.trans (by
    refine XS.iloadN X0.here hexec rfl (hb hbytes d0) rfl ?_
    refine XS.aloadN X0.here hexec rfl (hb hbytes d1) rfl rfl ?_
    exact Steps.refl _)
  have c3 : Steps p.tables e below (s₁.setTop (entryFrame m #[.ref d, .int (Int32.ofNat B.slots.size)] 2)) (s₁.setTop (mkF m 8 #[.val (.ref d), .val (.int (Int32.ofNat B.slots.size))] [.int (lo8 (ushr (Int32.ofNat B.slots.size - Int32.ofNat B.slots.size) 31))])) := c2.trans (by
    refine X0.alen hexec hB0 rfl rfl (hb hbytes d2) ?_
    refine XS.isub X0.here hexec rfl (hb hbytes d3) rfl ?_
    refine bipushV X0.here hexec rfl 31 (hb hbytes d4) (by decide) ?_
    refine iushr X0.here hexec rfl (hb hbytes d6) rfl ?_
    refine i2b X0.here hexec rfl (hb hbytes d7) rfl ?_
    exact Steps.refl _)
  have e0 : lo8 (ushr (Int32.ofNat B.slots.size - Int32.ofNat B.slots.size) 31) = 0 := by rw [Int32.sub_self]; decide
  rw [e0] at c3
  exact ⟨s₁, some (.int 0), _, _, _, X0, rfl, rfl, rfl, (fun h => by cases h), ⟨rfl, hh0⟩, fun fs hl => c3.trans (X0.ireturnOut hexec hret rfl (Or.inr (Or.inr (Or.inl rfl))) (hb hbytes d8) hl)⟩
end CodL
/-- the String at a is Latin-1 over a new byte[] (the heap's one new cell): the low bytes of the len chars of A from o on; every cell but a is kept -/
def Got (a : Addr) (D : Cell) (fV fC : Field) (A : Cell) (o len : Nat) (r : Option Value) (s u : State) : Prop := r = none ∧ ∃ D' V : Cell, Blank "java/lang/String" a D' u ∧ Same D D' [fV.slot, fC.slot] ∧ D'.slots[fV.slot]? = some (.ref s.heap.size) ∧ D'.slots[fC.slot]? = some (.int 0) ∧ Arr .byte s.heap.size V u ∧ V.vm = .none ∧ u.vm.findClass "[B" = some V.cls ∧ V.slots.size = len ∧ (∀ j, j < len → V.slots[j]? = some (.int (lo8 (cv A (o + j))))) ∧ (∀ (y : Addr) (c : Cell), y ≠ a → s.heap[y]? = some c → u.heap[y]? = some c) ∧ u.heap.size = s.heap.size + 1
theorem Got.mv {a : Addr} {D A : Cell} {fV fC : Field} {o len : Nat} : ∀ r (U U' V V' : State), U'.heap = U.heap → V.vm.Alike V'.vm → V'.heap = V.heap → Got a D fV fC A o len r U V → Got a D fV fC A o len r U' V' :=
  fun r U U' V V' h1 hal h2 ⟨e0, D', X, a1, a2, a3, a4, a5, a6, a7, a8, a9, a10, a11⟩ => ⟨e0, D', X, a1.mv hal h2, a2, by rw [h1]; exact a3, a4, by rw [h1]; exact a5.mv hal h2, a6, by rw [hal.findClass]; exact a7, a8, a9, by rw [h1, h2]; exact a10, by rw [h1, h2]; exact a11⟩
namespace New4
def yN : MethodName := ⟨"java/lang/String", "<init>", "([CIILjava/lang/Void;)V"⟩
abbrev yB : ByteArray := jdk_42_method_149_code
theorem d0 : decode yB 0 = .ok (.aload_n 0, 1) := by decide +kernel
theorem d1 : decode yB 1 = .ok (.invokespecial 1, 3) := by decide +kernel
theorem d4 : decode yB 4 = .ok (.iload_n 3, 1) := by decide +kernel
theorem d5 : decode yB 5 = .ok (.ifCond (.ne) 22, 3) := by decide +kernel
theorem d27 : decode yB 27 = .ok (.getstatic 38, 3) := by decide +kernel
theorem d30 : decode yB 30 = .ok (.ifCond (.eq) 28, 3) := by decide +kernel
theorem d33 : decode yB 33 = .ok (.aload_n 1, 1) := by decide +kernel
theorem d34 : decode yB 34 = .ok (.iload_n 2, 1) := by decide +kernel
theorem d35 : decode yB 35 = .ok (.iload_n 3, 1) := by decide +kernel
theorem d36 : decode yB 36 = .ok (.invokestatic 177, 3) := by decide +kernel
theorem d39 : decode yB 39 = .ok (.astore 5, 2) := by decide +kernel
theorem d41 : decode yB 41 = .ok (.aload_n 0, 1) := by decide +kernel
theorem d42 : decode yB 42 = .ok (.aload 5, 2) := by decide +kernel
theorem d44 : decode yB 44 = .ok (.iload_n 3, 1) := by decide +kernel
theorem d45 : decode yB 45 = .ok (.invokestatic 47, 3) := by decide +kernel
theorem d48 : decode yB 48 = .ok (.putfield 15, 3) := by decide +kernel
theorem d51 : decode yB 51 = .ok (.aload_n 0, 1) := by decide +kernel
theorem d52 : decode yB 52 = .ok (.aload 5, 2) := by decide +kernel
theorem d54 : decode yB 54 = .ok (.putfield 9, 3) := by decide +kernel
theorem d57 : decode yB 57 = .ok (.return_, 1) := by decide +kernel
def site : List Cond := [.fieldLink "java/lang/String" 38 "java/lang/String" "COMPACT_STRINGS" "Z", Cmp3.tab, CodL.tab, .laysFinal "java/lang/String" "java/lang/String" "value" "[B", .fieldLink "java/lang/String" 9 "java/lang/String" "value" "[B", .laysFinal "java/lang/String" "java/lang/String" "coder" "B", .fieldLink "java/lang/String" 15 "java/lang/String" "coder" "B"] ++ objW "java/lang/String" 1 ++ staticW "java/lang/String" 177 Cmp3.yN ++ staticW "java/lang/String" 47 CodL.yN
def tab : Cond := tabOf yN yB 6 none site
def P (a : Addr) (D : Cell) (fV fC : Field) (b : Addr) (A : Cell) (z : Int32) (o len : Nat) (args : Array Value) (s : State) : Prop := args = #[.ref a, .ref b, .int (Int32.ofNat o), .int (Int32.ofNat len), .null] ∧ Blank "java/lang/String" a D s ∧ Found "java/lang/String" "value" "[B" fV s ∧ Found "java/lang/String" "coder" "B" fC s ∧ Ch b A s ∧ StaticIs s "java/lang/String" "COMPACT_STRINGS" "Z" (.int z) ∧ ¬ z = 0 ∧ 0 < len ∧ o + len ≤ A.slots.size ∧ len ≤ 536870912 ∧ ∀ i, i < len → ¬ 255 < cv A (o + i)
def E (a : Addr) (D : Cell) (fV fC : Field) (A : Cell) (o len : Nat) (r : Option Value) (s u : State) : Prop := Got a D fV fC A o len r s u
/-- len > 0, no char of the range above 255: a Latin-1 String of their low bytes -/
theorem law (l : Launch) (a : Addr) (D : Cell) (fV fC : Field) (b : Addr) (A : Cell) (z : Int32) (o len : Nat) : Law l yN 5 4 2 35 yB 6 none site (P a D fV fC b A z o len) (E a D fV fC A o len) [⟨a, fC.slot⟩, ⟨a, fV.slot⟩] 1 len := by
  refine Law.of_walk (plainFor_of_name (by decide +kernel)) (by decide +kernel) (by decide +kernel) (by decide) (fun _ _ h => by rw [h.1]; rfl) (fun _ U U' hal hh h => ⟨h.1, h.2.1.mv hal hh, h.2.2.1.al hal, h.2.2.2.1.al hal, h.2.2.2.2.1.mv hal hh, h.2.2.2.2.2.1.there hal hh, h.2.2.2.2.2.2⟩) (fun r U U' V V' h1 hal h2 h => Got.mv r U U' V V' h1 hal h2 h) ?_
  intro p e s m args below meth c s₁ X0 hexec hbytes hml hret hlk hnm hown hh0 W hP
  obtain ⟨rfl, hB, f1, f2, hA, s1, hz, l0, l1, l2, hp⟩ := hP
  have a31 := hA.1.2.2.2
  have c1 : Steps p.tables e below (s₁.setTop (entryFrame m #[.ref a, .ref b, .int (Int32.ofNat o), .int (Int32.ofNat len), .null] 6)) (s₁.setTop (mkF m 0 #[.val (.ref a), .val (.ref b), .val (.int (Int32.ofNat o)), .val (.int (Int32.ofNat len)), .val .null, .unset] [])) := entry rfl
  have c2 : Steps p.tables e below (s₁.setTop (entryFrame m #[.ref a, .ref b, .int (Int32.ofNat o), .int (Int32.ofNat len), .null] 6)) (s₁.setTop (mkF m 1 #[.val (.ref a), .val (.ref b), .val (.int (Int32.ofNat o)), .val (.int (Int32.ofNat len)), .val .null, .unset] [.ref a])) := c1.trans (by
    refine XS.aloadN X0.here hexec rfl (hb hbytes d0) rfl rfl ?_
    exact Steps.refl _)
  obtain ⟨T3, X3, q3, st3⟩ := X0.oinit hexec hown (wks W (objW "java/lang/String" 1)) (g := (mkF m 1 #[.val (.ref a), .val (.ref b), .val (.int (Int32.ofNat o)), .val (.int (Int32.ofNat len)), .val .null, .unset] [.ref a])) rfl (by rw [hml]; rfl) (rest := []) rfl (hb hbytes d1) (W := 0) (by show 2 * 0 + 0 ≤ _; decide) (Nat.le_of_ble_eq_true rfl) (Nat.le_of_ble_eq_true rfl)
  have hh3 := q3.trans hh0
  have c4 : Steps p.tables e below (s₁.setTop (entryFrame m #[.ref a, .ref b, .int (Int32.ofNat o), .int (Int32.ofNat len), .null] 6)) (T3.setTop (mkF m 27 #[.val (.ref a), .val (.ref b), .val (.int (Int32.ofNat o)), .val (.int (Int32.ofNat len)), .val .null, .unset] [])) := (c2.trans (st3 _ (Steps.refl _))).trans (by
    refine XS.iloadN X3.here hexec rfl (hb hbytes d4) rfl ?_
    refine XS.ifYes X3.here hexec rfl (pc0 := 5) rfl (hb hbytes d5) rfl (i0_ne_t (nz32 (by omega) l0)) (by decide) rfl ?_
    exact Steps.refl _)
  obtain ⟨T5, X5, q5, st5⟩ := X3.sget hexec hown (wk W (.fieldLink "java/lang/String" 38 "java/lang/String" "COMPACT_STRINGS" "Z")) s1 (fun _ _ h => by rw [hh3]; exact h) (g := (mkF m 27 #[.val (.ref a), .val (.ref b), .val (.int (Int32.ofNat o)), .val (.int (Int32.ofNat len)), .val .null, .unset] [])) rfl (hb hbytes d27)
  have hh5 := q5.trans hh3
  have c6 : Steps p.tables e below (s₁.setTop (entryFrame m #[.ref a, .ref b, .int (Int32.ofNat o), .int (Int32.ofNat len), .null] 6)) (T5.setTop (mkF m 30 #[.val (.ref a), .val (.ref b), .val (.int (Int32.ofNat o)), .val (.int (Int32.ofNat len)), .val .null, .unset] [.int z])) := c4.trans (st5 _ (Steps.refl _))
  have c7 : Steps p.tables e below (s₁.setTop (entryFrame m #[.ref a, .ref b, .int (Int32.ofNat o), .int (Int32.ofNat len), .null] 6)) (T5.setTop (mkF m 36 #[.val (.ref a), .val (.ref b), .val (.int (Int32.ofNat o)), .val (.int (Int32.ofNat len)), .val .null, .unset] [.int (Int32.ofNat len), .int (Int32.ofNat o), .ref b])) := c6.trans (by
    refine XS.ifNo X5.here hexec rfl (hb hbytes d30) rfl (i0_eq_f hz) ?_
    refine XS.aloadN X5.here hexec rfl (hb hbytes d33) rfl rfl ?_
    refine XS.iloadN X5.here hexec rfl (hb hbytes d34) rfl ?_
    refine XS.iloadN X5.here hexec rfl (hb hbytes d35) rfl ?_
    exact Steps.refl _)
  obtain ⟨v8, T8, X8, E8, g8⟩ := X5.callS hexec (Cmp3.law l b A o len) hown (wks W (staticW "java/lang/String" 177 Cmp3.yN)) (wk W Cmp3.tab) (W := 0) (Nat.le_of_ble_eq_true rfl) (Nat.le_of_ble_eq_true rfl) (Nat.le_refl _) (by show 0 + len ≤ len; omega) (g := (mkF m 36 #[.val (.ref a), .val (.ref b), .val (.int (Int32.ofNat o)), .val (.int (Int32.ofNat len)), .val .null, .unset] [.int (Int32.ofNat len), .int (Int32.ofNat o), .ref b])) rfl (by rw [hml]; rfl) c7 (argsL := [.ref b, .int (Int32.ofNat o), .int (Int32.ofNat len)]) (rest := []) rfl rfl (by show 2 * 0 + 0 ≤ _; decide) (hb hbytes d36) (⟨rfl, hA.mv X5.warmed.alike hh5, l1, l2, hp⟩)
  obtain ⟨e8, z8⟩ := E8
  obtain ⟨rfl, N, n1, n2, n3, n4, n5, n6⟩ := NewArr.mv _ T5 s _ _ hh5.symm (Vm.Alike.refl _) rfl e8
  rw [hh5] at z8
  have hB1 := hB.keep X8.warmed.alike (n6 _ _ hB.1)
  have hne : s.heap.size ≠ a := (Nat.ne_of_lt (Array.getElem?_eq_some_iff.mp hB.1).1).symm
  have c9 : Steps p.tables e below (s₁.setTop (entryFrame m #[.ref a, .ref b, .int (Int32.ofNat o), .int (Int32.ofNat len), .null] 6)) (T8.setTop (mkF m 39 #[.val (.ref a), .val (.ref b), .val (.int (Int32.ofNat o)), .val (.int (Int32.ofNat len)), .val .null, .unset] [.ref s.heap.size])) := g8
  have c10 : Steps p.tables e below (s₁.setTop (entryFrame m #[.ref a, .ref b, .int (Int32.ofNat o), .int (Int32.ofNat len), .null] 6)) (T8.setTop (mkF m 45 #[.val (.ref a), .val (.ref b), .val (.int (Int32.ofNat o)), .val (.int (Int32.ofNat len)), .val .null, .val (.ref s.heap.size)] [.int (Int32.ofNat N.slots.size), .ref s.heap.size, .ref a])) := by
    have hc : Steps p.tables e below (s₁.setTop (entryFrame m #[.ref a, .ref b, .int (Int32.ofNat o), .int (Int32.ofNat len), .null] 6)) (T8.setTop (mkF m 45 #[.val (.ref a), .val (.ref b), .val (.int (Int32.ofNat o)), .val (.int (Int32.ofNat len)), .val .null, .val (.ref s.heap.size)] [.int (Int32.ofNat len), .ref s.heap.size, .ref a])) := c9.trans (by
      refine XS.astore X8.here hexec rfl (hb hbytes d39) rfl rfl rfl ?_
      refine XS.aloadN X8.here hexec rfl (hb hbytes d41) rfl rfl ?_
      refine XS.aload X8.here hexec rfl (hb hbytes d42) rfl rfl ?_
      refine XS.iloadN X8.here hexec rfl (hb hbytes d44) rfl ?_
      exact Steps.refl _)
    rw [n4]; exact hc
  obtain ⟨v11, T11, X11, E11, g11⟩ := X8.callS hexec (CodL.law l s.heap.size N) hown (wks W (staticW "java/lang/String" 47 CodL.yN)) (wk W CodL.tab) (W := 1) (Nat.le_of_ble_eq_true rfl) (Nat.le_of_ble_eq_true rfl) (Nat.le_refl _) (by show 0 + len + 0 ≤ len; omega) (g := (mkF m 45 #[.val (.ref a), .val (.ref b), .val (.int (Int32.ofNat o)), .val (.int (Int32.ofNat len)), .val .null, .val (.ref s.heap.size)] [.int (Int32.ofNat N.slots.size), .ref s.heap.size, .ref a])) rfl (by rw [hml]; rfl) c10 (argsL := [.ref s.heap.size, .int (Int32.ofNat N.slots.size)]) (rest := [.ref a]) rfl rfl (by show 2 * 0 + (1 + 0) ≤ _; decide) (hb hbytes d45) (⟨rfl, n1⟩)
  obtain ⟨rfl, q11⟩ := E11
  have hB11 := hB1.mv (X8.warmed.alike.symm.trans X11.warmed.alike) q11
  have c12 : Steps p.tables e below (s₁.setTop (entryFrame m #[.ref a, .ref b, .int (Int32.ofNat o), .int (Int32.ofNat len), .null] 6)) (T11.setTop (mkF m 48 #[.val (.ref a), .val (.ref b), .val (.int (Int32.ofNat o)), .val (.int (Int32.ofNat len)), .val .null, .val (.ref s.heap.size)] [.int 0, .ref a])) := g11
  obtain ⟨T13, X13, p13, bl13, sl13, st13⟩ := X11.finit hexec hown (wk W (.fieldLink "java/lang/String" 15 "java/lang/String" "coder" "B")) (Or.inr ⟨_, (wk W (.laysFinal "java/lang/String" "java/lang/String" "coder" "B"))⟩) (Or.inl ⟨rfl, hnm⟩) f2 (Or.inl rfl) hB11 (t := .byte) (by decide +kernel) rfl (g := (mkF m 48 #[.val (.ref a), .val (.ref b), .val (.int (Int32.ofNat o)), .val (.int (Int32.ofNat len)), .val .null, .val (.ref s.heap.size)] [.int 0, .ref a])) rfl (rest := []) rfl (hb hbytes d48)
  have c14 : Steps p.tables e below (s₁.setTop (entryFrame m #[.ref a, .ref b, .int (Int32.ofNat o), .int (Int32.ofNat len), .null] 6)) (T13.setTop (mkF m 54 #[.val (.ref a), .val (.ref b), .val (.int (Int32.ofNat o)), .val (.int (Int32.ofNat len)), .val .null, .val (.ref s.heap.size)] [.ref s.heap.size, .ref a])) := (c12.trans (st13 _ (Steps.refl _))).trans (by
    refine XS.aloadN X13.here hexec rfl (hb hbytes d51) rfl rfl ?_
    refine XS.aload X13.here hexec rfl (hb hbytes d52) rfl rfl ?_
    exact Steps.refl _)
  obtain ⟨T15, X15, p15, bl15, sl15, st15⟩ := X13.finit hexec hown (wk W (.fieldLink "java/lang/String" 9 "java/lang/String" "value" "[B")) (Or.inr ⟨_, (wk W (.laysFinal "java/lang/String" "java/lang/String" "value" "[B"))⟩) (Or.inl ⟨rfl, hnm⟩) f1 (Or.inl rfl) bl13 (t := (.array .byte)) (by decide +kernel) rfl (g := (mkF m 54 #[.val (.ref a), .val (.ref b), .val (.int (Int32.ofNat o)), .val (.int (Int32.ofNat len)), .val .null, .val (.ref s.heap.size)] [.ref s.heap.size, .ref a])) rfl (rest := []) rfl (hb hbytes d54)
  have c16 : Steps p.tables e below (s₁.setTop (entryFrame m #[.ref a, .ref b, .int (Int32.ofNat o), .int (Int32.ofNat len), .null] 6)) (T15.setTop (mkF m 57 #[.val (.ref a), .val (.ref b), .val (.int (Int32.ofNat o)), .val (.int (Int32.ofNat len)), .val .null, .val (.ref s.heap.size)] [])) := c14.trans (st15 _ (Steps.refl _))
  have ap := apart (Or.inr ⟨_, (wk W (.laysFinal "java/lang/String" "java/lang/String" "value" "[B"))⟩) (Or.inr ⟨_, (wk W (.laysFinal "java/lang/String" "java/lang/String" "coder" "B"))⟩) f1 f2 (t₁ := .array .byte) (t₂ := .byte) (by decide +kernel) (by decide +kernel) (by decide)
  have al := X8.warmed.alike.symm.trans X15.warmed.alike
  have n7 : T11.heap[s.heap.size]? = some N := by rw [q11]; exact n1.1
  exact ⟨T15, none, _, _, _, X15, by simp, rfl, by omega, (fun _ => rfl), ⟨rfl, _, N, bl15, ((Same.refl D _).set _ (by simp)).set _ (by simp), sl15, (Cell.slots_setSlot_ne _ ap).trans sl13, n1.keep al (p15.other hne (p13.other hne n7)), n2, by rw [al.findClass]; exact n3, n4, n5, fun y c h1 h2 => p15.other h1 (p13.other h1 (by rw [q11]; exact n6 y c h2)), by rw [p15.2.2, p13.2.2, q11]; exact z8⟩, fun fs hl => c16.trans (X15.returnOut hexec hret (hb hbytes d57) hl)⟩
end New4
namespace New1
def yN : MethodName := ⟨"java/lang/String", "<init>", "([C)V"⟩
abbrev yB : ByteArray := jdk_42_method_3_code
theorem d0 : decode yB 0 = .ok (.aload_n 0, 1) := by decide +kernel
theorem d1 : decode yB 1 = .ok (.aload_n 1, 1) := by decide +kernel
theorem d2 : decode yB 2 = .ok (.iconst 0, 1) := by decide +kernel
theorem d3 : decode yB 3 = .ok (.aload_n 1, 1) := by decide +kernel
theorem d4 : decode yB 4 = .ok (.arraylength, 1) := by decide +kernel
theorem d5 : decode yB 5 = .ok (.aconst_null, 1) := by decide +kernel
theorem d6 : decode yB 6 = .ok (.invokespecial 27, 3) := by decide +kernel
theorem d9 : decode yB 9 = .ok (.return_, 1) := by decide +kernel
def site : List Cond := [New4.tab] ++ initW "java/lang/String" 27 New4.yN
def tab : Cond := tabOf yN yB 2 none site
def P (a : Addr) (D : Cell) (fV fC : Field) (b : Addr) (A : Cell) (z : Int32) (args : Array Value) (s : State) : Prop := args = #[.ref a, .ref b] ∧ Blank "java/lang/String" a D s ∧ Found "java/lang/String" "value" "[B" fV s ∧ Found "java/lang/String" "coder" "B" fC s ∧ Ch b A s ∧ StaticIs s "java/lang/String" "COMPACT_STRINGS" "Z" (.int z) ∧ ¬ z = 0 ∧ 0 < A.slots.size ∧ A.slots.size ≤ 536870912 ∧ ∀ i, i < A.slots.size → ¬ 255 < cv A i
def E (a : Addr) (D : Cell) (fV fC : Field) (A : Cell) (r : Option Value) (s u : State) : Prop := Got a D fV fC A 0 A.slots.size r s u
/-- new String(chars), not empty, no char above 255: a Latin-1 String of their low bytes -/
theorem law (l : Launch) (a : Addr) (D : Cell) (fV fC : Field) (b : Addr) (A : Cell) (z : Int32) : Law l yN 2 1 3 52 yB 2 none site (P a D fV fC b A z) (E a D fV fC A) [⟨a, fC.slot⟩, ⟨a, fV.slot⟩] 1 A.slots.size := by
  refine Law.of_walk (plainFor_of_name (by decide +kernel)) (by decide +kernel) (by decide +kernel) (by decide) (fun _ _ h => by rw [h.1]; rfl) (fun _ U U' hal hh h => ⟨h.1, h.2.1.mv hal hh, h.2.2.1.al hal, h.2.2.2.1.al hal, h.2.2.2.2.1.mv hal hh, h.2.2.2.2.2.1.there hal hh, h.2.2.2.2.2.2⟩) (fun r U U' V V' h1 hal h2 h => Got.mv r U U' V V' h1 hal h2 h) ?_
  intro p e s m args below meth c s₁ X0 hexec hbytes hml hret hlk hnm hown hh0 W hP
  obtain ⟨rfl, hB, f1, f2, hA, s1, hz, l0, l2, hp⟩ := hP
  have c1 : Steps p.tables e below (s₁.setTop (entryFrame m #[.ref a, .ref b] 2)) (s₁.setTop (mkF m 0 #[.val (.ref a), .val (.ref b)] [])) := entry rfl
  have c2 : Steps p.tables e below (s₁.setTop (entryFrame m #[.ref a, .ref b] 2)) (s₁.setTop (mkF m 6 #[.val (.ref a), .val (.ref b)] [.null, .int (Int32.ofNat A.slots.size), .int 0, .ref b, .ref a])) := c1.trans (by
    refine XS.aloadN X0.here hexec rfl (hb hbytes d0) rfl rfl ?_
    refine XS.aloadN X0.here hexec rfl (hb hbytes d1) rfl rfl ?_
    refine iconstV X0.here hexec rfl 0 (hb hbytes d2) (by decide) ?_
    refine XS.aloadN X0.here hexec rfl (hb hbytes d3) rfl rfl ?_
    refine X0.alen hexec (hA.1.mv X0.warmed.alike hh0) rfl rfl (hb hbytes d4) ?_
    refine XS.aconstNull X0.here hexec rfl (hb hbytes d5) ?_
    exact Steps.refl _)
  obtain ⟨v3, T3, X3, E3, g3⟩ := X0.callN hexec (New4.law l a D fV fC b A z 0 A.slots.size) rfl hown (wks W (initW "java/lang/String" 27 New4.yN)) (W New4.tab (by simp only [site, List.mem_cons, List.mem_append, true_or, or_true])) (W := 0) (Nat.le_of_ble_eq_true rfl) (Nat.le_of_ble_eq_true rfl) (Nat.le_refl _) (by show 0 + A.slots.size ≤ A.slots.size; omega) (g := (mkF m 6 #[.val (.ref a), .val (.ref b)] [.null, .int (Int32.ofNat A.slots.size), .int (Int32.ofNat 0), .ref b, .ref a])) rfl (by rw [hml]; rfl) c2 (argsL := [.ref b, .int (Int32.ofNat 0), .int (Int32.ofNat A.slots.size), .null]) (rest := []) rfl rfl (by show 2 * 0 + 0 ≤ _; decide) (hb hbytes d6) (⟨rfl, hB.mv X0.warmed.alike hh0, f1.al X0.warmed.alike, f2.al X0.warmed.alike, hA.mv X0.warmed.alike hh0, s1.there X0.warmed.alike hh0, hz, l0, by omega, l2, fun i hi => by rw [Nat.zero_add]; exact hp i hi⟩)
  have e0 := Got.mv _ s₁ s _ _ hh0.symm (Vm.Alike.refl _) rfl E3
  obtain rfl := e0.1
  have c4 : Steps p.tables e below (s₁.setTop (entryFrame m #[.ref a, .ref b] 2)) (T3.setTop (mkF m 9 #[.val (.ref a), .val (.ref b)] [])) := g3
  exact ⟨T3, none, _, _, _, X3, by simp, rfl, by omega, (fun _ => rfl), e0, fun fs hl => c4.trans (X3.returnOut hexec hret (hb hbytes d9) hl)⟩
theorem pays {l : Launch} {R : Room} {p : Program} {e : Env} {below : List Frame} {s : State} {sargs : Array Value} {len W : Nat} (a : Addr) (D : Cell) (fV fC : Field) (b : Addr) (A : Cell) (z : Int32) (htab : tab.before sargs s = true) (hfr : 4 ≤ R.frames) (hlo : W + 65 ≤ R.locals) :
    Back l R p e below s sargs yN len W (fun A₁ a₁ => A₁.cells + 1 ≤ R.cells ∧ A₁.slots + A.slots.size ≤ R.slots ∧ P a D fV fC b A z a₁ A₁.U) (fun A₁ _ v₁ B₁ => E a D fV fC A v₁ A₁.U B₁.U ∧ B₁.locs = A₁.locs ++ [⟨a, fC.slot⟩, ⟨a, fV.slot⟩] ∧ B₁.cells = A₁.cells + 1 ∧ B₁.slots = A₁.slots + A.slots.size) :=
  (law l a D fV fC b A z).pays htab hfr (by omega)
end New1
/-- the byte, read back as charAt reads it, is the char -/
theorem lo8_mask {x : Int32} (h0 : ¬ x < 0) (h1 : ¬ 255 < x) : lo8 x &&& 255 = x := by
  have t : ∀ k : Fin 256, lo8 (Int32.ofNat k.val) &&& 255 = Int32.ofNat k.val := by decide +kernel
  rw [Int32.lt_iff_toInt_lt] at h0 h1
  have e0 : (0 : Int32).toInt = 0 := rfl
  have e1 : (255 : Int32).toInt = 255 := rfl
  obtain ⟨k, hk⟩ : ∃ k : Nat, x.toInt = k := ⟨x.toInt.toNat, by omega⟩
  have hx : x = Int32.ofNat k := Int32.toInt_inj.mp (by rw [hk, Int32.toInt_ofNat_small (by omega)])
  rw [hx]
  exact t ⟨k, by omega⟩
end StrChars
namespace StrChars.Road
open Jvm Sem ClassFile Op Lib Jvm.Stand Jvm.Free Jvm.Free.XT
open Jvm.Lib.Cold (StaticIs)
abbrev ST : String := "java/lang/String"
/-- every table word that New1's law asks, flat -/
abbrev words : List Jvm.Cond := [.code New1.yN New1.yB 2 none, .initialized ST, .methodLink ST 27 New4.yN, .instanceMethod New4.yN,
  .code New4.yN New4.yB 6 none, .fieldLink ST 38 ST "COMPACT_STRINGS" "Z", .laysFinal ST ST "value" "[B", .fieldLink ST 9 ST "value" "[B", .laysFinal ST ST "coder" "B", .fieldLink ST 15 ST "coder" "B",
  .methodLink ST 1 Lib.objectInit, .instanceMethod Lib.objectInit, .code Lib.objectInit ⟨#[0xb1]⟩ 1 none, .methodLink ST 177 Cmp3.yN, .static Cmp3.yN, .methodLink ST 47 CodL.yN, .static CodL.yN,
  .code Cmp3.yN Cmp3.yB 6 (some (.array .byte)), .initialized U16, .arrayClass .byte, .methodLink U16 115 Cmp5.yN, .static Cmp5.yN, .code Cmp5.yN Cmp5.yB 7 (some .int), .code CodL.yN CodL.yB 2 (some .byte)]
theorem tab_of {a : Array Value} {s : State} (h : ∀ w ∈ words, w.before a s = true) : New1.tab.before a s = true := by
  have h5 : Cmp5.tab.before a s = true := unparts (wk h (.code Cmp5.yN Cmp5.yB 7 (some .int))) (wks h (.initialized Cmp5.yN.cls :: Cmp5.site))
  have hc : CodL.tab.before a s = true := unparts (wk h (.code CodL.yN CodL.yB 2 (some .byte))) (wks h (.initialized CodL.yN.cls :: CodL.site))
  have q5 : ∀ w ∈ Cmp5.tab :: words, w.before a s = true := fun w hw => (List.mem_cons.mp hw).elim (fun e => e ▸ h5) (h w)
  have h3 : Cmp3.tab.before a s = true := unparts (wk q5 (.code Cmp3.yN Cmp3.yB 6 (some (.array .byte)))) (wks q5 (.initialized Cmp3.yN.cls :: Cmp3.site))
  have q3 : ∀ w ∈ Cmp3.tab :: CodL.tab :: words, w.before a s = true := fun w hw => (List.mem_cons.mp hw).elim (fun e => e ▸ h3) fun hw => (List.mem_cons.mp hw).elim (fun e => e ▸ hc) (h w)
  have h4 : New4.tab.before a s = true := unparts (wk q3 (.code New4.yN New4.yB 6 none)) (wks q3 (.initialized New4.yN.cls :: New4.site))
  have q4 : ∀ w ∈ New4.tab :: words, w.before a s = true := fun w hw => (List.mem_cons.mp hw).elim (fun e => e ▸ h4) (h w)
  exact unparts (wk q4 (.code New1.yN New1.yB 2 none)) (wks q4 (.initialized New1.yN.cls :: New1.site))
/-- the words ride from the start Z to the walk's own state -/
theorem moved {Z s : State} {a0 args : Array Value} (hZ : Z.Warmed39 s.vm) (hw : ∀ d ∈ words, d.before a0 Z = true) : ∀ d ∈ words, d.before args s = true := fun d hd => by
  have q := hw d hd
  have t : ∀ d ∈ words, d = .arrayClass .byte ∨ (d.onTables && d.keepsFace) = true := by decide +kernel
  rcases t d hd with rfl | t
  · exact RoadKit.mvA hZ q
  · exact RoadKit.mv hZ q t
/-- WHAT COMES BACK, over the tables of the start Z: h the heap at the call, h' behind it -/
def Q (Z : State) (x : Addr) (A : Cell) (h : Heap) (v : Option Value) (h' : Heap) (L : List Loc) : Prop := v = none ∧ (∀ y ∈ L, y.base = x) ∧ RoadKit.Keep h h' [x] ∧ h'.size = h.size + 1 ∧ RoadKit.Exa Z h' x ST ∧ RoadKit.Fld Z h' x ST "value" "[B" (.ref h.size) ∧ RoadKit.Fld Z h' x ST "coder" "B" (.int 0) ∧
  (∃ V : Cell, RoadKit.Arr Z h' h.size V .byte ∧ V.vm = .none ∧ Z.vm.findClass "[B" = some V.cls ∧ V.slots.size = A.slots.size ∧ ∀ j, j < A.slots.size → V.slots[j]? = some (.int (lo8 (cv A j)))) ∧
  ∀ (O n d : String) (w : Value), RoadKit.Fld Z h x O n d w → RoadKit.slotOf Z O n d ≠ RoadKit.slotOf Z ST "value" "[B" → RoadKit.slotOf Z O n d ≠ RoadKit.slotOf Z ST "coder" "B" → RoadKit.Fld Z h' x O n d w
/-- **new String(chars) AT A CALL, IN THE ROAD'S FORM**: for specialBack behind newO: x the fresh String, b the char[] with the cell A -/
theorem back {p : Program} {l : Launch} {e : Env} {R : Room} {s : State} {args : Array Value} {below : List Frame} {len W : Nat} {Z : State} {a0 : Array Value} {h : Heap} (hZ : Z.Warmed39 s.vm) (hw : ∀ d ∈ words, d.before a0 Z = true) {kI : Nat} (wi : (Jvm.Cond.instantiable ST kI).before a0 Z = true)
    {x b : Addr} {A : Cell} {z : Int32} {v0 c0 : Value} (E : RoadKit.Exa Z h x ST) (V : RoadKit.Fld Z h x ST "value" "[B" v0) (C : RoadKit.Fld Z h x ST "coder" "B" c0) (K : RoadKit.Arr Z h b A .char) (hty : Typed .char A) (S : RoadKit.Sta Z h ST "COMPACT_STRINGS" "Z" (.int z)) (hz : ¬ z = 0)
    (l0 : 0 < A.slots.size) (l2 : A.slots.size ≤ 536870912) (hp : ∀ i, i < A.slots.size → ¬ 255 < cv A i) (hfr : 4 ≤ R.frames) (hlo : W + 65 ≤ R.locals) :
    Back l R p e below s args New1.yN len W (fun P a => a = #[.ref x, .ref b] ∧ P.U.heap = h ∧ P.cells + 1 ≤ R.cells ∧ P.slots + A.slots.size ≤ R.slots)
      (fun P _ v B => ∃ L, Q Z x A h v B.U.heap L ∧ B.locs = P.locs ++ L ∧ B.cells = P.cells + 1 ∧ B.slots = P.slots + A.slots.size) := by
  intro m meth c P g ig mk a X hg hsize hdg hW hn hp'
  obtain ⟨rfl, rfl, r1, r2⟩ := hp'
  have al : Z.vm.Alike P.U.vm := hZ.alike.trans X.warmed.alike
  obtain ⟨D, cfV, kV, iV, fV, hD, gV, stV, knV, obV, asV, slV⟩ := id V
  obtain ⟨D', cfC, kC, iC, fC, hD', gC, stC, -, -, asC, slC⟩ := id C
  cases hD.symm.trans hD'
  obtain ⟨D2, kD, e1, e2, e3, e4, e5⟩ := id E
  cases hD.symm.trans e1
  obtain ⟨c2, k2, i1, i2, i3, -⟩ := Cond.instantiable_spec wi
  cases e2.symm.trans i1
  cases e3.symm.trans i2
  obtain ⟨kU, u1, u2⟩ := al.2.2 _ _ e3
  have hB : Blank ST x D P.U := ⟨hD, ⟨knV, fun q hq => by rw [hq] at obV; cases obV⟩, by rw [al.findClass]; exact e2, kU, u1, by rw [u2]; exact i3, by rw [u2]; exact e5 i3⟩
  have F1 : Found ST "value" "[B" fV P.U := ⟨SBG.found_only al ⟨cfV, kV, iV, gV⟩, stV⟩
  have F2 : Found ST "coder" "B" fC P.U := ⟨SBG.found_only al ⟨cfC, kC, iC, gC⟩, stC⟩
  have hA : Ch b A P.U := ⟨⟨K.1, State.isArrayOf_alike al K.2.1, K.2.2, by omega⟩, hty⟩
  have hS : StaticIs P.U ST "COMPACT_STRINGS" "Z" (.int z) := by
    obtain ⟨cfS, iS, kS, fS, st, cS, t1, t2, t3, t4, t5, t6, t7⟩ := S
    exact StaticIs.there (s := { Z with heap := P.U.heap }) ⟨cfS, iS, kS, fS, st, cS, t1, t2, t3, t4, t5, (fun q => by rw [q] at t6; cases t6), t7⟩ al rfl
  obtain ⟨v, B, X', ⟨⟨hv, E', V', q1, q2, q3, q4, q5, q6, q7, q8, q9, q10, q11⟩, hl, hc, hs⟩, st⟩ := New1.pays x D fV fC b A z (tab_of (moved hZ hw)) hfr hlo m meth c P g ig mk _ X hg hsize hdg hW hn ⟨r1, r2, rfl, hB, F1, F2, hA, hS, hz, l0, l2, hp⟩
  have al' : Z.vm.Alike B.U.vm := hZ.alike.trans X'.warmed.alike
  have hsz : E'.slots.size = D.slots.size := by
    obtain ⟨-, -, -, kB, w1, w2, w3⟩ := q1
    obtain ⟨kB', y1, y2⟩ := al'.2.2 _ _ e3
    rw [q2.2.1] at w1
    cases w1.symm.trans y1
    rw [w3, e5 i3, y2]
  refine ⟨v, B, X', ⟨_, ⟨hv, ?_, ⟨by omega, fun y cy hy hn' => q10 y cy (by simpa using hn') hy, fun y cy hy => ?_⟩, q11, ⟨E', _, q1.1, by rw [q2.2.1]; exact e2, by rw [q2.2.1]; exact e3, by rw [q2.1]; exact obV, fun _ => by rw [hsz]; exact e5 i3⟩,
    ⟨E', cfV, kV, iV, fV, q1.1, gV, stV, by rw [q2.1]; exact knV, by rw [q2.1]; exact obV, by rw [q2.2.1]; exact asV, q3⟩, ⟨E', cfC, kC, iC, fC, q1.1, gC, stC, by rw [q2.1]; exact knV, by rw [q2.1]; exact obV, by rw [q2.2.1]; exact asC, q4⟩,
    ⟨V', ⟨q5.1, State.isArrayOf_alike al'.symm q5.2.1, q5.2.2.1⟩, q6, by rw [← al'.findClass]; exact q7, q8, fun j hj => by have := q9 j hj; rwa [Nat.zero_add] at this⟩, fun O n d w F n1 n2 => ?_⟩, hl, hc, hs⟩, st⟩
  · intro y hy
    simp only [List.mem_cons, List.not_mem_nil, or_false] at hy
    rcases hy with rfl | rfl <;> rfl
  · by_cases q : y = x
    · subst q
      cases hD.symm.trans hy
      exact ⟨E', q1.1, q2.2.1, q2.1, hsz⟩
    · exact ⟨cy, q10 y cy q hy, rfl, rfl, rfl⟩
  · obtain ⟨D3, cf, k, i, f, g1, g2, g3, g4, g5, g6, g7⟩ := F
    cases hD.symm.trans g1
    simp only [RoadKit.slotOf, g2, gV, gC, Option.map_some, Option.getD_some] at n1 n2
    exact ⟨E', cf, k, i, f, q1.1, g2, g3, by rw [q2.1]; exact g4, by rw [q2.1]; exact g5, by rw [q2.2.1]; exact g6, by rw [q2.2.2 f.slot (by simp [n1, n2])]; exact g7⟩
end StrChars.Road
namespace StrChars.Road
open Jvm Sem ClassFile Op Lib Jvm.Stand Jvm.Free Jvm.Free.XT
/-- WHAT COMES BACK, the byte[] as a list of values -/
def QA (Z : State) (x : Addr) (zn : Int32) (cs : List Int32) (h : Heap) (v : Option Value) (h' : Heap) (L : List Loc) : Prop := v = none ∧ (∀ y ∈ L, y.base = x) ∧ RoadKit.Keep h h' [x] ∧ h'.size = h.size + 1 ∧ RoadKit.Exa Z h' x ST ∧ RoadKit.Fld Z h' x ST "value" "[B" (.ref h.size) ∧ RoadKit.Fld Z h' x ST "coder" "B" (.int 0) ∧
  (∃ kb, Z.vm.findClass "[B" = some kb ∧ RoadKit.Arv Z h' h.size kb .byte zn (cs.map fun c => .int (lo8 c)) (.int 0)) ∧
  ∀ (O n d : String) (w : Value), RoadKit.Fld Z h x O n d w → RoadKit.slotOf Z O n d ≠ RoadKit.slotOf Z ST "value" "[B" → RoadKit.slotOf Z O n d ≠ RoadKit.slotOf Z ST "coder" "B" → RoadKit.Fld Z h' x O n d w
/-- **new String(chars) AT A CALL, THE ARRAYS AS LISTS**: the char[] at b holds cs, not empty, no char above 255 -/
theorem backArv {p : Program} {l : Launch} {e : Env} {R : Room} {s : State} {args : Array Value} {below : List Frame} {len W : Nat} {Z : State} {a0 : Array Value} {h : Heap} (hZ : Z.Warmed39 s.vm) (hw : ∀ d ∈ words, d.before a0 Z = true) {kI : Nat} (wi : (Jvm.Cond.instantiable ST kI).before a0 Z = true)
    {x b : Addr} {k : ClassId} {zn z : Int32} {cs : List Int32} {dv v0 c0 : Value} (E : RoadKit.Exa Z h x ST) (V : RoadKit.Fld Z h x ST "value" "[B" v0) (C : RoadKit.Fld Z h x ST "coder" "B" c0) (K : RoadKit.Arv Z h b k .char zn (cs.map Value.int) dv) (S : RoadKit.Sta Z h ST "COMPACT_STRINGS" "Z" (.int z)) (hz : ¬ z = 0)
    (hlen : zn.toNatClampNeg = cs.length) (h0 : 0 < cs.length) (hbig : cs.length ≤ 536870912) (hall : ∀ c ∈ cs, ¬ 255 < c) (hfr : 4 ≤ R.frames) (hlo : W + 65 ≤ R.locals) :
    Back l R p e below s args New1.yN len W (fun P a => a = #[.ref x, .ref b] ∧ P.U.heap = h ∧ P.cells + 1 ≤ R.cells ∧ P.slots + cs.length ≤ R.slots)
      (fun P _ v B => ∃ L, QA Z x zn cs h v B.U.heap L ∧ B.locs = P.locs ++ L ∧ B.cells = P.cells + 1 ∧ B.slots = P.slots + cs.length) := by
  obtain ⟨A, K1, K2, K3, K4, K5, K6⟩ := K
  have e : A.slots.size = cs.length := K3.trans hlen
  have hat : ∀ (i : Nat) (hi : i < cs.length), A.slots[i]? = some (.int cs[i]) := fun i hi => by rw [K5 i (by omega)]; simp [List.getD_eq_getElem?_getD, hi]
  have hcv : ∀ (i : Nat) (hi : i < cs.length), cv A i = cs[i] := fun i hi => by unfold cv; rw [hat i hi]
  have hty : Typed .char A := fun i v hv => by
    have hi : i < A.slots.size := (Array.getElem?_eq_some_iff.mp hv).1
    have q := K5 i hi
    rw [hv] at q
    rw [Option.some.inj q]
    exact K6 i hi
  refine Back.mono (back hZ hw wi E V C K1 hty S hz (by omega) (by omega) (fun i hi => by rw [hcv i (by omega)]; exact hall _ (List.getElem_mem _)) hfr hlo) (fun P a hp => ⟨hp.1, hp.2.1, hp.2.2.1, by rw [e]; exact hp.2.2.2⟩) (fun P a v B hp hq => ?_)
  obtain ⟨L, ⟨q1, q2, q3, q4, q5, q6, q7, ⟨V', v1, v2, v3, v4, v5⟩, q9⟩, hl, hc, hs⟩ := hq
  refine ⟨L, ⟨q1, q2, q3, q4, q5, q6, q7, ⟨V'.cls, v3, V', v1, rfl, by rw [v4, e, hlen], K4, fun i hi => ?_, fun i hi => ?_⟩, q9⟩, hl, hc, by rw [hs, e]⟩
  · have hi' : i < cs.length := by omega
    rw [v5 i (by omega), hcv i hi']; simp [List.getD_eq_getElem?_getD, hi']
  · have hi' : i < cs.length := by omega
    simp only [List.getD_eq_getElem?_getD, List.getElem?_map, List.getElem?_eq_getElem hi', Option.map_some, Option.getD_some]
    exact fits_lo8 _
end StrChars.Road
namespace StrChars.Road
open Jvm Sem ClassFile Op Lib Jvm.Stand Jvm.Free Jvm.Free.XT
/-- WHAT COMES BACK, in the writer's own shape -/
def QV (Z : State) (x : Addr) (N : Int32) (bs : List Int32) (h : Heap) (n0 : Nat) (v : Option Value) (h' : Heap) (L : List Loc) : Prop := v = none ∧ RoadKit.Fr n0 L ∧ RoadKit.Keep h h' [x] ∧ RoadKit.Exa Z h' x ST ∧ RoadKit.Fld Z h' x ST "coder" "B" (.int 0) ∧
  ∃ (t : Addr) (kb : ClassId), n0 ≤ t ∧ h.size ≤ t ∧ ¬ t = x ∧ RoadKit.Fld Z h' x ST "value" "[B" (.ref t) ∧ RoadKit.Arv Z h' t kb .byte N (bs.map Value.int) (.int 0)
/-- **new String(chars) AT A CALL, FOR THE WRITER**: a char[] of n known ints, each 0 to 255 -/
theorem backV {p : Program} {l : Launch} {e : Env} {R : Room} {s : State} {args : Array Value} {below : List Frame} {len W : Nat} {Z : State} {a0 : Array Value} {h : Heap} (hZ : Z.Warmed39 s.vm) (hw : ∀ d ∈ words, d.before a0 Z = true) {kI : Nat} (wi : (Jvm.Cond.instantiable ST kI).before a0 Z = true)
    {x b : Addr} {kC : ClassId} {cs bs : List Int32} {d v0 c0 : Value} {z N : Int32} {n n0 : Nat} (hx0 : n0 ≤ x) (hh0 : n0 ≤ h.size) (E : RoadKit.Exa Z h x ST) (V : RoadKit.Fld Z h x ST "value" "[B" v0) (C : RoadKit.Fld Z h x ST "coder" "B" c0) (K : RoadKit.Arv Z h b kC .char N (cs.map Value.int) d) (S : RoadKit.Sta Z h ST "COMPACT_STRINGS" "Z" (.int z)) (hz : ¬ z = 0)
    (hn : cs.length = n) (hN : N = Int32.ofNat n) (l0 : 0 < n) (l2 : n ≤ 4000) (hp : ∀ c ∈ cs, ¬ c < 0 ∧ ¬ (255 : Int32) < c) (hb : bs = cs.map (fun c => c.toInt8.toInt32)) (hfr : 4 ≤ R.frames) (hlo : W + 65 ≤ R.locals) :
    Back l R p e below s args (⟨"java/lang/String", "<init>", "([C)V"⟩ : MethodName) len W (fun P a => a = #[.ref x, .ref b] ∧ P.U.heap = h ∧ P.cells + 1 ≤ R.cells ∧ P.slots + n ≤ R.slots)
      (fun P _ v B => ∃ L, QV Z x N bs h n0 v B.U.heap L ∧ B.locs = P.locs ++ L ∧ B.cells = P.cells + 1 ∧ B.slots = P.slots + n) := by
  subst hn hN hb
  refine Back.mono (backArv hZ hw wi E V C K S hz (n32 (by omega)) l0 (by omega) (fun c hc => (hp c hc).2) hfr hlo) (fun P a hp => hp) (fun P a v B hp hq => ?_)
  obtain ⟨L, ⟨q1, q2, q3, q4, q5, q6, q7, ⟨kb, v1, v2⟩, q9⟩, hl, hc, hs⟩ := hq
  exact ⟨L, ⟨q1, fun y hy => by rw [q2 y hy]; exact hx0, q3, q5, q7, h.size, kb, hh0, Nat.le_refl _, Nat.ne_of_gt E.lt, q6, by rw [List.map_map]; exact v2⟩, hl, hc, hs⟩
end StrChars.Road
namespace StrChars
open Jvm Sem ClassFile Op Lib Jvm.Stand Jvm.Free.XT Jvm.Free.ALB Jvm.Free.JM Jvm.Free
open Jvm.Lib.Cold (StaticIs)
def hi8 (x : Int32) : Int32 := lo8 (x >>> ((8 : Int32) &&& 31))
/-- what StringUTF16.getChar makes of two bytes -/
def pairCh (u v : Int32) : Int32 := (((u &&& 255) <<< ((0 : Int32) &&& 31)) ||| ((v &&& 255) <<< ((8 : Int32) &&& 31))).toUInt32.toUInt16.toUInt32.toInt32
theorem lo8_and (x : Int32) : (lo8 x &&& 255).toBitVec.toNat = x.toBitVec.toNat % 256 := by
  have h : (lo8 x).toBitVec = (x.toBitVec.signExtend 8).signExtend 32 := by rw [lo8, Int8.toBitVec_toInt32, Int32.toBitVec_toInt8]
  rw [Int32.toBitVec_and, BitVec.toNat_and, h]
  have e : ((x.toBitVec.signExtend 8).signExtend 32).toNat % 256 = x.toBitVec.toNat % 256 := by
    rw [BitVec.toNat_signExtend]
    have hlt := x.toBitVec.isLt
    simp only [BitVec.toNat_setWidth, BitVec.toNat_signExtend]
    split <;> split <;> omega
  rw [← e]
  exact Nat.and_two_pow_sub_one_eq_mod _ 8
theorem pair_says {c : Int32} (h0 : ¬ c < 0) (h1 : ¬ 65535 < c) : pairCh (lo8 c) (hi8 c) = c := by
  rw [Int32.lt_iff_toInt_lt] at h0 h1
  have e0 : (0 : Int32).toInt = 0 := rfl
  have e1 : (65535 : Int32).toInt = 65535 := rfl
  have hc : c.toInt = c.toBitVec.toNat := by
    have := c.toBitVec.isLt
    have e : c.toInt = c.toBitVec.toInt := rfl
    rw [e] at h0 h1
    rw [e]
    rw [BitVec.toInt_eq_toNat_cond] at h0 h1 ⊢
    split at h0 <;> split <;> omega
  have hn : c.toBitVec.toNat < 65536 := by omega
  have a1 := lo8_and c
  have a2 : (hi8 c &&& 255).toBitVec.toNat = c.toBitVec.toNat / 256 := by
    rw [hi8, lo8_and]
    have e : ((8 : Int32) &&& 31) = 8 := by decide
    rw [e, Int32.toBitVec_shiftRight]
    have e2 : ((8 : Int32).toBitVec.smod 32) = 8#32 := by decide
    rw [e2, BitVec.sshiftRight_eq', BitVec.toNat_sshiftRight_of_msb_false (by rw [BitVec.msb_eq_false_iff_two_mul_lt]; omega)]
    show c.toBitVec.toNat >>> 8 % 256 = _
    rw [Nat.shiftRight_eq_div_pow]
    omega
  unfold pairCh
  apply Int32.toBitVec_inj.mp
  apply BitVec.eq_of_toNat_eq
  have f0 : ((0 : Int32) &&& 31) = 0 := by decide
  have f8 : ((8 : Int32) &&& 31) = 8 := by decide
  rw [f0, f8]
  have g : (((lo8 c &&& 255) <<< (0 : Int32)) ||| ((hi8 c &&& 255) <<< (8 : Int32))).toBitVec.toNat = c.toBitVec.toNat := by
    rw [Int32.toBitVec_or, Int32.toBitVec_shiftLeft, Int32.toBitVec_shiftLeft]
    have s0 : ((0 : Int32).toBitVec.smod 32) = 0#32 := by decide
    have s8 : ((8 : Int32).toBitVec.smod 32) = 8#32 := by decide
    rw [s0, s8, BitVec.toNat_or]
    simp only [BitVec.shiftLeft_eq', BitVec.toNat_shiftLeft, a1, a2]
    show (c.toBitVec.toNat % 256) <<< 0 % 2 ^ 32 ||| (c.toBitVec.toNat / 256) <<< 8 % 2 ^ 32 = _
    rw [Nat.shiftLeft_zero, Nat.mod_eq_of_lt (show c.toBitVec.toNat % 256 < 2 ^ 32 by omega), Nat.mod_eq_of_lt (show (c.toBitVec.toNat / 256) <<< 8 < 2 ^ 32 by rw [Nat.shiftLeft_eq]; omega), Nat.or_comm, ← Nat.shiftLeft_add_eq_or_of_lt (by omega), Nat.shiftLeft_eq]
    omega
  show BitVec.toNat (((((lo8 c &&& 255) <<< (0 : Int32)) ||| ((hi8 c &&& 255) <<< (8 : Int32))).toBitVec.setWidth 16).setWidth 32) = _
  rw [BitVec.toNat_setWidth, BitVec.toNat_setWidth, g]
  omega
end StrChars
namespace StrChars
open Jvm Sem ClassFile Op Lib Jvm.Stand Jvm.Free.XT Jvm.Free.ALB Jvm.Free.JM Jvm.Free
open Jvm.Lib.Cold (StaticIs)
/-- charAt's cast of a byte read back -/
def chr8 (u : Int32) : Int32 := (u &&& 255).toUInt32.toUInt16.toUInt32.toInt32
theorem chr8_lo8 {c : Int32} (h0 : ¬ c < 0) (h1 : ¬ 255 < c) : chr8 (lo8 c) = c := by
  have t : ∀ k : Fin 256, (Int32.ofNat k.val).toUInt32.toUInt16.toUInt32.toInt32 = Int32.ofNat k.val := by decide +kernel
  unfold chr8
  rw [lo8_mask h0 h1]
  rw [Int32.lt_iff_toInt_lt] at h0 h1
  have e0 : (0 : Int32).toInt = 0 := rfl
  have e1 : (255 : Int32).toInt = 255 := rfl
  obtain ⟨k, hk⟩ : ∃ k : Nat, c.toInt = k := ⟨c.toInt.toNat, by omega⟩
  have hx : c = Int32.ofNat k := Int32.toInt_inj.mp (by rw [hk, Int32.toInt_ofNat_small (by omega)])
  rw [hx]
  exact t ⟨k, by omega⟩
theorem narrow_ch {c : Int32} (h0 : ¬ c < 0) (h1 : ¬ 65535 < c) : narrow .char (.int c) = .int c := by
  have q : narrow .char (.int (pairCh (lo8 c) (hi8 c))) = .int (pairCh (lo8 c) (hi8 c)) := narrow_c _
  rwa [pair_says h0 h1] at q
/-- the array's cell V codes the n chars f 0 .. f (n - 1) by the coder cd, as the JDK does: coder 1 just where some char is above 255 -/
def Cod (cd : Int32) (n : Nat) (f : Nat → Int32) (V : Cell) : Prop := (cd = 0 ∧ V.slots.size = n ∧ ∀ j, j < n → V.slots[j]? = some (.int (lo8 (f j))) ∧ ¬ 255 < f j) ∨ (cd = 1 ∧ V.slots.size = 2 * n ∧ (∀ j, j < n → V.slots[2 * j]? = some (.int (lo8 (f j))) ∧ V.slots[2 * j + 1]? = some (.int (hi8 (f j)))) ∧ ∃ j, j < n ∧ 255 < f j)
theorem Cod.cd {cd : Int32} {n : Nat} {f : Nat → Int32} {V : Cell} (h : Cod cd n f V) : cd = 0 ∨ cd = 1 := h.imp (fun q => q.1) fun q => q.1
/-- **x is a String of the n chars f 0 .. f (n - 1)**, Latin-1 or UTF-16; its array at t has the cell V -/
def Txt (x t : Addr) (V : Cell) (cd : Int32) (n : Nat) (f : Nat → Int32) (U : State) : Prop := Exact "java/lang/String" x U ∧ Has x "java/lang/String" "value" "[B" (.ref t) U ∧ Has x "java/lang/String" "coder" "B" (.int cd) U ∧ XT.Arr .byte t V U ∧ Cod cd n f V ∧ ∀ j, j < n → ¬ f j < 0 ∧ ¬ 65535 < f j
theorem Txt.mv {x t : Addr} {V : Cell} {cd : Int32} {n : Nat} {f : Nat → Int32} {U U' : State} (h : Txt x t V cd n f U) (hal : U.vm.Alike U'.vm) (hh : U'.heap = U.heap) : Txt x t V cd n f U' := ⟨h.1.mv hal hh, h.2.1.mv hal hh, h.2.2.1.mv hal hh, h.2.2.2.1.mv hal hh, h.2.2.2.2⟩
namespace IsL
def yN : MethodName := ⟨"java/lang/String", "isLatin1", "()Z"⟩
abbrev yB : ByteArray := jdk_42_method_154_code
theorem d0 : decode yB 0 = .ok (.getstatic 38, 3) := by decide +kernel
theorem d3 : decode yB 3 = .ok (.ifCond (.eq) 14, 3) := by decide +kernel
theorem d6 : decode yB 6 = .ok (.aload_n 0, 1) := by decide +kernel
theorem d7 : decode yB 7 = .ok (.getfield 15, 3) := by decide +kernel
theorem d10 : decode yB 10 = .ok (.ifCond (.ne) 7, 3) := by decide +kernel
theorem d13 : decode yB 13 = .ok (.iconst 1, 1) := by decide +kernel
theorem d14 : decode yB 14 = .ok (.goto 4, 3) := by decide +kernel
theorem d17 : decode yB 17 = .ok (.iconst 0, 1) := by decide +kernel
theorem d18 : decode yB 18 = .ok (.ireturn, 1) := by decide +kernel
def site : List Cond := [.fieldLink "java/lang/String" 38 "java/lang/String" "COMPACT_STRINGS" "Z", .fieldLink "java/lang/String" 15 "java/lang/String" "coder" "B"]
def tab : Cond := tabOf yN yB 1 (some .boolean) site
def P (x : Addr) (cd z : Int32) (args : Array Value) (s : State) : Prop := args = #[.ref x] ∧ Has x "java/lang/String" "coder" "B" (.int cd) s ∧ (cd = 0 ∨ cd = 1) ∧ StaticIs s "java/lang/String" "COMPACT_STRINGS" "Z" (.int z) ∧ ¬ z = 0
def E (cd : Int32) (r : Option Value) (s u : State) : Prop := XT.PureE (some (.int (1 - cd))) r s u
theorem law (l : Launch) (x : Addr) (cd z : Int32) : Law l yN 1 0 0 0 yB 1 (some .boolean) site (P x cd z) (E cd) [] 0 0 := by
  refine Law.of_walk (plainFor_of_name (by decide +kernel)) (by decide +kernel) (by decide +kernel) (by decide) (fun _ _ h => by rw [h.1]; rfl) (fun _ U U' hal hh h => ⟨h.1, h.2.1.mv hal hh, h.2.2.1, h.2.2.2.1.there hal hh, h.2.2.2.2⟩) (fun r U U' V V' h1 hal h2 h => XT.PureE.mv r U U' V V' h1 hal h2 h) ?_
  intro p e s m args below meth c s₁ X0 hexec hbytes hml hret hlk hnm hown hh0 W hP
  obtain ⟨rfl, hx, hc, s1, hz⟩ := hP
  have c1 : Steps p.tables e below (s₁.setTop (entryFrame m #[.ref x] 1)) (s₁.setTop (mkF m 0 #[.val (.ref x)] [])) := entry rfl
  obtain ⟨T2, X2, q2, st2⟩ := X0.sget hexec hown (wk W (.fieldLink "java/lang/String" 38 "java/lang/String" "COMPACT_STRINGS" "Z")) s1 (fun _ _ h => by rw [hh0]; exact h) (g := (mkF m 0 #[.val (.ref x)] [])) rfl (hb hbytes d0)
  have hh2 := q2.trans hh0
  have c3 : Steps p.tables e below (s₁.setTop (entryFrame m #[.ref x] 1)) (T2.setTop (mkF m 7 #[.val (.ref x)] [.ref x])) := (c1.trans (st2 _ (Steps.refl _))).trans (by
    refine XS.ifNo X2.here hexec rfl (hb hbytes d3) rfl (i0_eq_f hz) ?_
    refine XS.aloadN X2.here hexec rfl (hb hbytes d6) rfl rfl ?_
    exact Steps.refl _)
  obtain ⟨T4, X4, q4, st4⟩ := X2.hget hexec hown (wk W (.fieldLink "java/lang/String" 15 "java/lang/String" "coder" "B")) (hx.mv X2.warmed.alike hh2) (g := (mkF m 7 #[.val (.ref x)] [.ref x])) rfl (rest := []) rfl (hb hbytes d7)
  have c5 : Steps p.tables e below (s₁.setTop (entryFrame m #[.ref x] 1)) (T4.setTop (mkF m 10 #[.val (.ref x)] [.int cd])) := c3.trans (st4 _ (Steps.refl _))
  have c6 : Steps p.tables e below (s₁.setTop (entryFrame m #[.ref x] 1)) (T4.setTop (mkF m 18 #[.val (.ref x)] [.int (1 - cd)])) := by
    rcases hc with rfl | rfl
    · exact c5.trans (by
        refine XS.ifNo X4.here hexec rfl (hb hbytes d10) rfl (i0_ne_f rfl) ?_
        refine iconstV X4.here hexec rfl 1 (hb hbytes d13) (by decide) ?_
        refine XS.goto X4.here hexec rfl (pc0 := 14) rfl (hb hbytes d14) (by decide) rfl ?_
        exact Steps.refl _)
    · exact c5.trans (by
        refine XS.ifYes X4.here hexec rfl (pc0 := 10) rfl (hb hbytes d10) rfl (i0_ne_t (by decide)) (by decide) rfl ?_
        refine iconstV X4.here hexec rfl 0 (hb hbytes d17) (by decide) ?_
        exact Steps.refl _)
  exact ⟨T4, some (.int (1 - cd)), _, _, _, X4, rfl, rfl, rfl, (fun h => by cases h), ⟨rfl, q4.trans hh2⟩, fun fs hl => c6.trans (X4.ireturnOut hexec hret (by rcases hc with rfl | rfl <;> rfl) (Or.inr (Or.inl rfl)) (hb hbytes d18) hl)⟩
end IsL
namespace LChA
def yN : MethodName := ⟨"java/lang/StringLatin1", "charAt", "([BI)C"⟩
abbrev yB : ByteArray := jdk_43_method_2_code
theorem d0 : decode yB 0 = .ok (.iload_n 1, 1) := by decide +kernel
theorem d1 : decode yB 1 = .ok (.aload_n 0, 1) := by decide +kernel
theorem d2 : decode yB 2 = .ok (.arraylength, 1) := by decide +kernel
theorem d3 : decode yB 3 = .ok (.invokestatic 9, 3) := by decide +kernel
theorem d6 : decode yB 6 = .ok (.aload_n 0, 1) := by decide +kernel
theorem d7 : decode yB 7 = .ok (.iload_n 1, 1) := by decide +kernel
theorem d8 : decode yB 8 = .ok (.baload, 1) := by decide +kernel
theorem d9 : decode yB 9 = .ok (.sipush 255, 3) := by decide +kernel
theorem d12 : decode yB 12 = .ok (.iand, 1) := by decide +kernel
theorem d13 : decode yB 13 = .ok (.i2c, 1) := by decide +kernel
theorem d14 : decode yB 14 = .ok (.ireturn, 1) := by decide +kernel
def site : List Cond := [JO.Str_checkIndex.tab] ++ staticW "java/lang/StringLatin1" 9 JO.Str_checkIndex.yN
def tab : Cond := tabOf yN yB 2 (some .char) site
def P (t : Addr) (V : Cell) (i : Nat) (u : Int32) (fm : Value) (args : Array Value) (s : State) : Prop := args = #[.ref t, .int (Int32.ofNat i)] ∧ XT.Arr .byte t V s ∧ V.slots[i]? = some (.int u) ∧ (StaticIs s "jdk/internal/util/Preconditions" "SIOOBE_FORMATTER" "Ljava/util/function/BiFunction;" fm ∧ fm.isRef = true)
def E (u : Int32) (r : Option Value) (s w : State) : Prop := XT.PureE (some (.int (chr8 u))) r s w
theorem law (l : Launch) (t : Addr) (V : Cell) (i : Nat) (u : Int32) (fm : Value) : Law l yN 2 2 2 27 yB 2 (some .char) site (P t V i u fm) (E u) [] 0 0 := by
  refine Law.of_walk (plainFor_of_name (by decide +kernel)) (by decide +kernel) (by decide +kernel) (by decide) (fun _ _ h => by rw [h.1]; rfl) (fun _ U U' hal hh h => ⟨h.1, h.2.1.mv hal hh, h.2.2.1, h.2.2.2.1.there hal hh, h.2.2.2.2⟩) (fun r U U' V V' h1 hal h2 h => XT.PureE.mv r U U' V V' h1 hal h2 h) ?_
  intro p e s m args below meth c s₁ X0 hexec hbytes hml hret hlk hnm hown hh0 W hP
  obtain ⟨rfl, hV, hu, s1, rf⟩ := hP
  have v31 := hV.2.2.2
  have hi : i < V.slots.size := (Array.getElem?_eq_some_iff.mp hu).1
  have c1 : Steps p.tables e below (s₁.setTop (entryFrame m #[.ref t, .int (Int32.ofNat i)] 2)) (s₁.setTop (mkF m 0 #[.val (.ref t), .val (.int (Int32.ofNat i))] [])) := entry rfl
  have c2 : Steps p.tables e below (s₁.setTop (entryFrame m #[.ref t, .int (Int32.ofNat i)] 2)) (s₁.setTop (mkF m 3 #[.val (.ref t), .val (.int (Int32.ofNat i))] [.int (Int32.ofNat V.slots.size), .int (Int32.ofNat i)])) := c1.trans (by
    refine XS.iloadN X0.here hexec rfl (hb hbytes d0) rfl ?_
    refine XS.aloadN X0.here hexec rfl (hb hbytes d1) rfl rfl ?_
    refine X0.alen hexec (hV.mv X0.warmed.alike hh0) rfl rfl (hb hbytes d2) ?_
    exact Steps.refl _)
  obtain ⟨v3, T3, X3, E3, g3⟩ := X0.callS hexec (JO.Str_checkIndex.law l (Int32.ofNat i) (Int32.ofNat V.slots.size) fm) hown (wks W (staticW "java/lang/StringLatin1" 9 JO.Str_checkIndex.yN)) (wk W JO.Str_checkIndex.tab) (W := 0) (Nat.le_of_ble_eq_true rfl) (Nat.le_of_ble_eq_true rfl) (Nat.le_refl _) (Nat.le_refl _) (g := (mkF m 3 #[.val (.ref t), .val (.int (Int32.ofNat i))] [.int (Int32.ofNat V.slots.size), .int (Int32.ofNat i)])) rfl (by rw [hml]; rfl) c2 (argsL := [.int (Int32.ofNat i), .int (Int32.ofNat V.slots.size)]) (rest := []) rfl rfl (by show 2 * 0 + 0 ≤ _; decide) (hb hbytes d3) (⟨rfl, rf, s1.there X0.warmed.alike hh0, Int32.ofNat_not_neg (by omega), lt32 v31 hi⟩)
  obtain ⟨rfl, q3⟩ := E3
  have hh3 := q3.trans hh0
  have c4 : Steps p.tables e below (s₁.setTop (entryFrame m #[.ref t, .int (Int32.ofNat i)] 2)) (T3.setTop (mkF m 14 #[.val (.ref t), .val (.int (Int32.ofNat i))] [.int (chr8 u)])) := Steps.trans g3 (by
    refine XS.aloadN X3.here hexec rfl (hb hbytes d6) rfl rfl ?_
    refine XS.iloadN X3.here hexec rfl (hb hbytes d7) rfl ?_
    refine X3.aget hexec (hV.mv X3.warmed.alike hh3) rfl hu rfl rfl (hb hbytes d8) ?_
    refine sipushV X3.here hexec rfl 255 (hb hbytes d9) (by decide) ?_
    refine XS.iand X3.here hexec rfl (hb hbytes d12) rfl ?_
    refine i2c X3.here hexec rfl (hb hbytes d13) rfl ?_
    exact Steps.refl _)
  exact ⟨T3, some (.int (chr8 u)), _, _, _, X3, rfl, rfl, rfl, (fun h => by cases h), ⟨rfl, hh3⟩, fun fs hl => c4.trans (X3.ireturnOut hexec hret (narrow_c _) (Or.inr (Or.inr (Or.inr (Or.inl rfl)))) (hb hbytes d14) hl)⟩
end LChA
end StrChars
namespace StrChars.Road
open Jvm Sem ClassFile Op Lib Jvm.Stand Jvm.Free Jvm.Free.XT
open Jvm.Lib.Cold (StaticIs)
theorem consq {a : Array Value} {s : State} {c : Jvm.Cond} {L : List Jvm.Cond} (h0 : c.before a s = true) (h : ∀ w ∈ L, w.before a s = true) : ∀ w ∈ c :: L, w.before a s = true := fun w hw => (List.mem_cons.mp hw).elim (fun e => e ▸ h0) (h w)
/-- the bytes of the chars cs, low before high -/
def wideBytes : List Int32 → List Value
  | [] => []
  | c :: cs => .int (lo8 c) :: .int (hi8 c) :: wideBytes cs
theorem wide_lo (d : Value) : ∀ (cs : List Int32) (j : Nat), j < cs.length → (wideBytes cs).getD (2 * j) d = .int (lo8 (cs.getD j 0))
  | [], j, h => absurd h (Nat.not_lt_zero j)
  | c :: cs, 0, _ => rfl
  | c :: cs, j + 1, h => by
    have q := wide_lo d cs j (by simpa using h)
    rw [show 2 * (j + 1) = 2 * j + 1 + 1 from by omega]
    simpa [wideBytes] using q
theorem wide_hi (d : Value) : ∀ (cs : List Int32) (j : Nat), j < cs.length → (wideBytes cs).getD (2 * j + 1) d = .int (hi8 (cs.getD j 0))
  | [], j, h => absurd h (Nat.not_lt_zero j)
  | c :: cs, 0, _ => rfl
  | c :: cs, j + 1, h => by
    have q := wide_hi d cs j (by simpa using h)
    rw [show 2 * (j + 1) + 1 = 2 * j + 1 + 1 + 1 from by omega]
    simpa [wideBytes] using q
theorem low_at (d : Value) (cs : List Int32) (j : Nat) (h : j < cs.length) : (cs.map fun c => Value.int (lo8 c)).getD j d = .int (lo8 (cs.getD j 0)) := by
  simp [List.getD_eq_getElem?_getD, h]
/-- an array of N2 bytes vs codes the chars cs by the coder cd -/
def CodA (cs : List Int32) (cd N2 : Int32) (vs : List Value) : Prop := (cd = 0 ∧ N2 = Int32.ofNat cs.length ∧ vs = (cs.map fun c => Value.int (lo8 c)) ∧ ∀ c ∈ cs, ¬ 255 < c) ∨ (cd = 1 ∧ N2 = Int32.ofNat (2 * cs.length) ∧ vs = wideBytes cs ∧ ∃ c ∈ cs, 255 < c)
theorem CodA.cod {cs : List Int32} {cd N2 : Int32} {vs : List Value} {V : Cell} (h : CodA cs cd N2 vs) (hn : 2 * cs.length < 2 ^ 31) (hs : V.slots.size = N2.toNatClampNeg) (hv : RoadKit.Has V vs (.int 0)) : Cod cd cs.length (fun j => cs.getD j 0) V := by
  rcases h with ⟨rfl, rfl, rfl, h⟩ | ⟨rfl, rfl, rfl, c, hc, hw⟩
  · rw [n32 (by omega)] at hs
    exact Or.inl ⟨rfl, hs, fun j hj => ⟨by rw [hv j (by omega), low_at _ _ _ hj], by
      have e : cs.getD j 0 = cs[j] := by simp [List.getD_eq_getElem?_getD, hj]
      show ¬ 255 < cs.getD j 0
      rw [e]; exact h _ (List.getElem_mem _)⟩⟩
  · rw [n32 (by omega)] at hs
    obtain ⟨j, hj, rfl⟩ := List.getElem_of_mem hc
    exact Or.inr ⟨rfl, hs, fun j hj => ⟨by rw [hv _ (by omega), wide_lo _ _ _ hj], by rw [hv _ (by omega), wide_hi _ _ _ hj]⟩, j, hj, by
      have e : cs.getD j 0 = cs[j] := by simp [List.getD_eq_getElem?_getD, hj]
      show 255 < cs.getD j 0
      rw [e]; exact hw⟩
/-- an object of exactly java/lang/String, its two fields found: as the laws ask it -/
theorem strObj {Z U : State} {a0 : Array Value} {kI : Nat} (wi : (Jvm.Cond.instantiable ST kI).before a0 Z = true) (al : Z.vm.Alike U.vm) {x : Addr} {v0 c0 : Value} (E : RoadKit.Exa Z U.heap x ST) (V : RoadKit.Fld Z U.heap x ST "value" "[B" v0) (C : RoadKit.Fld Z U.heap x ST "coder" "B" c0) :
    ∃ (D : Cell) (fV fC : Field), Blank ST x D U ∧ Found ST "value" "[B" fV U ∧ Found ST "coder" "B" fC U ∧ D.slots[fV.slot]? = some v0 ∧ D.slots[fC.slot]? = some c0 ∧ RoadKit.slotOf Z ST "value" "[B" = fV.slot ∧ RoadKit.slotOf Z ST "coder" "B" = fC.slot := by
  obtain ⟨D, cfV, kV, iV, fV, hD, gV, stV, knV, obV, asV, slV⟩ := V
  obtain ⟨D', cfC, kC, iC, fC, hD', gC, stC, -, -, asC, slC⟩ := C
  cases hD.symm.trans hD'
  obtain ⟨D2, kD, e1, e2, e3, e4, e5⟩ := E
  cases hD.symm.trans e1
  obtain ⟨c2, k2, i1, i2, i3, -⟩ := Cond.instantiable_spec wi
  cases e2.symm.trans i1
  cases e3.symm.trans i2
  obtain ⟨kU, u1, u2⟩ := al.2.2 _ _ e3
  exact ⟨D, fV, fC, ⟨hD, ⟨knV, fun q hq => by rw [hq] at obV; cases obV⟩, by rw [al.findClass]; exact e2, kU, u1, by rw [u2]; exact i3, by rw [u2]; exact e5 i3⟩, ⟨SBG.found_only al ⟨cfV, kV, iV, gV⟩, stV⟩, ⟨SBG.found_only al ⟨cfC, kC, iC, gC⟩, stC⟩, slV, slC, by simp [RoadKit.slotOf, gV], by simp [RoadKit.slotOf, gC]⟩
theorem sta_is {Z U : State} (al : Z.vm.Alike U.vm) {C n d : String} {v : Value} (S : RoadKit.Sta Z U.heap C n d v) : StaticIs U C n d v := by
  obtain ⟨cfS, iS, kS, fS, st, cS, t1, t2, t3, t4, t5, t6, t7⟩ := S
  exact StaticIs.there (s := { Z with heap := U.heap }) ⟨cfS, iS, kS, fS, st, cS, t1, t2, t3, t4, t5, (fun q => by rw [q] at t6; cases t6), t7⟩ al rfl
end StrChars.Road
namespace StrChars
open Jvm Sem ClassFile Op Lib Jvm.Stand Jvm.Free.XT Jvm.Free.ALB Jvm.Free.JM Jvm.Free
open Jvm.Lib.Cold (StaticIs)
/-- what place i of a byte[]'s cell holds -/
def yv (A : Cell) (i : Nat) : Int32 := match A.slots[i]? with | some (.int x) => x | _ => 0
theorem yv_get {a : Addr} {A : Cell} {U : State} (h : XT.Arr .byte a A U) (ht : Typed .byte A) {i : Nat} (hi : i < A.slots.size) : A.slots[i]? = some (.int (yv A i)) := by
  have e := Array.getElem?_eq_getElem hi
  have f := ht i _ e
  unfold yv; rw [e]
  generalize A.slots[i] = v at f
  cases v <;> simp [fits] at f ⊢
/-- the two arrays are equal, place for place -/
def EqC (A B : Cell) : Prop := A.slots.size = B.slots.size ∧ ∀ i, i < A.slots.size → yv A i = yv B i
/-- a boolean that says whether p -/
def Says01 (q : Prop) (r : Option Value) (s u : State) : Prop := ∃ v : Int32, r = some (.int v) ∧ u.heap = s.heap ∧ ((v = 1 ∧ q) ∨ (v = 0 ∧ ¬ q))
theorem Says01.mv {q : Prop} : ∀ r (U U' V V' : State), U'.heap = U.heap → V.vm.Alike V'.vm → V'.heap = V.heap → Says01 q r U V → Says01 q r U' V' :=
  fun r U U' V V' h1 _ h2 ⟨v, a, b, c⟩ => ⟨v, a, by rw [h1, h2]; exact b, c⟩
namespace LEq
def yN : MethodName := ⟨"java/lang/StringLatin1", "equals", "([B[B)Z"⟩
abbrev yB : ByteArray := jdk_43_method_13_code
theorem d0 : decode yB 0 = .ok (.aload_n 0, 1) := by decide +kernel
theorem d1 : decode yB 1 = .ok (.arraylength, 1) := by decide +kernel
theorem d2 : decode yB 2 = .ok (.aload_n 1, 1) := by decide +kernel
theorem d3 : decode yB 3 = .ok (.arraylength, 1) := by decide +kernel
theorem d4 : decode yB 4 = .ok (.if_icmp (.ne) 30, 3) := by decide +kernel
theorem d7 : decode yB 7 = .ok (.iconst 0, 1) := by decide +kernel
theorem d8 : decode yB 8 = .ok (.istore_n 2, 1) := by decide +kernel
theorem d9 : decode yB 9 = .ok (.iload_n 2, 1) := by decide +kernel
theorem d10 : decode yB 10 = .ok (.aload_n 0, 1) := by decide +kernel
theorem d11 : decode yB 11 = .ok (.arraylength, 1) := by decide +kernel
theorem d12 : decode yB 12 = .ok (.if_icmp (.ge) 20, 3) := by decide +kernel
theorem d15 : decode yB 15 = .ok (.aload_n 0, 1) := by decide +kernel
theorem d16 : decode yB 16 = .ok (.iload_n 2, 1) := by decide +kernel
theorem d17 : decode yB 17 = .ok (.baload, 1) := by decide +kernel
theorem d18 : decode yB 18 = .ok (.aload_n 1, 1) := by decide +kernel
theorem d19 : decode yB 19 = .ok (.iload_n 2, 1) := by decide +kernel
theorem d20 : decode yB 20 = .ok (.baload, 1) := by decide +kernel
theorem d21 : decode yB 21 = .ok (.if_icmp (.eq) 5, 3) := by decide +kernel
theorem d24 : decode yB 24 = .ok (.iconst 0, 1) := by decide +kernel
theorem d25 : decode yB 25 = .ok (.ireturn, 1) := by decide +kernel
theorem d26 : decode yB 26 = .ok (.iinc 2 1, 3) := by decide +kernel
theorem d29 : decode yB 29 = .ok (.goto (-20), 3) := by decide +kernel
theorem d32 : decode yB 32 = .ok (.iconst 1, 1) := by decide +kernel
theorem d33 : decode yB 33 = .ok (.ireturn, 1) := by decide +kernel
theorem d34 : decode yB 34 = .ok (.iconst 0, 1) := by decide +kernel
theorem d35 : decode yB 35 = .ok (.ireturn, 1) := by decide +kernel
def site : List Cond := []
def tab : Cond := tabOf yN yB 3 (some .boolean) site
def P (a : Addr) (A : Cell) (b : Addr) (B : Cell) (args : Array Value) (s : State) : Prop := args = #[.ref a, .ref b] ∧ XT.Arr .byte a A s ∧ Typed .byte A ∧ XT.Arr .byte b B s ∧ Typed .byte B
/-- whether two byte[] are equal, place for place -/
theorem law (l : Launch) (a : Addr) (A : Cell) (b : Addr) (B : Cell) : Law l yN 2 2 0 0 yB 3 (some .boolean) site (P a A b B) (Says01 (EqC A B)) [] 0 0 := by
  refine Law.of_walk (plainFor_of_name (by decide +kernel)) (by decide +kernel) (by decide +kernel) (by decide) (fun _ _ h => by rw [h.1]; rfl) (fun _ U U' hal hh h => ⟨h.1, h.2.1.mv hal hh, h.2.2.1, h.2.2.2.1.mv hal hh, h.2.2.2.2⟩) (fun r U U' V V' h1 hal h2 h => Says01.mv r U U' V V' h1 hal h2 h) ?_
  intro p e s m args below meth c s₁ X0 hexec hbytes hml hret hlk hnm hown hh0 W hP
  obtain ⟨rfl, hA, tA, hB, tB⟩ := hP
  have a31 := hA.2.2.2
  have b31 := hB.2.2.2
  have hA0 := hA.mv X0.warmed.alike hh0
  have hB0 := hB.mv X0.warmed.alike hh0
  have c1 : Steps p.tables e below (s₁.setTop (entryFrame m #[.ref a, .ref b] 3)) (s₁.setTop (mkF m 0 #[.val (.ref a), .val (.ref b), .unset] [])) := entry rfl
  have c2 : Steps p.tables e below (s₁.setTop (entryFrame m #[.ref a, .ref b] 3)) (s₁.setTop (mkF m 4 #[.val (.ref a), .val (.ref b), .unset] [.int (Int32.ofNat B.slots.size), .int (Int32.ofNat A.slots.size)])) := c1.trans (by
    refine XS.aloadN X0.here hexec rfl (hb hbytes d0) rfl rfl ?_
    refine X0.alen hexec hA0 rfl rfl (hb hbytes d1) ?_
    refine XS.aloadN X0.here hexec rfl (hb hbytes d2) rfl rfl ?_
    refine X0.alen hexec hB0 rfl rfl (hb hbytes d3) ?_
    exact Steps.refl _)
  by_cases hs : A.slots.size = B.slots.size
  · have c3 : Steps p.tables e below (s₁.setTop (entryFrame m #[.ref a, .ref b] 3)) (s₁.setTop (mkF m 9 #[.val (.ref a), .val (.ref b), .val (.int 0)] [])) := c2.trans (by
      refine XS.icmpNo X0.here hexec rfl (hb hbytes d4) rfl (ii_ne_f (by rw [hs])) ?_
      refine iconstV X0.here hexec rfl 0 (hb hbytes d7) (by decide) ?_
      refine XS.istoreN X0.here hexec rfl (hb hbytes d8) rfl rfl ?_
      exact Steps.refl _)
    have loop : ∀ (r i : Nat), i + r = A.slots.size → (∀ j, j < i → yv A j = yv B j) → Steps p.tables e below (s₁.setTop (entryFrame m #[.ref a, .ref b] 3)) (s₁.setTop (mkF m 9 #[.val (.ref a), .val (.ref b), .val (.int (Int32.ofNat i))] [])) → ∃ (pc : Nat) (Ls : Array Slot) (v : Int32), (pc = 25 ∨ pc = 33) ∧ ((v = 1 ∧ EqC A B) ∨ (v = 0 ∧ ¬ EqC A B)) ∧ Steps p.tables e below (s₁.setTop (entryFrame m #[.ref a, .ref b] 3)) (s₁.setTop (mkF m pc Ls [.int v])) := by
      intro r
      induction r with
      | zero =>
        intro i hi he cl
        exact ⟨33, _, 1, Or.inr rfl, Or.inl ⟨rfl, hs, fun j hj => he j (by omega)⟩, cl.trans (by
          refine XS.iloadN X0.here hexec rfl (hb hbytes d9) rfl ?_
          refine XS.aloadN X0.here hexec rfl (hb hbytes d10) rfl rfl ?_
          refine X0.alen hexec hA0 rfl rfl (hb hbytes d11) ?_
          refine XS.icmpYes X0.here hexec rfl (pc0 := 12) rfl (hb hbytes d12) rfl (ii_ge_t (nlt32 (by omega) (by omega))) (by decide) rfl ?_
          refine iconstV X0.here hexec rfl 1 (hb hbytes d32) (by decide) ?_
          exact Steps.refl _)⟩
      | succ r ih =>
        intro i hi he cl
        have c4 : Steps p.tables e below (s₁.setTop (entryFrame m #[.ref a, .ref b] 3)) (s₁.setTop (mkF m 21 #[.val (.ref a), .val (.ref b), .val (.int (Int32.ofNat i))] [.int (yv B i), .int (yv A i)])) := cl.trans (by
          refine XS.iloadN X0.here hexec rfl (hb hbytes d9) rfl ?_
          refine XS.aloadN X0.here hexec rfl (hb hbytes d10) rfl rfl ?_
          refine X0.alen hexec hA0 rfl rfl (hb hbytes d11) ?_
          refine XS.icmpNo X0.here hexec rfl (hb hbytes d12) rfl (ii_ge_f (lt32 (by omega) (by omega))) ?_
          refine XS.aloadN X0.here hexec rfl (hb hbytes d15) rfl rfl ?_
          refine XS.iloadN X0.here hexec rfl (hb hbytes d16) rfl ?_
          refine X0.aget hexec hA0 rfl (yv_get hA tA (i := i) (by omega)) rfl rfl (hb hbytes d17) ?_
          refine XS.aloadN X0.here hexec rfl (hb hbytes d18) rfl rfl ?_
          refine XS.iloadN X0.here hexec rfl (hb hbytes d19) rfl ?_
          refine X0.aget hexec hB0 rfl (yv_get hB tB (i := i) (by omega)) rfl rfl (hb hbytes d20) ?_
          exact Steps.refl _)
        by_cases hv : yv A i = yv B i
        · have c5 : Steps p.tables e below (s₁.setTop (entryFrame m #[.ref a, .ref b] 3)) (s₁.setTop (mkF m 9 #[.val (.ref a), .val (.ref b), .val (.int (Int32.ofNat i + 1))] [])) := c4.trans (by
            refine XS.icmpYes X0.here hexec rfl (pc0 := 21) rfl (hb hbytes d21) rfl (ii_eq_t hv) (by decide) rfl ?_
            refine iincV X0.here hexec rfl 1 (hb hbytes d26) (by decide) rfl rfl ?_
            refine XS.goto X0.here hexec rfl (pc0 := 29) rfl (hb hbytes d29) (by decide) rfl ?_
            exact Steps.refl _)
          rw [succ32] at c5
          exact ih (i + 1) (by omega) (fun j hj => by
            by_cases e : j = i
            · rw [e]; exact hv
            · exact he j (by omega)) c5
        · exact ⟨25, _, 0, Or.inl rfl, Or.inr ⟨rfl, fun q => hv (q.2 i (by omega))⟩, c4.trans (by
            refine XS.icmpNo X0.here hexec rfl (hb hbytes d21) rfl (ii_eq_f hv) ?_
            refine iconstV X0.here hexec rfl 0 (hb hbytes d24) (by decide) ?_
            exact Steps.refl _)⟩
    obtain ⟨pc, Ls, v, hpc, hv, cz⟩ := loop A.slots.size 0 (by omega) (fun j hj => absurd hj (Nat.not_lt_zero j)) c3
    have nv : narrow .boolean (.int v) = .int v := by rcases hv with ⟨rfl, -⟩ | ⟨rfl, -⟩ <;> rfl
    rcases hpc with rfl | rfl
    · exact ⟨s₁, some (.int v), _, _, _, X0, rfl, rfl, rfl, (fun h => by cases h), ⟨v, rfl, hh0, hv⟩, fun fs hl => cz.trans (X0.ireturnOut hexec hret nv (Or.inr (Or.inl rfl)) (hb hbytes d25) hl)⟩
    · exact ⟨s₁, some (.int v), _, _, _, X0, rfl, rfl, rfl, (fun h => by cases h), ⟨v, rfl, hh0, hv⟩, fun fs hl => cz.trans (X0.ireturnOut hexec hret nv (Or.inr (Or.inl rfl)) (hb hbytes d33) hl)⟩
  · have c3 : Steps p.tables e below (s₁.setTop (entryFrame m #[.ref a, .ref b] 3)) (s₁.setTop (mkF m 35 #[.val (.ref a), .val (.ref b), .unset] [.int 0])) := c2.trans (by
      refine XS.icmpYes X0.here hexec rfl (pc0 := 4) rfl (hb hbytes d4) rfl (ii_ne_t (ne32 a31 b31 hs)) (by decide) rfl ?_
      refine iconstV X0.here hexec rfl 0 (hb hbytes d34) (by decide) ?_
      exact Steps.refl _)
    exact ⟨s₁, some (.int 0), _, _, _, X0, rfl, rfl, rfl, (fun h => by cases h), ⟨0, rfl, hh0, Or.inr ⟨rfl, fun q => hs q.1⟩⟩, fun fs hl => c3.trans (X0.ireturnOut hexec hret rfl (Or.inr (Or.inl rfl)) (hb hbytes d35) hl)⟩
end LEq
theorem Cod.ty {cd : Int32} {n : Nat} {f : Nat → Int32} {V : Cell} (h : Cod cd n f V) : Typed .byte V := fun i v hv => by
  have hi : i < V.slots.size := (Array.getElem?_eq_some_iff.mp hv).1
  rcases h with ⟨-, k1, k2⟩ | ⟨-, k1, k2, -⟩
  · rw [(k2 i (by omega)).1] at hv; cases hv; exact fits_lo8 _
  · rcases Nat.mod_two_eq_zero_or_one i with e | e
    · obtain ⟨j, rfl⟩ : ∃ j, i = 2 * j := ⟨i / 2, by omega⟩
      rw [(k2 j (by omega)).1] at hv; cases hv; exact fits_lo8 _
    · obtain ⟨j, rfl⟩ : ∃ j, i = 2 * j + 1 := ⟨i / 2, by omega⟩
      rw [(k2 j (by omega)).2] at hv; cases hv; exact fits_lo8 _
/-- the same text -/
def SameT (n : Nat) (f : Nat → Int32) (k : Nat) (g : Nat → Int32) : Prop := n = k ∧ ∀ j, j < n → f j = g j
theorem lo8_inj {x y : Int32} (h0 : ¬ x < 0) (h1 : ¬ 255 < x) (k0 : ¬ y < 0) (k1 : ¬ 255 < y) (h : lo8 x = lo8 y) : x = y := by
  rw [← lo8_mask h0 h1, ← lo8_mask k0 k1, h]
/-- arrays coded by one coder are equal just where the texts are -/
theorem Cod.eqv {cd : Int32} {n k : Nat} {f g : Nat → Int32} {V V' : Cell} (h : Cod cd n f V) (h' : Cod cd k g V') (hf : ∀ j, j < n → ¬ f j < 0 ∧ ¬ 65535 < f j) (hg : ∀ j, j < k → ¬ g j < 0 ∧ ¬ 65535 < g j) : EqC V V' ↔ SameT n f k g := by
  have yvv : ∀ {W : Cell} {i : Nat} {x : Int32}, W.slots[i]? = some (.int x) → yv W i = x := fun q => by unfold yv; rw [q]
  rcases h with ⟨rfl, k1, k2⟩ | ⟨rfl, k1, k2, -⟩
  · rcases h' with ⟨-, m1, m2⟩ | ⟨e, -⟩
    · constructor
      · rintro ⟨e1, e2⟩
        refine ⟨by omega, fun j hj => ?_⟩
        have q := e2 j (by omega)
        rw [yvv (k2 j hj).1, yvv (m2 j (by omega)).1] at q
        exact lo8_inj (hf j hj).1 (k2 j hj).2 (hg j (by omega)).1 (m2 j (by omega)).2 q
      · rintro ⟨rfl, e2⟩
        refine ⟨by omega, fun j hj => ?_⟩
        rw [yvv (k2 j (by omega)).1, yvv (m2 j (by omega)).1, e2 j (by omega)]
    · exact absurd e (by decide)
  · rcases h' with ⟨e, -⟩ | ⟨-, m1, m2, -⟩
    · exact absurd e (by decide)
    · constructor
      · rintro ⟨e1, e2⟩
        refine ⟨by omega, fun j hj => ?_⟩
        have q1 := e2 (2 * j) (by omega)
        have q2 := e2 (2 * j + 1) (by omega)
        rw [yvv (k2 j hj).1, yvv (m2 j (by omega)).1] at q1
        rw [yvv (k2 j hj).2, yvv (m2 j (by omega)).2] at q2
        rw [← pair_says (hf j hj).1 (hf j hj).2, ← pair_says (hg j (by omega)).1 (hg j (by omega)).2, q1, q2]
      · rintro ⟨rfl, e2⟩
        refine ⟨by omega, fun i hi => ?_⟩
        rcases Nat.mod_two_eq_zero_or_one i with e | e
        · obtain ⟨j, rfl⟩ : ∃ j, i = 2 * j := ⟨i / 2, by omega⟩
          rw [yvv (k2 j (by omega)).1, yvv (m2 j (by omega)).1, e2 j (by omega)]
        · obtain ⟨j, rfl⟩ : ∃ j, i = 2 * j + 1 := ⟨i / 2, by omega⟩
          rw [yvv (k2 j (by omega)).2, yvv (m2 j (by omega)).2, e2 j (by omega)]
/-- two codings differ: so do the texts -/
theorem Cod.dif {cd cd' : Int32} {n k : Nat} {f g : Nat → Int32} {V V' : Cell} (h : Cod cd n f V) (h' : Cod cd' k g V') (hne : ¬ cd = cd') : ¬ SameT n f k g := by
  rintro ⟨rfl, e⟩
  rcases h with ⟨rfl, -, k2⟩ | ⟨rfl, -, -, j, hj, hw⟩
  · rcases h' with ⟨rfl, -⟩ | ⟨-, -, -, j, hj, hw⟩
    · exact hne rfl
    · exact (k2 j hj).2 (by rw [e j hj]; exact hw)
  · rcases h' with ⟨-, -, m2⟩ | ⟨rfl, -⟩
    · exact (m2 j hj).2 (by rw [← e j hj]; exact hw)
    · exact hne rfl
/-- an object of exactly C is an instance of C -/
theorem cinst {p : Program} {l : Launch} {e : Env} {R : Room} {s : State} {m : MethodId} {args : Array Value} {below : List Frame} {meth : Method} {c : Code} {T : State} {locs : List Loc} {cells slots : Nat} (X : Stand p l e R s m args below meth c T locs cells slots) (hexec : p.tables.exec = Jvm.exec) {own C : String} {index : Nat} (hown : s.vm.findClass own = some m.cls) (hlink : (Cond.classLink own index C).before args s = true) {a : Addr} (hE : Exact C a T)
    {g : JFrame} (hg : g.method = m) {rest : List Value} (hstack : g.stack = .ref a :: rest) (hdg : decode c.code g.pc = .ok (.instanceof index, 3)) :
    ∃ T', Stand p l e R s m args below meth c T' locs cells slots ∧ T'.heap = T.heap ∧ ∀ target, Steps p.tables e below (T'.setTop { g with pc := g.pc + 3, stack := .int 1 :: rest }) target → Steps p.tables e below (T.setTop g) target := by
  obtain ⟨cB, h1, D, h2, h3, h4⟩ := hE
  have h1' : s.vm.findClass C = some cB := by rw [← X.warmed.alike.findClass]; exact h1
  obtain ⟨vm', X', st⟩ := X.instanceofYes hexec hown hlink h2 h4 h1' (by rw [h3]; exact Jvm.Free.SB.assignable_self _ _) hg hstack hdg
  exact ⟨_, X', rfl, st⟩
theorem cself {p : Program} {l : Launch} {e : Env} {R : Room} {s : State} {m : MethodId} {args : Array Value} {below : List Frame} {meth : Method} {c : Code} {T : State} {locs : List Loc} {cells slots : Nat} (X : Stand p l e R s m args below meth c T locs cells slots) (hexec : p.tables.exec = Jvm.exec) {own C : String} {index : Nat} (hown : s.vm.findClass own = some m.cls) (hlink : (Cond.classLink own index C).before args s = true) {a : Addr} (hE : Exact C a T)
    {g : JFrame} (hg : g.method = m) {rest : List Value} (hstack : g.stack = .ref a :: rest) (hdg : decode c.code g.pc = .ok (.checkcast index, 3)) :
    ∃ T', Stand p l e R s m args below meth c T' locs cells slots ∧ T'.heap = T.heap ∧ ∀ target, Steps p.tables e below (T'.setTop { g with pc := g.pc + 3, stack := .ref a :: rest }) target → Steps p.tables e below (T.setTop g) target := by
  obtain ⟨cB, h1, D, h2, h3, h4⟩ := hE
  have h1' : s.vm.findClass C = some cB := by rw [← X.warmed.alike.findClass]; exact h1
  obtain ⟨vm', X', st⟩ := X.checkcastYes hexec hown hlink h2 h4 h1' (by rw [h3]; exact Jvm.Free.SB.assignable_self _ _) hg hstack hdg
  exact ⟨_, X', rfl, fun t h => st t (by rw [← hstack] at h; exact h)⟩
namespace SEq
def yN : MethodName := ⟨"java/lang/String", "equals", "(Ljava/lang/Object;)Z"⟩
abbrev yB : ByteArray := jdk_42_method_66_code
theorem d0 : decode yB 0 = .ok (.aload_n 0, 1) := by decide +kernel
theorem d1 : decode yB 1 = .ok (.aload_n 1, 1) := by decide +kernel
theorem d2 : decode yB 2 = .ok (.if_acmp (.ne) 5, 3) := by decide +kernel
theorem d5 : decode yB 5 = .ok (.iconst 1, 1) := by decide +kernel
theorem d6 : decode yB 6 = .ok (.ireturn, 1) := by decide +kernel
theorem d7 : decode yB 7 = .ok (.aload_n 1, 1) := by decide +kernel
theorem d8 : decode yB 8 = .ok (.instanceof 10, 3) := by decide +kernel
theorem d11 : decode yB 11 = .ok (.ifCond (.eq) 43, 3) := by decide +kernel
theorem d14 : decode yB 14 = .ok (.aload_n 1, 1) := by decide +kernel
theorem d15 : decode yB 15 = .ok (.checkcast 10, 3) := by decide +kernel
theorem d18 : decode yB 18 = .ok (.astore_n 2, 1) := by decide +kernel
theorem d19 : decode yB 19 = .ok (.getstatic 38, 3) := by decide +kernel
theorem d22 : decode yB 22 = .ok (.ifCond (.eq) 14, 3) := by decide +kernel
theorem d25 : decode yB 25 = .ok (.aload_n 0, 1) := by decide +kernel
theorem d26 : decode yB 26 = .ok (.getfield 15, 3) := by decide +kernel
theorem d29 : decode yB 29 = .ok (.aload_n 2, 1) := by decide +kernel
theorem d30 : decode yB 30 = .ok (.getfield 15, 3) := by decide +kernel
theorem d33 : decode yB 33 = .ok (.if_icmp (.ne) 21, 3) := by decide +kernel
theorem d36 : decode yB 36 = .ok (.aload_n 0, 1) := by decide +kernel
theorem d37 : decode yB 37 = .ok (.getfield 9, 3) := by decide +kernel
theorem d40 : decode yB 40 = .ok (.aload_n 2, 1) := by decide +kernel
theorem d41 : decode yB 41 = .ok (.getfield 9, 3) := by decide +kernel
theorem d44 : decode yB 44 = .ok (.invokestatic 541, 3) := by decide +kernel
theorem d47 : decode yB 47 = .ok (.ifCond (.eq) 7, 3) := by decide +kernel
theorem d50 : decode yB 50 = .ok (.iconst 1, 1) := by decide +kernel
theorem d51 : decode yB 51 = .ok (.goto 4, 3) := by decide +kernel
theorem d54 : decode yB 54 = .ok (.iconst 0, 1) := by decide +kernel
theorem d55 : decode yB 55 = .ok (.ireturn, 1) := by decide +kernel
def site : List Cond := [.classLink "java/lang/String" 10 "java/lang/String", .fieldLink "java/lang/String" 38 "java/lang/String" "COMPACT_STRINGS" "Z", .fieldLink "java/lang/String" 15 "java/lang/String" "coder" "B", .fieldLink "java/lang/String" 9 "java/lang/String" "value" "[B", LEq.tab] ++ staticW "java/lang/String" 541 LEq.yN
def tab : Cond := tabOf yN yB 3 (some .boolean) site
def P (x t : Addr) (V : Cell) (cd : Int32) (n : Nat) (f : Nat → Int32) (y t' : Addr) (V' : Cell) (cd' : Int32) (k : Nat) (g : Nat → Int32) (z : Int32) (args : Array Value) (s : State) : Prop := args = #[.ref x, .ref y] ∧ Txt x t V cd n f s ∧ Txt y t' V' cd' k g s ∧ StaticIs s "java/lang/String" "COMPACT_STRINGS" "Z" (.int z) ∧ ¬ z = 0
/-- equals(Object) of two Strings: whether the texts are the same -/
theorem law (l : Launch) (x t : Addr) (V : Cell) (cd : Int32) (n : Nat) (f : Nat → Int32) (y t' : Addr) (V' : Cell) (cd' : Int32) (k : Nat) (g : Nat → Int32) (z : Int32) : Law l yN 2 1 1 14 yB 3 (some .boolean) site (P x t V cd n f y t' V' cd' k g z) (Says01 (SameT n f k g)) [] 0 0 := by
  refine Law.of_walk (plainFor_of_name (by decide +kernel)) (by decide +kernel) (by decide +kernel) (by decide) (fun _ _ h => by rw [h.1]; rfl) (fun _ U U' hal hh h => ⟨h.1, h.2.1.mv hal hh, h.2.2.1.mv hal hh, h.2.2.2.1.there hal hh, h.2.2.2.2⟩) (fun r U U' V V' h1 hal h2 h => Says01.mv r U U' V V' h1 hal h2 h) ?_
  intro p e s m args below meth c s₁ X0 hexec hbytes hml hret hlk hnm hown hh0 W hP
  obtain ⟨rfl, hx, hy, s1, hz⟩ := hP
  have c1 : Steps p.tables e below (s₁.setTop (entryFrame m #[.ref x, .ref y] 3)) (s₁.setTop (mkF m 2 #[.val (.ref x), .val (.ref y), .unset] [.ref y, .ref x])) := Steps.trans (entry rfl) (by
    show Steps p.tables e below (s₁.setTop (mkF m 0 #[.val (.ref x), .val (.ref y), .unset] [])) _
    refine XS.aloadN X0.here hexec rfl (hb hbytes d0) rfl rfl ?_
    refine XS.aloadN X0.here hexec rfl (hb hbytes d1) rfl rfl ?_
    exact Steps.refl _)
  by_cases hxy : x = y
  · have c2 : Steps p.tables e below (s₁.setTop (entryFrame m #[.ref x, .ref y] 3)) (s₁.setTop (mkF m 6 #[.val (.ref x), .val (.ref y), .unset] [.int 1])) := c1.trans (by
      refine acmpNo X0.here hexec rfl (hb hbytes d2) rfl rfl rfl (by simp [acmp, hxy]) ?_
      refine iconstV X0.here hexec rfl 1 (hb hbytes d5) (by decide) ?_
      exact Steps.refl _)
    subst hxy
    have ec : cd = cd' := by
      obtain ⟨D, fd, a1, a2, a3⟩ := hx.2.2.1
      obtain ⟨D', fd', b1, b2, b3⟩ := hy.2.2.1
      cases a1.symm.trans b1
      obtain ⟨q1, q2, q3, q4⟩ := a2.1
      obtain ⟨r1, r2, r3, r4⟩ := b2.1
      cases q4.symm.trans r4
      cases a3.symm.trans b3; rfl
    have et : t = t' := by
      obtain ⟨D, fd, a1, a2, a3⟩ := hx.2.1
      obtain ⟨D', fd', b1, b2, b3⟩ := hy.2.1
      cases a1.symm.trans b1
      obtain ⟨q1, q2, q3, q4⟩ := a2.1
      obtain ⟨r1, r2, r3, r4⟩ := b2.1
      cases q4.symm.trans r4
      cases a3.symm.trans b3; rfl
    subst ec et
    have ev : V = V' := by cases hx.2.2.2.1.1.symm.trans hy.2.2.2.1.1; rfl
    subst ev
    have hs : SameT n f k g := (Cod.eqv hx.2.2.2.2.1 hy.2.2.2.2.1 hx.2.2.2.2.2 hy.2.2.2.2.2).mp ⟨rfl, fun _ _ => rfl⟩
    exact ⟨s₁, some (.int 1), _, _, _, X0, rfl, rfl, rfl, (fun h => by cases h), ⟨1, rfl, hh0, Or.inl ⟨rfl, hs⟩⟩, fun fs hl => c2.trans (X0.ireturnOut hexec hret rfl (Or.inr (Or.inl rfl)) (hb hbytes d6) hl)⟩
  · have c2 : Steps p.tables e below (s₁.setTop (entryFrame m #[.ref x, .ref y] 3)) (s₁.setTop (mkF m 8 #[.val (.ref x), .val (.ref y), .unset] [.ref y])) := c1.trans (by
      refine acmpYes X0.here hexec rfl (pc0 := 2) rfl (hb hbytes d2) rfl rfl rfl (by simp [acmp, hxy]) (by decide) rfl ?_
      refine XS.aloadN X0.here hexec rfl (hb hbytes d7) rfl rfl ?_
      exact Steps.refl _)
    obtain ⟨T3, X3, q3, st3⟩ := cinst X0 hexec hown (wk W (.classLink "java/lang/String" 10 "java/lang/String")) (hy.mv X0.warmed.alike hh0).1 (g := (mkF m 8 #[.val (.ref x), .val (.ref y), .unset] [.ref y])) rfl (rest := []) rfl (hb hbytes d8)
    have hh3 := q3.trans hh0
    have c4 : Steps p.tables e below (s₁.setTop (entryFrame m #[.ref x, .ref y] 3)) (T3.setTop (mkF m 15 #[.val (.ref x), .val (.ref y), .unset] [.ref y])) := (c2.trans (st3 _ (Steps.refl _))).trans (by
      refine XS.ifNo X3.here hexec rfl (hb hbytes d11) rfl (i0_eq_f (by decide)) ?_
      refine XS.aloadN X3.here hexec rfl (hb hbytes d14) rfl rfl ?_
      exact Steps.refl _)
    obtain ⟨T5, X5, q5, st5⟩ := cself X3 hexec hown (wk W (.classLink "java/lang/String" 10 "java/lang/String")) (hy.mv X3.warmed.alike hh3).1 (g := (mkF m 15 #[.val (.ref x), .val (.ref y), .unset] [.ref y])) rfl (rest := []) rfl (hb hbytes d15)
    have hh5 := q5.trans hh3
    have c6 : Steps p.tables e below (s₁.setTop (entryFrame m #[.ref x, .ref y] 3)) (T5.setTop (mkF m 19 #[.val (.ref x), .val (.ref y), .val (.ref y)] [])) := (c4.trans (st5 _ (Steps.refl _))).trans (by
      refine XS.astoreN X5.here hexec rfl (hb hbytes d18) rfl rfl rfl ?_
      exact Steps.refl _)
    obtain ⟨T7, X7, q7, st7⟩ := X5.sget hexec hown (wk W (.fieldLink "java/lang/String" 38 "java/lang/String" "COMPACT_STRINGS" "Z")) s1 (fun _ _ h => by rw [hh5]; exact h) (g := (mkF m 19 #[.val (.ref x), .val (.ref y), .val (.ref y)] [])) rfl (hb hbytes d19)
    have hh7 := q7.trans hh5
    have c8 : Steps p.tables e below (s₁.setTop (entryFrame m #[.ref x, .ref y] 3)) (T7.setTop (mkF m 26 #[.val (.ref x), .val (.ref y), .val (.ref y)] [.ref x])) := (c6.trans (st7 _ (Steps.refl _))).trans (by
      refine XS.ifNo X7.here hexec rfl (hb hbytes d22) rfl (i0_eq_f hz) ?_
      refine XS.aloadN X7.here hexec rfl (hb hbytes d25) rfl rfl ?_
      exact Steps.refl _)
    obtain ⟨T9, X9, q9, st9⟩ := X7.hget hexec hown (wk W (.fieldLink "java/lang/String" 15 "java/lang/String" "coder" "B")) (hx.mv X7.warmed.alike hh7).2.2.1 (g := (mkF m 26 #[.val (.ref x), .val (.ref y), .val (.ref y)] [.ref x])) rfl (rest := []) rfl (hb hbytes d26)
    have hh9 := q9.trans hh7
    have c10 : Steps p.tables e below (s₁.setTop (entryFrame m #[.ref x, .ref y] 3)) (T9.setTop (mkF m 30 #[.val (.ref x), .val (.ref y), .val (.ref y)] [.ref y, .int cd])) := (c8.trans (st9 _ (Steps.refl _))).trans (by
      refine XS.aloadN X9.here hexec rfl (hb hbytes d29) rfl rfl ?_
      exact Steps.refl _)
    obtain ⟨T11, X11, q11, st11⟩ := X9.hget hexec hown (wk W (.fieldLink "java/lang/String" 15 "java/lang/String" "coder" "B")) (hy.mv X9.warmed.alike hh9).2.2.1 (g := (mkF m 30 #[.val (.ref x), .val (.ref y), .val (.ref y)] [.ref y, .int cd])) rfl (rest := [.int cd]) rfl (hb hbytes d30)
    have hh11 := q11.trans hh9
    have c12 : Steps p.tables e below (s₁.setTop (entryFrame m #[.ref x, .ref y] 3)) (T11.setTop (mkF m 33 #[.val (.ref x), .val (.ref y), .val (.ref y)] [.int cd', .int cd])) := c10.trans (st11 _ (Steps.refl _))
    by_cases hcd : cd = cd'
    · subst hcd
      have c13 : Steps p.tables e below (s₁.setTop (entryFrame m #[.ref x, .ref y] 3)) (T11.setTop (mkF m 37 #[.val (.ref x), .val (.ref y), .val (.ref y)] [.ref x])) := c12.trans (by
        refine XS.icmpNo X11.here hexec rfl (hb hbytes d33) rfl (ii_ne_f rfl) ?_
        refine XS.aloadN X11.here hexec rfl (hb hbytes d36) rfl rfl ?_
        exact Steps.refl _)
      obtain ⟨T14, X14, q14, st14⟩ := X11.hget hexec hown (wk W (.fieldLink "java/lang/String" 9 "java/lang/String" "value" "[B")) (hx.mv X11.warmed.alike hh11).2.1 (g := (mkF m 37 #[.val (.ref x), .val (.ref y), .val (.ref y)] [.ref x])) rfl (rest := []) rfl (hb hbytes d37)
      have hh14 := q14.trans hh11
      have c15 : Steps p.tables e below (s₁.setTop (entryFrame m #[.ref x, .ref y] 3)) (T14.setTop (mkF m 41 #[.val (.ref x), .val (.ref y), .val (.ref y)] [.ref y, .ref t])) := (c13.trans (st14 _ (Steps.refl _))).trans (by
        refine XS.aloadN X14.here hexec rfl (hb hbytes d40) rfl rfl ?_
        exact Steps.refl _)
      obtain ⟨T16, X16, q16, st16⟩ := X14.hget hexec hown (wk W (.fieldLink "java/lang/String" 9 "java/lang/String" "value" "[B")) (hy.mv X14.warmed.alike hh14).2.1 (g := (mkF m 41 #[.val (.ref x), .val (.ref y), .val (.ref y)] [.ref y, .ref t])) rfl (rest := [.ref t]) rfl (hb hbytes d41)
      have hh16 := q16.trans hh14
      have c17 : Steps p.tables e below (s₁.setTop (entryFrame m #[.ref x, .ref y] 3)) (T16.setTop (mkF m 44 #[.val (.ref x), .val (.ref y), .val (.ref y)] [.ref t', .ref t])) := c15.trans (st16 _ (Steps.refl _))
      obtain ⟨v18, T18, X18, E18, g18⟩ := X16.callS hexec (LEq.law l t V t' V') hown (wks W (staticW "java/lang/String" 541 LEq.yN)) (wk W LEq.tab) (W := 0) (Nat.le_of_ble_eq_true rfl) (Nat.le_of_ble_eq_true rfl) (Nat.le_refl _) (Nat.le_refl _) (g := (mkF m 44 #[.val (.ref x), .val (.ref y), .val (.ref y)] [.ref t', .ref t])) rfl (by rw [hml]; rfl) c17 (argsL := [.ref t, .ref t']) (rest := []) rfl rfl (by show 2 * 0 + 0 ≤ _; decide) (hb hbytes d44) (⟨rfl, hx.2.2.2.1.mv X16.warmed.alike hh16, hx.2.2.2.2.1.ty, hy.2.2.2.1.mv X16.warmed.alike hh16, hy.2.2.2.2.1.ty⟩)
      obtain ⟨v, rfl, q18, hv⟩ := E18
      have iff := Cod.eqv hx.2.2.2.2.1 hy.2.2.2.2.1 hx.2.2.2.2.2 hy.2.2.2.2.2
      rcases hv with ⟨rfl, he⟩ | ⟨rfl, he⟩
      · have c19 : Steps p.tables e below (s₁.setTop (entryFrame m #[.ref x, .ref y] 3)) (T18.setTop (mkF m 55 #[.val (.ref x), .val (.ref y), .val (.ref y)] [.int 1])) := Steps.trans g18 (by
          refine XS.ifNo X18.here hexec rfl (hb hbytes d47) rfl (i0_eq_f (by decide)) ?_
          refine iconstV X18.here hexec rfl 1 (hb hbytes d50) (by decide) ?_
          refine XS.goto X18.here hexec rfl (pc0 := 51) rfl (hb hbytes d51) (by decide) rfl ?_
          exact Steps.refl _)
        exact ⟨T18, some (.int 1), _, _, _, X18, rfl, rfl, rfl, (fun h => by cases h), ⟨1, rfl, q18.trans hh16, Or.inl ⟨rfl, iff.mp he⟩⟩, fun fs hl => c19.trans (X18.ireturnOut hexec hret rfl (Or.inr (Or.inl rfl)) (hb hbytes d55) hl)⟩
      · have c19 : Steps p.tables e below (s₁.setTop (entryFrame m #[.ref x, .ref y] 3)) (T18.setTop (mkF m 55 #[.val (.ref x), .val (.ref y), .val (.ref y)] [.int 0])) := Steps.trans g18 (by
          refine XS.ifYes X18.here hexec rfl (pc0 := 47) rfl (hb hbytes d47) rfl (i0_eq_t rfl) (by decide) rfl ?_
          refine iconstV X18.here hexec rfl 0 (hb hbytes d54) (by decide) ?_
          exact Steps.refl _)
        exact ⟨T18, some (.int 0), _, _, _, X18, rfl, rfl, rfl, (fun h => by cases h), ⟨0, rfl, q18.trans hh16, Or.inr ⟨rfl, fun q => he (iff.mpr q)⟩⟩, fun fs hl => c19.trans (X18.ireturnOut hexec hret rfl (Or.inr (Or.inl rfl)) (hb hbytes d55) hl)⟩
    · have c13 : Steps p.tables e below (s₁.setTop (entryFrame m #[.ref x, .ref y] 3)) (T11.setTop (mkF m 55 #[.val (.ref x), .val (.ref y), .val (.ref y)] [.int 0])) := c12.trans (by
        refine XS.icmpYes X11.here hexec rfl (pc0 := 33) rfl (hb hbytes d33) rfl (ii_ne_t hcd) (by decide) rfl ?_
        refine iconstV X11.here hexec rfl 0 (hb hbytes d54) (by decide) ?_
        exact Steps.refl _)
      exact ⟨T11, some (.int 0), _, _, _, X11, rfl, rfl, rfl, (fun h => by cases h), ⟨0, rfl, hh11, Or.inr ⟨rfl, Cod.dif hx.2.2.2.2.1 hy.2.2.2.2.1 hcd⟩⟩, fun fs hl => c13.trans (X11.ireturnOut hexec hret rfl (Or.inr (Or.inl rfl)) (hb hbytes d55) hl)⟩
theorem pays {l : Launch} {R : Room} {p : Program} {e : Env} {below : List Frame} {s : State} {sargs : Array Value} {len W : Nat} (x t : Addr) (V : Cell) (cd : Int32) (n : Nat) (f : Nat → Int32) (y t' : Addr) (V' : Cell) (cd' : Int32) (k : Nat) (g : Nat → Int32) (z : Int32) (htab : tab.before sargs s = true) (hfr : 2 ≤ R.frames) (hlo : W + 28 ≤ R.locals) :
    Back l R p e below s sargs yN len W (fun A₁ a₁ => A₁.cells + 0 ≤ R.cells ∧ A₁.slots + 0 ≤ R.slots ∧ P x t V cd n f y t' V' cd' k g z a₁ A₁.U) (fun A₁ _ v₁ B₁ => Says01 (SameT n f k g) v₁ A₁.U B₁.U ∧ B₁.locs = A₁.locs ++ [] ∧ B₁.cells = A₁.cells + 0 ∧ B₁.slots = A₁.slots + 0) :=
  (law l x t V cd n f y t' V' cd' k g z).pays htab hfr (by omega)
end SEq
end StrChars
namespace StrChars.Road
open Jvm Sem ClassFile Op Lib Jvm.Stand Jvm.Free Jvm.Free.XT
open Jvm.Lib.Cold (StaticIs)
/-- the words of String.equals(Object) -/
abbrev wordsEq : List Jvm.Cond := [.code SEq.yN SEq.yB 3 (some .boolean), .initialized ST, .classLink ST 10 ST, .fieldLink ST 38 ST "COMPACT_STRINGS" "Z", .fieldLink ST 15 ST "coder" "B", .fieldLink ST 9 ST "value" "[B", .methodLink ST 541 LEq.yN, .static LEq.yN, .code LEq.yN LEq.yB 3 (some .boolean), .initialized "java/lang/StringLatin1"]
theorem tabEq_of {a : Array Value} {s : State} (h : ∀ w ∈ wordsEq, w.before a s = true) : SEq.tab.before a s = true := by
  have hl : LEq.tab.before a s = true := unparts (wk h (.code LEq.yN LEq.yB 3 (some .boolean))) (wks h (.initialized LEq.yN.cls :: LEq.site))
  have q := consq hl h
  exact unparts (wk q (.code SEq.yN SEq.yB 3 (some .boolean))) (wks q (.initialized SEq.yN.cls :: SEq.site))
theorem movedEq {Z s : State} {a0 args : Array Value} (hZ : Z.Warmed39 s.vm) (hw : ∀ d ∈ wordsEq, d.before a0 Z = true) : ∀ d ∈ wordsEq, d.before args s = true := fun d hd => by
  have t : ∀ d ∈ wordsEq, (d.onTables && d.keepsFace) = true := by decide +kernel
  exact RoadKit.mv hZ (hw d hd) (t d hd)
/-- the road's facts of a String, as the laws ask it -/
theorem txt_of {Z U : State} {a0 : Array Value} {kI : Nat} (wi : (Jvm.Cond.instantiable ST kI).before a0 Z = true) (al : Z.vm.Alike U.vm) {x t : Addr} {kb : ClassId} {cs : List Int32} {cd N2 : Int32} {vs : List Value} (E : RoadKit.Exa Z U.heap x ST) (V : RoadKit.Fld Z U.heap x ST "value" "[B" (.ref t)) (C : RoadKit.Fld Z U.heap x ST "coder" "B" (.int cd)) (K : RoadKit.Arv Z U.heap t kb .byte N2 vs (.int 0)) (hc : CodA cs cd N2 vs) (hb : ∀ c ∈ cs, ¬ c < 0 ∧ ¬ (65535 : Int32) < c) (l2 : cs.length ≤ 4000) :
    ∃ A, Txt x t A cd cs.length (fun j => cs.getD j 0) U := by
  obtain ⟨A, K1, K2, K3, K4, K5, K6⟩ := K
  have hcod := hc.cod (by omega) K3 K5
  obtain ⟨D, fV, fC, hB, F1, F2, g1, g2, -, -⟩ := strObj wi al E V C
  exact ⟨A, ⟨_, hB.2.2.1, D, hB.1, rfl, by cases q : D.vm <;> first | rfl | exact absurd q (hB.2.1.2 _)⟩, Has.of hB F1 g1, Has.of hB F2 g2, ⟨K1.1, State.isArrayOf_alike al K1.2.1, K1.2.2, by rcases hcod with ⟨-, q, -⟩ | ⟨-, q, -⟩ <;> omega⟩, hcod, fun j hj => by
    have e : cs.getD j 0 = cs[j] := by simp [List.getD_eq_getElem?_getD, hj]
    show ¬ cs.getD j 0 < 0 ∧ ¬ 65535 < cs.getD j 0
    rw [e]; exact hb _ (List.getElem_mem _)⟩
theorem same_list (cs ds : List Int32) : SameT cs.length (fun j => cs.getD j 0) ds.length (fun j => ds.getD j 0) ↔ cs = ds := by
  constructor
  · rintro ⟨e, q⟩
    refine List.ext_getElem e fun j h1 h2 => ?_
    have := q j h1
    simpa [List.getD_eq_getElem?_getD, h1, h2] using this
  · rintro rfl
    exact ⟨rfl, fun _ _ => rfl⟩
/-- **equals(Object) OF TWO SUCH STRINGS**: 1 just where the chars are the same -/
theorem eqW {p : Program} {l : Launch} {e : Env} {R : Room} {s : State} {args : Array Value} {below : List Frame} {len W : Nat} {Z : State} {a0 : Array Value} {h : Heap} (hZ : Z.Warmed39 s.vm) (hw : ∀ d ∈ wordsEq, d.before a0 Z = true) {kI : Nat} (wi : (Jvm.Cond.instantiable ST kI).before a0 Z = true)
    {x t : Addr} {kb : ClassId} {cs : List Int32} {cd N2 : Int32} {vs : List Value} (E : RoadKit.Exa Z h x ST) (V : RoadKit.Fld Z h x ST "value" "[B" (.ref t)) (C : RoadKit.Fld Z h x ST "coder" "B" (.int cd)) (K : RoadKit.Arv Z h t kb .byte N2 vs (.int 0)) (hc : CodA cs cd N2 vs) (hb : ∀ c ∈ cs, ¬ c < 0 ∧ ¬ (65535 : Int32) < c) (l2 : cs.length ≤ 4000)
    {y t' : Addr} {kb' : ClassId} {ds : List Int32} {cd' N2' : Int32} {vs' : List Value} (E' : RoadKit.Exa Z h y ST) (V' : RoadKit.Fld Z h y ST "value" "[B" (.ref t')) (C' : RoadKit.Fld Z h y ST "coder" "B" (.int cd')) (K' : RoadKit.Arv Z h t' kb' .byte N2' vs' (.int 0)) (hc' : CodA ds cd' N2' vs') (hb' : ∀ c ∈ ds, ¬ c < 0 ∧ ¬ (65535 : Int32) < c) (l2' : ds.length ≤ 4000)
    {z : Int32} (S : RoadKit.Sta Z h ST "COMPACT_STRINGS" "Z" (.int z)) (hz : ¬ z = 0) (hfr : 2 ≤ R.frames) (hlo : W + 28 ≤ R.locals) :
    Back l R p e below s args (⟨"java/lang/String", "equals", "(Ljava/lang/Object;)Z"⟩ : MethodName) len W (fun P a => a = #[.ref x, .ref y] ∧ P.U.heap = h ∧ P.cells + 0 ≤ R.cells ∧ P.slots + 0 ≤ R.slots)
      (fun P _ v B => ∃ L, (((v = some (.int 1) ∧ cs = ds) ∨ (v = some (.int 0) ∧ ¬ cs = ds)) ∧ L = [] ∧ B.U.heap = h) ∧ B.locs = P.locs ++ L ∧ B.cells = P.cells + 0 ∧ B.slots = P.slots + 0) := by
  intro m meth c P g ig mk a X hg hsize hdg hW hn hp'
  obtain ⟨rfl, rfl, r1, r2⟩ := hp'
  have al : Z.vm.Alike P.U.vm := hZ.alike.trans X.warmed.alike
  obtain ⟨A, hx⟩ := txt_of wi al E V C K hc hb l2
  obtain ⟨A', hy⟩ := txt_of wi al E' V' C' K' hc' hb' l2'
  obtain ⟨v, B, X', ⟨⟨w, hv, hh, hq⟩, hl, hk, hs⟩, st⟩ := SEq.pays x t A cd cs.length (fun j => cs.getD j 0) y t' A' cd' ds.length (fun j => ds.getD j 0) z (tabEq_of (movedEq hZ hw)) hfr hlo m meth c P g ig mk _ X hg hsize hdg hW hn ⟨r1, r2, rfl, hx, hy, sta_is al S, hz⟩
  refine ⟨v, B, X', ⟨[], ⟨?_, rfl, hh⟩, hl, hk, hs⟩, st⟩
  rcases hq with ⟨rfl, q⟩ | ⟨rfl, q⟩
  · exact Or.inl ⟨hv, (same_list cs ds).mp q⟩
  · exact Or.inr ⟨hv, fun e => q ((same_list cs ds).mpr e)⟩
end StrChars.Road
namespace StrChars
open Jvm Sem ClassFile Op Lib Jvm.Stand Jvm.Free.XT Jvm.Free.ALB Jvm.Free.JM Jvm.Free
open Jvm.Lib.Cold (StaticIs)
namespace ChN
def yN : MethodName := ⟨"java/lang/String", "charAt", "(I)C"⟩
abbrev yB : ByteArray := jdk_42_method_56_code
theorem d0 : decode yB 0 = .ok (.aload_n 0, 1) := by decide +kernel
theorem d1 : decode yB 1 = .ok (.invokevirtual 492, 3) := by decide +kernel
theorem d4 : decode yB 4 = .ok (.ifCond (.eq) 12, 3) := by decide +kernel
theorem d7 : decode yB 7 = .ok (.aload_n 0, 1) := by decide +kernel
theorem d8 : decode yB 8 = .ok (.getfield 9, 3) := by decide +kernel
theorem d11 : decode yB 11 = .ok (.iload_n 1, 1) := by decide +kernel
theorem d12 : decode yB 12 = .ok (.invokestatic 495, 3) := by decide +kernel
theorem d15 : decode yB 15 = .ok (.ireturn, 1) := by decide +kernel
def site : List Cond := [.fieldLink "java/lang/String" 9 "java/lang/String" "value" "[B", IsL.tab, LChA.tab] ++ virtW "java/lang/String" 492 "java/lang/String" IsL.yN IsL.yN ++ staticW "java/lang/String" 495 LChA.yN
def tab : Cond := tabOf yN yB 2 (some .char) site
def P (x t : Addr) (V : Cell) (n : Nat) (f : Nat → Int32) (z : Int32) (fm : Value) (i : Nat) (args : Array Value) (s : State) : Prop := args = #[.ref x, .int (Int32.ofNat i)] ∧ Txt x t V 0 n f s ∧ i < n ∧ StaticIs s "java/lang/String" "COMPACT_STRINGS" "Z" (.int z) ∧ ¬ z = 0 ∧ StaticIs s "jdk/internal/util/Preconditions" "SIOOBE_FORMATTER" "Ljava/util/function/BiFunction;" fm ∧ fm.isRef = true
def E (f : Nat → Int32) (i : Nat) (r : Option Value) (s u : State) : Prop := XT.PureE (some (.int (f i))) r s u
/-- charAt(i) of a Latin-1 String of n chars, i < n: f i -/
theorem law (l : Launch) (x t : Addr) (V : Cell) (n : Nat) (f : Nat → Int32) (z : Int32) (fm : Value) (i : Nat) : Law l yN 2 1 3 40 yB 2 (some .char) site (P x t V n f z fm i) (E f i) [] 0 0 := by
  refine Law.of_walk (plainFor_of_name (by decide +kernel)) (by decide +kernel) (by decide +kernel) (by decide) (fun _ _ h => by rw [h.1]; rfl) (fun _ U U' hal hh h => ⟨h.1, h.2.1.mv hal hh, h.2.2.1, h.2.2.2.1.there hal hh, h.2.2.2.2.1, h.2.2.2.2.2.1.there hal hh, h.2.2.2.2.2.2⟩) (fun r U U' V V' h1 hal h2 h => XT.PureE.mv r U U' V V' h1 hal h2 h) ?_
  intro p e s m args below meth c s₁ X0 hexec hbytes hml hret hlk hnm hown hh0 W hP
  obtain ⟨rfl, hx, hi, s1, hz, s3, rf⟩ := hP
  have v31 := hx.2.2.2.1.2.2.2
  have hr := hx.2.2.2.2.2 i hi
  have hx0 := hx.mv X0.warmed.alike hh0
  have c1 : Steps p.tables e below (s₁.setTop (entryFrame m #[.ref x, .int (Int32.ofNat i)] 2)) (s₁.setTop (mkF m 1 #[.val (.ref x), .val (.int (Int32.ofNat i))] [.ref x])) := Steps.trans (entry rfl) (by
    show Steps p.tables e below (s₁.setTop (mkF m 0 #[.val (.ref x), .val (.int (Int32.ofNat i))] [])) _
    refine XS.aloadN X0.here hexec rfl (hb hbytes d0) rfl rfl ?_
    exact Steps.refl _)
  obtain ⟨v2, T2, X2, E2, g2⟩ := X0.callV hexec (IsL.law l x 0 z) hown (wks W (virtW "java/lang/String" 492 "java/lang/String" IsL.yN IsL.yN)) rfl (by decide) (wk W IsL.tab) (W := 0) (Nat.le_of_ble_eq_true rfl) (Nat.le_of_ble_eq_true rfl) (Nat.le_refl _) (Nat.le_refl _) (hx0.1.fc X0.warmed.alike) hx0.1.is (g := (mkF m 1 #[.val (.ref x), .val (.int (Int32.ofNat i))] [.ref x])) rfl (by rw [hml]; rfl) c1 (argsL := []) (rest := []) rfl rfl (by show 2 * 0 + 0 ≤ _; decide) (hb hbytes d1) (⟨rfl, hx0.2.2.1, hx.2.2.2.2.1.cd, s1.there X0.warmed.alike hh0, hz⟩)
  obtain ⟨rfl, q2⟩ := E2
  have hh2 := q2.trans hh0
  have hx2 := hx.mv X2.warmed.alike hh2
  obtain ⟨-, k1, k2⟩ | ⟨k0, -⟩ := hx.2.2.2.2.1
  · have c3 : Steps p.tables e below (s₁.setTop (entryFrame m #[.ref x, .int (Int32.ofNat i)] 2)) (T2.setTop (mkF m 8 #[.val (.ref x), .val (.int (Int32.ofNat i))] [.ref x])) := Steps.trans g2 (by
      refine XS.ifNo X2.here hexec rfl (hb hbytes d4) rfl (i0_eq_f (by decide)) ?_
      refine XS.aloadN X2.here hexec rfl (hb hbytes d7) rfl rfl ?_
      exact Steps.refl _)
    obtain ⟨T4, X4, q4, st4⟩ := X2.hget hexec hown (wk W (.fieldLink "java/lang/String" 9 "java/lang/String" "value" "[B")) hx2.2.1 (g := (mkF m 8 #[.val (.ref x), .val (.int (Int32.ofNat i))] [.ref x])) rfl (rest := []) rfl (hb hbytes d8)
    have hh4 := q4.trans hh2
    have c5 : Steps p.tables e below (s₁.setTop (entryFrame m #[.ref x, .int (Int32.ofNat i)] 2)) (T4.setTop (mkF m 12 #[.val (.ref x), .val (.int (Int32.ofNat i))] [.int (Int32.ofNat i), .ref t])) := (c3.trans (st4 _ (Steps.refl _))).trans (by
      refine XS.iloadN X4.here hexec rfl (hb hbytes d11) rfl ?_
      exact Steps.refl _)
    obtain ⟨v6, T6, X6, E6, g6⟩ := X4.callS hexec (LChA.law l t V i (lo8 (f i)) fm) hown (wks W (staticW "java/lang/String" 495 LChA.yN)) (wk W LChA.tab) (W := 0) (Nat.le_of_ble_eq_true rfl) (Nat.le_of_ble_eq_true rfl) (Nat.le_refl _) (Nat.le_refl _) (g := (mkF m 12 #[.val (.ref x), .val (.int (Int32.ofNat i))] [.int (Int32.ofNat i), .ref t])) rfl (by rw [hml]; rfl) c5 (argsL := [.ref t, .int (Int32.ofNat i)]) (rest := []) rfl rfl (by show 2 * 0 + 0 ≤ _; decide) (hb hbytes d12) (⟨rfl, hx.2.2.2.1.mv X4.warmed.alike hh4, (k2 i hi).1, s3.there X4.warmed.alike hh4, rf⟩)
    obtain ⟨rfl, q6⟩ := E6
    rw [chr8_lo8 hr.1 (k2 i hi).2] at g6
    exact ⟨T6, some (.int (f i)), _, _, _, X6, rfl, rfl, rfl, (fun h => by cases h), ⟨rfl, q6.trans hh4⟩, fun fs hl => Steps.trans g6 (X6.ireturnOut hexec hret (narrow_ch hr.1 hr.2) (Or.inr (Or.inr (Or.inr (Or.inl rfl)))) (hb hbytes d15) hl)⟩
  · exact absurd k0 (by decide)
theorem pays {l : Launch} {R : Room} {p : Program} {e : Env} {below : List Frame} {s : State} {sargs : Array Value} {len W : Nat} (x t : Addr) (V : Cell) (n : Nat) (f : Nat → Int32) (z : Int32) (fm : Value) (i : Nat) (htab : tab.before sargs s = true) (hfr : 4 ≤ R.frames) (hlo : W + 53 ≤ R.locals) :
    Back l R p e below s sargs yN len W (fun A₁ a₁ => A₁.cells + 0 ≤ R.cells ∧ A₁.slots + 0 ≤ R.slots ∧ P x t V n f z fm i a₁ A₁.U) (fun A₁ _ v₁ B₁ => E f i v₁ A₁.U B₁.U ∧ B₁.locs = A₁.locs ++ [] ∧ B₁.cells = A₁.cells + 0 ∧ B₁.slots = A₁.slots + 0) :=
  (law l x t V n f z fm i).pays htab hfr (by omega)
end ChN
end StrChars
namespace StrChars.Road
open Jvm Sem ClassFile Op Lib Jvm.Stand Jvm.Free Jvm.Free.XT
open Jvm.Lib.Cold (StaticIs)
/-- the words of String.charAt(int), the Latin-1 road alone -/
abbrev wordsChN : List Jvm.Cond := [.code ChN.yN ChN.yB 2 (some .char), .initialized ST, .fieldLink ST 9 ST "value" "[B", .fieldLink ST 38 ST "COMPACT_STRINGS" "Z", .fieldLink ST 15 ST "coder" "B", .code IsL.yN IsL.yB 1 (some .boolean), .methodLink ST 492 IsL.yN, .declares IsL.yN, .selects ST IsL.yN IsL.yN, .instanceMethod IsL.yN,
  .methodLink ST 495 LChA.yN, .static LChA.yN, .code LChA.yN LChA.yB 2 (some .char), .initialized "java/lang/StringLatin1", .methodLink "java/lang/StringLatin1" 9 JO.Str_checkIndex.yN, .static JO.Str_checkIndex.yN, .code JO.Str_checkIndex.yN JO.Str_checkIndex.yB 2 none,
  .fieldLink ST 1053 "jdk/internal/util/Preconditions" "SIOOBE_FORMATTER" "Ljava/util/function/BiFunction;", .methodLink ST 1059 JC.PreCheck.yN, .static JC.PreCheck.yN, .code JC.PreCheck.yN JC.PreCheck.yB 3 (some .int), .initialized "jdk/internal/util/Preconditions"]
theorem tabChN_of {a : Array Value} {s : State} (h : ∀ w ∈ wordsChN, w.before a s = true) : ChN.tab.before a s = true := by
  have hp : JC.PreCheck.tab.before a s = true := unparts (wk h (.code JC.PreCheck.yN JC.PreCheck.yB 3 (some .int))) (wks h (.initialized JC.PreCheck.yN.cls :: JC.PreCheck.site))
  have qk := consq hp h
  have hk : JO.Str_checkIndex.tab.before a s = true := unparts (wk qk (.code JO.Str_checkIndex.yN JO.Str_checkIndex.yB 2 none)) (wks qk (.initialized JO.Str_checkIndex.yN.cls :: JO.Str_checkIndex.site))
  have ql := consq hk h
  have hl : LChA.tab.before a s = true := unparts (wk ql (.code LChA.yN LChA.yB 2 (some .char))) (wks ql (.initialized LChA.yN.cls :: LChA.site))
  have hi : IsL.tab.before a s = true := unparts (wk h (.code IsL.yN IsL.yB 1 (some .boolean))) (wks h (.initialized IsL.yN.cls :: IsL.site))
  have q := consq hi (consq hl h)
  exact unparts (wk q (.code ChN.yN ChN.yB 2 (some .char))) (wks q (.initialized ChN.yN.cls :: ChN.site))
theorem movedChN {Z s : State} {a0 args : Array Value} (hZ : Z.Warmed39 s.vm) (hw : ∀ d ∈ wordsChN, d.before a0 Z = true) : ∀ d ∈ wordsChN, d.before args s = true := fun d hd => by
  have t : ∀ d ∈ wordsChN, (d.onTables && d.keepsFace) = true := by decide +kernel
  exact RoadKit.mv hZ (hw d hd) (t d hd)
/-- **charAt(i) OF A LATIN-1 STRING**, i < n: the char -/
theorem chN {p : Program} {l : Launch} {e : Env} {R : Room} {s : State} {args : Array Value} {below : List Frame} {len W : Nat} {Z : State} {a0 : Array Value} {h : Heap} (hZ : Z.Warmed39 s.vm) (hw : ∀ d ∈ wordsChN, d.before a0 Z = true) {kI : Nat} (wi : (Jvm.Cond.instantiable ST kI).before a0 Z = true)
    {x t : Addr} {kb : ClassId} {cs : List Int32} {N2 z : Int32} {vs : List Value} {fm : Value} {i : Nat} {j : Int32} (E : RoadKit.Exa Z h x ST) (V : RoadKit.Fld Z h x ST "value" "[B" (.ref t)) (C : RoadKit.Fld Z h x ST "coder" "B" (.int 0)) (K : RoadKit.Arv Z h t kb .byte N2 vs (.int 0)) (hc : CodA cs 0 N2 vs) (hb : ∀ c ∈ cs, ¬ c < 0 ∧ ¬ (65535 : Int32) < c)
    (S : RoadKit.Sta Z h ST "COMPACT_STRINGS" "Z" (.int z)) (hz : ¬ z = 0) (F : RoadKit.Sta Z h "jdk/internal/util/Preconditions" "SIOOBE_FORMATTER" "Ljava/util/function/BiFunction;" fm) (rf : fm.isRef = true) (l2 : cs.length ≤ 4000) (hi : i < cs.length) (hj : j = Int32.ofNat i) (hfr : 4 ≤ R.frames) (hlo : W + 53 ≤ R.locals) :
    Back l R p e below s args (⟨"java/lang/String", "charAt", "(I)C"⟩ : MethodName) len W (fun P a => a = #[.ref x, .int j] ∧ P.U.heap = h ∧ P.cells + 0 ≤ R.cells ∧ P.slots + 0 ≤ R.slots)
      (fun P _ v B => ∃ L, (v = some (.int (cs.getD i 0)) ∧ L = [] ∧ B.U.heap = h) ∧ B.locs = P.locs ++ L ∧ B.cells = P.cells + 0 ∧ B.slots = P.slots + 0) := by
  subst hj
  intro m meth c P g ig mk a X hg hsize hdg hW hn hp'
  obtain ⟨rfl, rfl, r1, r2⟩ := hp'
  have al : Z.vm.Alike P.U.vm := hZ.alike.trans X.warmed.alike
  obtain ⟨A, hx⟩ := txt_of wi al E V C K hc hb l2
  obtain ⟨v, B, X', ⟨⟨hv, hh⟩, hl, hk, hs⟩, st⟩ := ChN.pays x t A cs.length (fun j => cs.getD j 0) z fm i (tabChN_of (movedChN hZ hw)) hfr hlo m meth c P g ig mk _ X hg hsize hdg hW hn ⟨r1, r2, rfl, hx, hi, sta_is al S, hz, sta_is al F, rf⟩
  exact ⟨v, B, X', ⟨[], ⟨hv, rfl, hh⟩, hl, hk, hs⟩, st⟩
/-- what backV says of its String, as the contracts of this text ask it: cs's low bytes, coder 0 -/
theorem codOf {cs : List Int32} {n : Nat} (hn : cs.length = n) (hb : ∀ c ∈ cs, ¬ 255 < c) : CodA cs 0 (Int32.ofNat n) ((cs.map lo8).map Value.int) := Or.inl ⟨rfl, by rw [hn], by simp [List.map_map, Function.comp_def], hb⟩
end StrChars.Road
end Jvm.Pilot.@@N@@
namespace Jvm.Pilot.@@N@@
open Jvm Jvm.ClassFile Sem Op Lib Jvm.Free Jvm.Stand Jvm.LawKit Jvm.RoadKit Bundle Jvm.Pilot.@@N@@.Jvm.D
abbrev SS (p : Program) (e : Env) (below : List Frame) (T : State) (g : JFrame) (t : State) : Prop := Steps p.tables e below (T.setTop g) t
abbrev vi (x : Int32) : Slot := .val (.int x)
abbrev vl (x : Int64) : Slot := .val (.long x)
abbrev vr (x : Addr) : Slot := .val (.ref x)
abbrev vd (x : UInt64) : Slot := .val (.double x)
abbrev uu : Slot := .unset
abbrev us : Slot := .second
theorem wd {a0 : Array Value} {Z : State} (hw : ∀ d ∈ tables_1, d.before a0 Z = true) (i : Nat) {d : Jvm.Cond} (h : tables_1[i]? = some d) : d.before a0 Z = true := hw _ (List.mem_of_getElem? h)
theorem own_hk {T : State} {h : Heap} {k : Nat} (e : T.heap = h) (q : k ≤ h.size) : k ≤ T.heap.size := e ▸ q
theorem own_reb {p : Program} {l : Launch} {e : Env} {R : Room} {s : State} {m : MethodId} {args : Array Value} {below : List Frame} {meth : Method} {c : Code} {T : State} {L L' : List Loc} {k k' n n' : Nat} (X : Stand p l e R s m args below meth c T L k n) (hl : L = L') (hk : k = k') (hn : n = n') : Stand p l e R s m args below meth c T L' k' n' := by
  subst hl hk hn; exact X
theorem own_szW {h h' : Heap} {a : Addr} {sl : Nat} {v : Value} {k : Nat} (W : Wr h h' a sl v) (q : k ≤ h.size) : k ≤ h'.size := by rw [W.size]; exact q
theorem own_at {T : State} {h : Heap} {a : Addr} {c : Cell} (e : T.heap = h) (q : h[a]? = some c) : T.heap[a]? = some c := e ▸ q
abbrev M0 : MethodName := ⟨"java/lang/Math", "max", "(II)I"⟩
abbrev M1 : MethodName := ⟨"java/lang/Math", "min", "(II)I"⟩
abbrev M2 : MethodName := ⟨"java/lang/String", "coder", "()B"⟩
abbrev M3 : MethodName := ⟨"java/lang/String", "length", "()I"⟩
abbrev M4 : MethodName := ⟨"java/lang/AbstractStringBuilder", "isLatin1", "()Z"⟩
abbrev M5 : MethodName := ⟨"java/lang/AbstractStringBuilder", "inflateIfNeededFor", "(Ljava/lang/String;)V"⟩
abbrev M6 : MethodName := ⟨"java/lang/AbstractStringBuilder", "<init>", "(I)V"⟩
abbrev M7 : MethodName := ⟨"java/lang/StringBuilder", "<init>", "()V"⟩
abbrev M8 : MethodName := ⟨"java/lang/AbstractStringBuilder", "getValue", "()[B"⟩
abbrev M9 : MethodName := ⟨"java/lang/AbstractStringBuilder", "length", "()I"⟩
abbrev M10 : MethodName := ⟨"java/lang/StringBuilder", "length", "()I"⟩
abbrev M11 : MethodName := ⟨"java/util/Arrays", "checkLength", "(II)V"⟩
abbrev M12 : MethodName := ⟨"java/lang/AbstractStringBuilder", "ensureCapacityInternal", "(I)V"⟩
abbrev M13 : MethodName := ⟨"java/lang/String", "getBytes", "([BIB)V"⟩
abbrev M14 : MethodName := ⟨"java/lang/AbstractStringBuilder", "putStringAt", "(ILjava/lang/String;)V"⟩
abbrev M15 : MethodName := ⟨"java/lang/AbstractStringBuilder", "append", "(Ljava/lang/String;)Ljava/lang/AbstractStringBuilder;"⟩
abbrev M16 : MethodName := ⟨"java/lang/StringBuilder", "append", "(Ljava/lang/String;)Ljava/lang/StringBuilder;"⟩
abbrev M17 : MethodName := ⟨"java/util/Arrays", "copyOfRangeByte", "([BII)[B"⟩
abbrev M18 : MethodName := ⟨"java/util/Arrays", "copyOfRange", "([BII)[B"⟩
abbrev M19 : MethodName := ⟨"java/lang/String", "<init>", "(Ljava/lang/AbstractStringBuilder;Ljava/lang/Void;)V"⟩
abbrev M20 : MethodName := ⟨"java/lang/String", "<init>", "(Ljava/lang/StringBuilder;)V"⟩
abbrev M21 : MethodName := ⟨"java/lang/StringBuilder", "toString", "()Ljava/lang/String;"⟩
abbrev M22 : MethodName := ⟨"jdk/internal/util/ArraysSupport", "newLength", "(III)I"⟩
abbrev M23 : MethodName := ⟨"java/lang/AbstractStringBuilder", "newCapacity", "(I)I"⟩
abbrev M24 : MethodName := ⟨"java/util/Arrays", "copyOf", "([BI)[B"⟩
abbrev M25 : MethodName := ⟨"java/lang/AbstractStringBuilder", "append", "(I)Ljava/lang/AbstractStringBuilder;"⟩
abbrev M26 : MethodName := ⟨"java/lang/Integer", "stringSize", "(I)I"⟩
abbrev M27 : MethodName := ⟨"java/lang/Integer", "getChars", "(II[B)I"⟩
abbrev M28 : MethodName := ⟨"java/lang/StringBuilder", "append", "(I)Ljava/lang/StringBuilder;"⟩
abbrev M29 : MethodName := ⟨"java/lang/Throwable", "<init>", "(Ljava/lang/String;)V"⟩
abbrev M30 : MethodName := ⟨"java/lang/Exception", "<init>", "(Ljava/lang/String;)V"⟩
abbrev M31 : MethodName := ⟨"java/lang/RuntimeException", "<init>", "(Ljava/lang/String;)V"⟩
abbrev M32 : MethodName := ⟨"com/example/plain_hub/plainhub/HubException", "<init>", "(IILjava/lang/String;)V"⟩
abbrev M33 : MethodName := ⟨"java/lang/Throwable", "getMessage", "()Ljava/lang/String;"⟩
abbrev M34 : MethodName := ⟨"com/example/plain_hub/plainhub/HubException", "status", "()I"⟩
abbrev M35 : MethodName := ⟨"com/example/plain_hub/plainhub/HubException", "code", "()I"⟩
abbrev M36 : MethodName := ⟨"com/example/plain_hub/plainhub/HubException", "tooLarge", "(I)Lcom/example/plain_hub/plainhub/HubException;"⟩
abbrev M37 : MethodName := ⟨"java/lang/String", "charAt", "(I)C"⟩
abbrev M38 : MethodName := ⟨"java/lang/Math", "abs", "(J)J"⟩
abbrev M39 : MethodName := ⟨"com/example/plain_hub/plainhub/HubExceptionTooLargePinLaw", "digits", "(J)I"⟩
abbrev M40 : MethodName := ⟨"com/example/plain_hub/plainhub/HubExceptionTooLargePinLaw", "dig", "(Ljava/lang/String;IJIIJ)Z"⟩
abbrev M41 : MethodName := ⟨"com/example/plain_hub/plainhub/HubException", "getMessage", "()Ljava/lang/String;"⟩
abbrev M42 : MethodName := ⟨"java/lang/String", "<init>", "([C)V"⟩
abbrev M43 : MethodName := ⟨"java/lang/String", "equals", "(Ljava/lang/Object;)Z"⟩
abbrev z0 : Value := .int (0 : Int32)
abbrev vI (x : Int32) : Value := .int x
abbrev own_EL : List (String × Nat) := consts_1
theorem own_EW {Z : State} {a0 : Array Value} (hw : ∀ d ∈ tables_1, d.before a0 Z = true) : EW Z a0 own_EL := (EW.cons (wd hw 28 rfl) (by decide) (EW.cons (wd hw 129 rfl) (by decide) (EW.cons (wd hw 296 rfl) (by decide) (EW.cons (wd hw 306 rfl) (by decide) EW.nil))))
theorem own_chr {Z : State} {EL : List (String × Nat)} {s T : State} {h0 h : Heap} (hh : s.heap = h0) (e : T.heap = h) (R : CHr Z EL s.vm h0 T.vm h) : CHr Z EL s.vm s.heap T.vm T.heap := by
  subst hh e; exact R
theorem own_safeNull {Z : State} {EL : List (String × Nat)} {vm : Vm} {h : Heap} {x : Addr} (hal : Z.vm.Alike vm) (E : Exa Z h x "java/lang/String") (F : Fld Z h x "java/lang/String" "value" "[B" .null) : Safe Z EL vm h x := fun B => by
  obtain ⟨cell, cf, k, i, f, f1, f2, f3, f4, f5, f6, f7⟩ := F
  obtain ⟨cell', k', e1, e2, e3, -, -⟩ := E
  obtain ⟨p, -, u, a, -, q, -, G, rfl | rfl⟩ := B
  · cases (show h[q.sa]? = some q.sC from G.ha).symm.trans f1
    obtain ⟨cS, ⟨S, -, -⟩, -⟩ := G
    obtain ⟨c', k1, i', g1, -⟩ := S.2.2.2.1
    obtain ⟨k2, g2⟩ := ff_back (U := Wst Z vm h) hal g1
    cases f2.symm.trans g2
    have w := S.2.2.2.2.2.2.2.1
    rw [f7] at w
    cases w
  · cases (show h[q.sd]? = some q.SA from G.hd).symm.trans e1
    obtain ⟨cS, -, -, g, -⟩ := G
    have g' : vm.findClass "[B" = some q.SA.cls := g
    rw [hal.findClass] at g'
    obtain ⟨k1, q1, q2⟩ := Vm.findClass_spec g'
    obtain ⟨k2, q3, q4⟩ := Vm.findClass_spec e2
    cases q1.symm.trans q3
    exact absurd (q2.symm.trans q4) (by decide)
theorem own_up {cs : List Int32} (h : ∀ c ∈ cs, ¬ c < 0 ∧ ¬ (255 : Int32) < c) : ∀ c ∈ cs, ¬ c < 0 ∧ ¬ (65535 : Int32) < c := fun c hc => ⟨(h c hc).1, fun q => (h c hc).2 (Int32.lt_trans (by decide) q)⟩
theorem own_eqv {v : Option Value} {cs ds : List Int32} (h : (v = some (.int 1) ∧ cs = ds) ∨ (v = some (.int 0) ∧ ¬ cs = ds)) : v = some (.int (if cs = ds then (1 : Int32) else (0 : Int32))) := by
  rcases h with ⟨rfl, h⟩ | ⟨rfl, h⟩
  · rw [if_pos h]
  · rw [if_neg h]
theorem own_conj5 {args : Array Value} {s : State} {a b c d e : Jvm.Cond} (h1 : a.before args s = true) (h2 : b.before args s = true) (h3 : c.before args s = true) (h4 : d.before args s = true) (h5 : e.before args s = true) : (Jvm.Free.Exc.conj [a, b, c, d, e]).before args s = true := conj_of (fun x hx => by
  simp only [List.mem_cons, List.not_mem_nil, or_false] at hx
  rcases hx with rfl | rfl | rfl | rfl | rfl <;> assumption)
theorem own_decl {Z : State} {a0 : Array Value} {y : MethodName} {bytes : ByteArray} {maxL : Nat} {ret : Option FieldType} (w3 : (Jvm.Cond.instanceMethod y).before a0 Z = true) (wc : (Jvm.Cond.code y bytes maxL ret).before a0 Z = true) : (Jvm.Cond.declares y).before a0 Z = true := by
  obtain ⟨mk, methM, hnamed, hmethM, hstM, habM⟩ := Cond.instanceMethod_spec w3
  obtain ⟨m2, cM, q1, -, -, -, -, -, -, hsig⟩ := Cond.code_spec hnamed wc
  cases hmethM.symm.trans q1
  simp only [Cond.before, Cond.holds, Cond.value, hnamed, hmethM, Option.bind_some, Option.map_some]
  simp [hstM, hsig]
theorem own_face {args : Array Value} {s : State} {C : String} {y z : MethodName} (w : (Jvm.Cond.selects C z z).before args s = true) (e : y.cls = z.cls) : NotFace s y := fun r0 h0 => by
  obtain ⟨c2, r2, m2, q1, q2, q3, q4, kP, hkP, hkPi⟩ := Cond.selects_spec w
  have a1 := findClass_of_methodNamed h0
  have a2 := findClass_of_methodNamed q3
  rw [e] at a1
  have a3 := Option.some.inj (a1.symm.trans a2)
  exact ⟨kP, by rw [a3]; exact hkP, hkPi⟩
theorem own_same {Z : State} {a0 : Array Value} {y : MethodName} (w3 : (Jvm.Cond.instanceMethod y).before a0 Z = true) (nf : NotFace Z y) (hy : y.cls ≠ "java/lang/invoke/MethodHandle" ∧ y.cls ≠ "java/lang/invoke/VarHandle") : (Jvm.Cond.sameMethod y.cls y.cls y.name y.desc).before a0 Z = true := by
  obtain ⟨mk, methM, hnamed, hmethM, hstM, habM⟩ := Cond.instanceMethod_spec w3
  have hf := State.methodFound?_of_named hnamed hy
  have hc := findClass_of_methodNamed hnamed
  obtain ⟨kr, hkr, hni⟩ := nf _ hnamed
  have hn2 : Z.methodNamed? ⟨y.cls, y.name, y.desc⟩ = some mk := hnamed
  simp [Cond.before, Cond.holds, Cond.value, hc, hf, hn2, hkr, hni]
/- the words on Throwable that these sheets bear: all that the library's 'throwableAtoms' asks but the row on Throwable's own 'suppressedExceptions' (here: rc's) -/
def own_xw (rc : String) : List Jvm.Cond := [.initialized tN, .superclass tN "java/lang/Object", .instanceMethod tFill, .codeSync tFill LibCode.Throwable.Fill.code 1 (some (.object tN)), .instanceMethod tFill0, .native tFill0, .instanceMethod oInit, .code oInit ⟨#[0xb1]⟩ 1 none, .methodLink tN 1 oInit, .methodLink tN 27 tFill, .methodLink tN 202 tFill0,
  .fieldLink tN 7 tN "cause" "Ljava/lang/Throwable;", .lays rc tN "cause" "Ljava/lang/Throwable;", .fieldLink tN 17 tN "stackTrace" steD, .lays rc tN "stackTrace" steD, .fieldLink tN 24 tN "suppressedExceptions" listD, .lays rc tN "suppressedExceptions" listD,
  .fieldLink tN 13 tN "UNASSIGNED_STACK" steD, .laysStatic tN "UNASSIGNED_STACK" steD, .fieldLink tN 20 tN "SUPPRESSED_SENTINEL" listD, .laysStatic tN "SUPPRESSED_SENTINEL" listD, .lays rc tN "detailMessage" "Ljava/lang/String;",
  .declares tFill, .selects rc tFill0 tFill0, .selects rc tFill tFill, .fieldLink tN 198 tN "backtrace" "Ljava/lang/Object;", .lays rc tN "backtrace" "Ljava/lang/Object;", .arrayOver (.object "java/lang/Object"), .soleField tN "backtrace", .soleField tN "depth", .lays rc tN "depth" "I"]
theorem own_xok (rc : String) : (own_xw rc).all xOk = true := rfl
theorem own_throw {args : Array Value} {s : State} {pl : Platform} {rc : String} (howns : pl.frameOwnsMonitors = true) (hfin : pl.finalization = false) (hpl : pl.magicAccessors = ({} : Platform).magicAccessors) (w : ∀ d ∈ own_xw rc, d.before args s = true) :
    ∃ T : ThrowableC, T.Links pl s ∧ s.vm.findClass tN = some T.cT ∧ s.methodNamed? tFill = some T.fill ∧ s.methodNamed? tFill0 = some T.fill0 ∧ s.fieldFound? tN "stackTrace" steD = some (T.cT, T.kT, T.i17, T.fStack) ∧ s.fieldFound? tN "UNASSIGNED_STACK" steD = some (T.cT, T.kT, T.i13, T.fUnassigned) ∧ T.fStack.type = .array (.object "java/lang/StackTraceElement") := by
  have g : ∀ (i : Nat) (d : Jvm.Cond), (own_xw rc)[i]? = some d → d.holds args s none s [] = true := fun i d h => w d (List.mem_of_getElem? h)
  obtain ⟨⟨c, j0⟩, M0, n0, m0, nat0, code0, locks0, sig0⟩ := Cond.native_spec (g 5 _ rfl)
  have hc : s.vm.findClass tN = some c := findClass_of_methodNamed n0
  obtain ⟨k, hk, hname⟩ := Vm.findClass_spec hc
  obtain ⟨_, k1, _, _, hk1, _, _, _, _, hni⟩ := Cond.superclass_spec hc (g 1 _ rfl)
  cases Option.some.inj (hk.symm.trans hk1)
  obtain ⟨jF, MF, nF, mF, atF, stF, abF, -, -⟩ := Cond.ownMethod (x := tFill) hc hk (g 2 _ rfl)
  obtain ⟨MF', cF, mF', cdF, byF, lcF, rtF, lkF, -, sgF⟩ := Cond.codeSync_spec nF (g 3 _ rfl)
  cases Option.some.inj (mF.symm.trans mF')
  obtain ⟨j0', M0', n0', m0', at0, st0, ab0, nm0, ds0⟩ := Cond.ownMethod (x := tFill0) hc hk (g 4 _ rfl)
  obtain rfl : j0 = j0' := by have := Option.some.inj (n0.symm.trans n0'); simpa using this
  cases Option.some.inj (m0.symm.trans m0')
  obtain ⟨mO, MO, nO, mmO, stO, abO⟩ := Cond.instanceMethod_spec (g 6 _ rfl)
  obtain ⟨MO', cO, mmO', cdO, byO, lcO, -, lkO, -, sgO⟩ := Cond.code_spec nO (g 7 _ rfl)
  cases Option.some.inj (mmO.symm.trans mmO')
  obtain ⟨kO, hkO, hnameO⟩ := Vm.findClass_spec (findClass_of_methodNamed nO)
  obtain ⟨nmO, dsO⟩ := name_of_methodNamed nO mmO
  obtain ⟨ci1, x1, cf, l1, r1, hcf, p1⟩ := Cond.linkedMethod hc hk nO (g 8 _ rfl) pl hpl
  obtain ⟨ci27, x27, cf', l27, r27, hcf', p27⟩ := Cond.linkedMethod hc hk nF (g 9 _ rfl) pl hpl
  cases Option.some.inj (hcf.symm.trans hcf')
  obtain ⟨ci202, x202, cf', l202, r202, hcf', p202⟩ := Cond.linkedMethod hc hk n0 (g 10 _ rfl) pl hpl
  cases Option.some.inj (hcf.symm.trans hcf')
  obtain ⟨ci7, i7, f7, k7, g7, a7, s7, z7, nm7, ty7, ff7⟩ := Cond.ownField (t := .object tN) hc hk (by decide +kernel) (g 11 _ rfl) (g 12 _ rfl) pl hpl
  obtain ⟨ci17, i17, f17, k17, g17, a17, s17, z17, nm17, ty17, ff17⟩ := Cond.ownField (t := .array (.object "java/lang/StackTraceElement")) hc hk (by decide +kernel) (g 13 _ rfl) (g 14 _ rfl) pl hpl
  obtain ⟨ci24, i24, f24, k24, g24, a24, s24, z24, nm24, ty24, ff24⟩ := Cond.ownField (t := .object "java/util/List") hc hk (by decide +kernel) (g 15 _ rfl) (g 16 _ rfl) pl hpl
  obtain ⟨ci13, i13, f13, aS, cS, k13, g13, a13, s13, -, -, sta, hcS, hiS, -, -, ff13⟩ := Cond.ownStatic (t := .array (.object "java/lang/StackTraceElement")) hc hk (by decide +kernel) (g 17 _ rfl) (g 18 _ rfl) pl hpl
  obtain ⟨ci20, i20, f20, _, _, k20, g20, a20, s20, -, -, -, -, -, -, -, ff20⟩ := Cond.ownStatic (t := .object "java/util/List") hc hk (by decide +kernel) (g 19 _ rfl) (g 20 _ rfl) pl hpl
  obtain ⟨_, _, cM, kM, iM, fM, _, _, ffM, sM, zM, _⟩ := Cond.lays_spec (g 21 _ rfl)
  have apart : f17.slot ≠ f24.slot := Cond.lays_apart (g 14 _ rfl) (g 16 _ rfl) ff17 ff24 (by rw [nm17, nm24]; decide)
  have pF : MF.sig.parameters = [] := by
    have : (parseMethodDescriptor tFill.desc).map (·.parameters) = some [] := by decide +kernel
    rw [sgF] at this; simpa using this
  have p0 : M0.sig.parameters = [.int] := by
    have : (parseMethodDescriptor tFill0.desc).map (·.parameters) = some [.int] := by decide +kernel
    rw [sig0] at this; simpa using this
  have pO : MO.sig.parameters = [] := by
    have : (parseMethodDescriptor oInit.desc).map (·.parameters) = some [] := by decide +kernel
    rw [sgO] at this; simpa using this
  exact ⟨{ cT := c, kT := k, cO := c, aS := aS, fillIdx := jF, fill0Idx := j0, initSIdx := jF, obj := mO, kObj := kO, methFill := MF, methFill0 := M0, methInitS := MF, methObj := MO, codeFill := cF, codeInitS := cF, codeObj := cO, fBack := f7, fDepth := f7, fStack := f17, fCause := f7, fSupp := f24, fMsg := fM, fUnassigned := f13, fSentinel := f20, cfT := cf, ci1 := ci1, n1 := x1, ci27 := ci27, n27 := x27, ci202 := ci202, n202 := x202, ci7 := ci7, i7 := i7, ci13 := ci13, i13 := i13, ci17 := ci17, i17 := i17, ci20 := ci20, i20 := i20, ci24 := ci24, i24 := i24 }, { owns := howns, noFinalization := hfin, cls := hk, name := hname, boot := Vm.findClass_boot hc hk, notInterface := hni, initialized := Cond.initialized_spec hc hk (g 0 _ rfl), statics := sta, fillAt := atF, fillCode := cdF, fillBytes := byF, fillLocals := lcF, fillLocks := lkF, fillStatic := stF, fillAbstract := abF, fillReturns := rtF, fillParams := pF, fill0At := at0, fill0Name := nm0, fill0Desc := ds0, fill0Params := p0, fill0Static := st0, fill0Native := nat0, fill0Code := code0, fill0Locks := locks0, fill0Abstract := ab0, stackInstance := s17, stackNotFinal := z17, unassignedStatic := s13, objClass := hkO, objClassName := hnameO, objMethod := mmO, objName := nmO, objStatic := stO, objAbstract := abO, objFound := by rw [dsO]; exact lookupSpecial_of_named nO mmO stO, objParams := by rw [pO]; rfl, objCode := cdO, objBytes := byO, objLocks := lkO, causeInstance := s7, causeNotFinal := z7, sentinelStatic := s20, suppInstance := s24, suppNotFinal := z24, msgInstance := sM, msgNotFinal := zM, stackApartSupp := apart, file := hcf, mlink1 := l1, mright1 := r1, pool1 := p1, mlink27 := l27, mright27 := r27, pool27 := p27, mlink202 := l202, mright202 := r202, pool202 := p202, link7 := k7, right7 := g7, at7 := a7, link13 := k13, right13 := g13, at13 := a13, link17 := k17, right17 := g17, at17 := a17, link20 := k20, right20 := g20, at20 := a20, link24 := k24, right24 := g24, at24 := a24 }, hc, nF, n0, ff17, ff13, ty17⟩
theorem own_nO {n : String} {v : Value} (h : v.isRef = true) : narrow (.object n) v = v := by cases v <;> first | rfl | cases h
theorem own_nA {t : FieldType} {v : Value} (h : v.isRef = true) : narrow (.array t) v = v := by cases v <;> first | rfl | cases h
theorem own_fO {n : String} {v : Value} (h : v.isRef = true) : fits (.object n) v = true := by cases v <;> first | rfl | cases h
theorem own_fA {t : FieldType} {v : Value} (h : v.isRef = true) : fits (.array t) v = true := by cases v <;> first | rfl | cases h
theorem own_frsix {Z : State} {a : Addr} {n0 : Nat} {L : List Loc} (h : ∀ x ∈ L, x ∈ sixLocs Z a) (q : n0 ≤ a) : Fr n0 L := fun y hy => by
  obtain ⟨nd, -, rfl⟩ := List.mem_map.mp (h y hy); exact q
theorem own_kp {p : Program} {l : Launch} {e : Env} {R : Room} {s : State} {m : MethodId} {args : Array Value} {below : List Frame} {meth : Method} {c : Code} {T : State} {locs : List Loc} {cells slots : Nat} {Z : State} {a : Addr} (X : Stand p l e R s m args below meth c T locs cells slots) (h : ∀ x ∈ locs, x ∈ sixLocs Z a) : Kp Z s.heap T.heap a := by
  have K : ∀ y cy, s.heap[y]? = some cy → ∃ c', T.heap[y]? = some c' ∧ c' = { cy with slots := c'.slots } ∧ c'.slots.size = cy.slots.size ∧ ∀ i, (⟨y, i⟩ : Loc) ∉ locs → c'.slots[i]? = cy.slots[i]? := fun y cy hy => X.same.2.2.2.2.2 y cy hy
  refine ⟨X.same.2.1, fun y cy hy => ?_⟩
  obtain ⟨c', q1, q2, q3, q4⟩ := K y cy hy
  refine ⟨c', q1, q2, q3, fun ne => ?_, fun i hi => q4 i fun hm => ?_⟩
  · have : c'.slots = cy.slots := Array.ext_getElem? fun i => q4 i fun hm => by
      obtain ⟨nd, -, e⟩ := List.mem_map.mp (h _ hm)
      exact ne (congrArg Loc.base e).symm
    rw [q2, this]
  · obtain ⟨nd, h1, e⟩ := List.mem_map.mp (h _ hm)
    exact hi nd h1 (congrArg Loc.slot e)
theorem own_fill {p : Program} {l : Launch} {e : Env} {R : Room} {s : State} {m : MethodId} {args : Array Value} {below : List Frame} {meth : Method} {c : Code} {T : State} {locs : List Loc} {cells slots : Nat} {Z : State} {a0 : Array Value} {h : Heap} {rc : String} {kk : Nat} {a : Addr} {u : Value} (X : Stand p l e R s m args below meth c T locs cells slots) (hx : p.tables.exec = Jvm.exec) (hl : l.stackTraces = true) (hZ : Z.Warmed39 s.vm)
    (hown : s.vm.findClass tN = some m.cls) (w : ∀ d ∈ own_xw rc, d.before a0 Z = true) (wi : (Jvm.Cond.instantiable rc kk).before a0 Z = true) (hT0 : ThS Z s.heap) (hTK : s.vm.MethodsKnown) (hBelow : s.vm.FramesKnown below) (eT : T.heap = h) (E : Exa Z h a rc) (N : Unt h a) (hu : u.isRef = true) (FS : Fld Z h a tN "stackTrace" steD u) (SU : Sta Z h tN "UNASSIGNED_STACK" steD u)
    (FB : Fld Z h a tN "backtrace" "Ljava/lang/Object;" .null) (FM : Fld Z h a tN "detailMessage" "Ljava/lang/String;" .null) (hlocs : ∀ x ∈ locs, x ∈ sixLocs Z a) {g : JFrame} (hg : g.method = m) (hsize : g.locals.size = c.maxLocals) {rest : List Value} (hs : g.stack = .ref a :: rest) (hd : decode c.code g.pc = .ok (.invokevirtual 27, 3))
    (hf : 2 < R.frames) (hlo : 2 * g.monitorRoom + (rest.map fun v => v.category).sum + 42 ≤ R.locals) (hc : cells + 1 ≤ R.cells) (hsl : slots + 2752 ≤ R.slots) :
    ∃ (T' : State) (h' : Heap) (locs' : List Loc), Stand p l e R s m args below meth c T' locs' (cells + 1) (slots + 2752) ∧ T'.heap = h' ∧ (∀ x ∈ locs', x ∈ sixLocs Z a) ∧ Kp Z s.heap h' a ∧ Fld Z h' a tN "detailMessage" "Ljava/lang/String;" .null ∧
      ∀ target, Steps p.tables e below (T'.setTop { g with pc := g.pc + 3, stack := .ref a :: rest }) target → Steps p.tables e below (T.setTop g) target := by
  have htr : e.platform.stackTraces = true := by rw [X.admits.platform]; exact hl
  have howns : e.platform.frameOwnsMonitors = true := by rw [X.admits.platform]
  have hfin : e.platform.finalization = false := by rw [X.admits.platform]
  have hpl : e.platform.magicAccessors = ({} : Platform).magicAccessors := by rw [X.admits.platform]
  have ws : ∀ d ∈ own_xw rc, d.before args s = true := fun d hd => mvX hT0 hZ (List.all_eq_true.mp (own_xok rc) d hd) (w d hd)
  obtain ⟨Tc, L, Yc, YF, YF0, YS, YU, tyS⟩ := own_throw howns hfin hpl ws
  have gs : ∀ (i : Nat) (d : Jvm.Cond), (own_xw rc)[i]? = some d → d.before args s = true := fun i d h => ws d (List.mem_of_getElem? h)
  have hal : Z.vm.Alike s.vm := hZ.alike
  obtain ⟨cell, kc, h1, h2, h3, h4, h5⟩ := E
  obtain ⟨c2, n1, n2, n3⟩ := N
  cases h1.symm.trans n1
  obtain ⟨c4, k2, i1, i2, i3, -⟩ := Cond.instantiable_spec wi
  cases h2.symm.trans i1
  cases h3.symm.trans i2
  have hfound : s.vm.findClass rc = some cell.cls := by rw [hal.findClass]; exact h2
  obtain ⟨kX, hk, ekX⟩ := hal.2.2 _ _ h3
  have hord : kX.kind = .ordinary := by rw [ekX]; exact i3
  have hsz : cell.slots.size = kX.instanceTypes.size := by rw [ekX]; exact h5 i3
  have hsel0 : selectMethod e.platform s.vm cell.cls Tc.fill0 = .method Tc.fill0 := by
    obtain ⟨c2, r2, m2, q1, q2, q3, q4, -⟩ := Cond.selects_spec (gs 23 _ rfl)
    cases Option.some.inj (q1.symm.trans hfound)
    cases Option.some.inj (q2.symm.trans (State.methodFound?_of_named YF0 (by decide)))
    cases Option.some.inj (q3.symm.trans YF0)
    rw [Launch.admits_selectMethod X.admits]; exact q4
  obtain ⟨cf, i, k, f, st, cellS, s1, s2, s3, s4, s5, s6, s7⟩ := SU
  obtain ⟨k4, y1, y2⟩ := State.fieldFound?_setVm (s := Z) hal s1
  cases (show s.fieldFound? tN "UNASSIGNED_STACK" steD = _ from y1).symm.trans YU
  have est : st = Tc.aS := by
    have := L.statics
    rw [y2] at this
    exact Option.some.inj (s4.symm.trans this)
  subst est
  have hneS : Tc.aS ≠ a := fun q => by
    rw [q, h1] at s5
    rw [← Option.some.inj s5, h4] at s6
    cases s6
  obtain ⟨cs1, cfS, kS, iS, fS, b1, b2, b3, b4, b5, b6, b7⟩ := FS
  cases h1.symm.trans b1
  obtain ⟨k5, y3, y4⟩ := State.fieldFound?_setVm (s := Z) hal b2
  cases (show s.fieldFound? tN "stackTrace" steD = _ from y3).symm.trans YS
  obtain ⟨ci198, i198, fB, hk198, hg198, ha198, hsB, -, hnB, htB, hffB⟩ := Cond.ownField (t := .object "java/lang/Object") Yc L.cls (by decide +kernel) (gs 25 _ rfl) (gs 26 _ rfl) e.platform hpl
  obtain ⟨cs2, cfB, kB, iB, fB', d1, d2, d3, d4, d5, d6, d7⟩ := FB
  cases h1.symm.trans d1
  obtain ⟨k6, y5, y6⟩ := State.fieldFound?_setVm (s := Z) hal d2
  cases (show s.fieldFound? tN "backtrace" "Ljava/lang/Object;" = _ from y5).symm.trans hffB
  obtain ⟨cD1, kD1, cD, kD, iD, fD, -, -, hffD, hstD, -, -, -, -⟩ := Cond.lays_spec (gs 30 _ rfl)
  cases Option.some.inj ((Cond.lays_declared (gs 30 _ rfl) hffD).symm.trans Yc)
  obtain ⟨hkD, hatD⟩ := State.fieldFound?_spec hffD
  cases Option.some.inj (hkD.symm.trans L.cls)
  obtain ⟨hnD, htD⟩ := State.fieldFound?_type hffD (t := .int) (by decide +kernel)
  have hfb := Cond.soleField_find Yc L.cls (gs 28 _ rfl) ha198 hnB hsB
  have hfd := Cond.soleField_find Yc L.cls (gs 29 _ rfl) hatD hnD hstD
  obtain ⟨comp, cO, kO, -, -, hkO, hkindO, hO⟩ := Cond.arrayOver_spec (gs 27 _ rfl)
  obtain ⟨tyT, -⟩ := Cond.laysAt hfound hk YS (gs 14 _ rfl)
  obtain ⟨tyB, -⟩ := Cond.laysAt hfound hk hffB (gs 26 _ rfl)
  obtain ⟨tyD, -⟩ := Cond.laysAt hfound hk hffD (gs 30 _ rfl)
  have tk : ∀ {f : Field} {v : Value}, kX.instanceTypes[f.slot]? = some f.type → fits f.type v = true → Jvm.Takes s cell f v := fun {f v} q1 q2 => by
    obtain ⟨r1, r2⟩ := Takes.of_laid (v := v) hk hord q1 q2
    exact ⟨by rw [hsz]; simpa using r1, by rw [n2]; exact r2⟩
  obtain ⟨cs3, cfM, kM, iM, fM, e1, e2, e3, e4, e5, e6, e7⟩ := FM
  cases h1.symm.trans e1
  obtain ⟨k7, y7, y8⟩ := State.fieldFound?_setVm (s := Z) hal e2
  have y7' : s.fieldFound? tN "detailMessage" "Ljava/lang/String;" = some (cfM, k7, iM, fM) := y7
  have nmM := (State.fieldFound?_type y7' (t := .object "java/lang/String") (by decide +kernel)).1
  have nmS := (State.fieldFound?_type YS (t := .array (.object "java/lang/StackTraceElement")) (by decide +kernel)).1
  have mS : fM.slot ≠ Tc.fStack.slot := Cond.lays_apart (gs 21 _ rfl) (gs 14 _ rfl) y7' YS (by rw [nmM, nmS]; decide)
  have mB : fM.slot ≠ fB.slot := Cond.lays_apart (gs 21 _ rfl) (gs 26 _ rfl) y7' hffB (by rw [nmM, hnB]; decide)
  have mD : fM.slot ≠ fD.slot := Cond.lays_apart (gs 21 _ rfl) (gs 30 _ rfl) y7' hffD (by rw [nmM, hnD]; decide)
  have hSE := gs 24 _ rfl
  obtain ⟨v6, vm6, ⟨T6, L6, c6, n6⟩, hW6, X6, ⟨hv6, C6, n, hn, hD6, q1, q2, q3, q4, hL6, hc6, hn6⟩, come⟩ := X.virtualBack hx (own := tN) (C := rc) (index := 27) (y := tFill) (z := tFill) hown (gs 9 _ rfl) (gs 22 _ rfl) (notFace_of_selects hSE) hSE (gs 2 _ rfl) (by decide)
    (Jvm.Free.Exc.fillPaysAny (l := l) (W := 2 * g.monitorRoom + (rest.map fun v => v.category).sum) hx htr Tc L YF (u0 := ⟨u, hu⟩) (self := a) (cell := cell) (cellS := cellS) (fun _ => by rw [n2]; simp) (by rw [n2]; simp) (by rw [n3]) (by rw [n3]) b7 hsel0 hneS (fun q => by rw [q] at s6; cases s6) s7 (tk tyT (by rw [tyS]; exact own_fA hu))
      ⟨{ ci198 := ci198, i198 := i198, fBack := fB }, ⟨hk198, hg198, ha198, hsB⟩, d7⟩ hTK hBelow Yc hO hkO hkindO hfb hfd (fun x => tk tyB (by rw [htB]; rfl)) (fun x => tk tyD (by rw [htD]; rfl)) hf hlo)
    (b := a) (cB := cell.cls) hfound ⟨cell, by rw [eT]; exact h1, rfl, h4⟩ (g := g) hg hsize (Steps.refl _) (argsL := []) (rest := rest)
    (fun sig h => by rw [show parseMethodDescriptor tFill.desc = some ⟨[], some (.object tN)⟩ from by decide +kernel] at h; rw [← Option.some.inj h]; rfl) hs (Nat.le_refl _) hd
    (fun vmx hWx => ⟨rfl, hc, hsl, by show T.heap[a]? = _; rw [eT]; exact h1, by show T.heap[Tc.aS]? = _; rw [eT]; exact s5⟩)
  dsimp only [Pt.U, Pt.locs, Pt.cells, Pt.slots] at X6 hD6 hL6 hc6 hn6 come
  subst hv6 hL6 hc6 hn6
  have hlocs' : ∀ x ∈ locs ++ [(⟨a, fB.slot⟩ : Loc), ⟨a, fD.slot⟩, ⟨a, Tc.fStack.slot⟩], x ∈ sixLocs Z a := fun x hx => by
    rcases List.mem_append.mp hx with hx | hx
    · exact hlocs x hx
    · have zB : Jvm.RoadKit.slotOf Z tN "backtrace" "Ljava/lang/Object;" = fB.slot := by simp [Jvm.RoadKit.slotOf, d2]
      have zS : Jvm.RoadKit.slotOf Z tN "stackTrace" steD = Tc.fStack.slot := by simp [Jvm.RoadKit.slotOf, b2]
      obtain ⟨c9, k9, i9, z9⟩ := Jvm.Free.BdW.found_ride (U := s) (U' := Z) hal.symm ⟨_, _, _, hffD⟩
      have zD : Jvm.RoadKit.slotOf Z tN "depth" "I" = fD.slot := by simp [Jvm.RoadKit.slotOf, z9]
      simp only [List.mem_cons, List.not_mem_nil, or_false] at hx
      rcases hx with rfl | rfl | rfl
      · rw [← zB]; exact List.mem_map.mpr ⟨("backtrace", "Ljava/lang/Object;"), by simp [Jvm.Free.Exc.sixNames], rfl⟩
      · rw [← zD]; exact List.mem_map.mpr ⟨("depth", "I"), by simp [Jvm.Free.Exc.sixNames], rfl⟩
      · rw [← zS]; exact List.mem_map.mpr ⟨("stackTrace", steD), by simp [Jvm.Free.Exc.sixNames], rfl⟩
  exact ⟨T6, T6.heap, _, X6.more (Nat.le_refl _) (Nat.add_le_add_left hn _), rfl, hlocs', own_kp X6 hlocs', ⟨C6, cfM, kM, iM, fM, hD6, e2, e3, by rw [q2]; exact e4, by rw [q2]; exact e5, by rw [q1]; exact e6, by rw [q4 _ mB mD mS]; exact e7⟩, fun target k => come.trans k⟩
theorem own_six {Z : State} {a0 : Array Value} {rc O n d : String} {ty : FieldType} (w : ∀ x ∈ own_xw rc, x.before a0 Z = true) (Lf : Laid Z a0 rc O n d) (ht : parseFieldDescriptor d = some ty) (hn : ∀ nd ∈ Jvm.Free.Exc.sixNames, nd.1 ≠ n) : ∀ nd ∈ Jvm.Free.Exc.sixNames, Jvm.RoadKit.slotOf Z tN nd.1 nd.2 ≠ Jvm.RoadKit.slotOf Z O n d := fun nd hm => by
  have q := hn nd hm
  have g : ∀ (i : Nat) (d : Jvm.Cond), (own_xw rc)[i]? = some d → d.before a0 Z = true := fun i d h => w d (List.mem_of_getElem? h)
  simp only [Jvm.Free.Exc.sixNames, List.mem_cons, List.not_mem_nil, or_false] at hm
  rcases hm with rfl | rfl | rfl | rfl | rfl | rfl
  · exact slot_ne (Or.inl (g 12 _ rfl)) Lf q (t := .object tN) (by decide) ht
  · exact slot_ne (Or.inl (g 14 _ rfl)) Lf q (t := .array (.object "java/lang/StackTraceElement")) (by decide) ht
  · exact slot_ne (Or.inl (g 16 _ rfl)) Lf q (t := .object "java/util/List") (by decide) ht
  · exact slot_ne (Or.inl (g 26 _ rfl)) Lf q (t := .object "java/lang/Object") (by decide) ht
  · exact slot_ne (Or.inl (g 30 _ rfl)) Lf q (t := .int) (by decide) ht
  · exact slot_ne (Or.inl (g 21 _ rfl)) Lf q (t := .object "java/lang/String") (by decide) ht
theorem own_l3 {Z : State} {a : Addr} : ∀ x ∈ ([] ++ [(⟨a, Jvm.RoadKit.slotOf Z tN "cause" "Ljava/lang/Throwable;"⟩ : Loc)] ++ [⟨a, Jvm.RoadKit.slotOf Z tN "stackTrace" steD⟩] ++ [⟨a, Jvm.RoadKit.slotOf Z tN "suppressedExceptions" listD⟩]), x ∈ sixLocs Z a := fun x hx => by
  simp only [List.nil_append, List.cons_append, List.mem_cons, List.not_mem_nil, or_false] at hx
  rcases hx with rfl | rfl | rfl
  · exact List.mem_map.mpr ⟨("cause", "Ljava/lang/Throwable;"), by simp [Jvm.Free.Exc.sixNames], rfl⟩
  · exact List.mem_map.mpr ⟨("stackTrace", steD), by simp [Jvm.Free.Exc.sixNames], rfl⟩
  · exact List.mem_map.mpr ⟨("suppressedExceptions", listD), by simp [Jvm.Free.Exc.sixNames], rfl⟩
theorem own_nb0 : nar .byte (0 : Int32) = 0 := by decide
theorem own_nz1 : nar .boolean (1 : Int32) = 1 := by decide
theorem own_shr0 (z : Int32) : (z >>> ((0 : Int32) &&& 31)) = z := by
  have e : ((0 : Int32) &&& 31) = 0 := by decide
  rw [e]; exact Int32.shiftRight_zero
theorem own_len3 {vd us : List Value} {a b n : Nat} (h : vd.length = n) (hu : us.length = b) (hab : a + b ≤ n) : (List.take a vd ++ us ++ List.drop (a + b) vd).length = n := by
  simp only [List.length_append, List.length_take, List.length_drop]; omega
def own_grow (cap new : Nat) (vv : List Value) : List Value := ((List.range cap).map fun i => List.getD vv i (.int (0 : Int32))) ++ List.replicate (new - cap) (.int (0 : Int32))
def own_cut (n : Nat) (vv : List Value) : List Value := (List.range n).map fun i => List.getD vv (0 + i) z0
def own_put (idx ln : Nat) (vd vt : List Value) : List Value := List.take idx vd ++ ((List.range ln).map fun i => List.getD vt (0 + i) z0) ++ List.drop (idx + ln) vd
theorem own_padcut {n : Nat} {vv zs : List Value} (hz : ∀ i, zs.getD i z0 = z0) : ∀ i, (own_cut n vv).getD i z0 = (List.take 0 zs ++ ((List.range n).map fun i => List.getD vv (0 + i) z0) ++ List.drop (0 + n) zs).getD i z0 := by
  intro i
  have hz' := hz
  simp only [List.getD_eq_getElem?_getD] at hz'
  rw [List.take_zero, List.nil_append]
  show (own_cut n vv).getD i z0 = (own_cut n vv ++ List.drop (0 + n) zs).getD i z0
  have hl : (own_cut n vv).length = n := by simp [own_cut]
  rw [List.getD_eq_getElem?_getD, List.getD_eq_getElem?_getD]
  by_cases h : i < n
  · rw [List.getElem?_append_left (by omega)]
  · rw [List.getElem?_append_right (by omega), List.getElem?_drop, hz', List.getElem?_eq_none (by omega)]; rfl
theorem own_cutlen (n : Nat) (vv : List Value) : (own_cut n vv).length = n := by simp [own_cut]
theorem own_putlen {vd vt : List Value} {a b n : Nat} (h : vd.length = n) (hab : a + b ≤ n) : (own_put a b vd vt).length = n := by
  simp only [own_put, List.length_append, List.length_take, List.length_drop, List.length_map, List.length_range]; omega
theorem own_zr (n : Nat) : ∀ i, (List.replicate n (Value.int (0 : Int32))).getD i z0 = z0 := by
  intro i; rw [List.getD_eq_getElem?_getD, List.getElem?_replicate]; split <;> rfl
theorem own_sub0 (x : Int32) : (x - (0 : Int32)) = x := Int32.sub_zero x
theorem own_shl0 (z : Int32) : (z <<< ((0 : Int32) &&& 31)) = z := by
  have e : ((0 : Int32) &&& 31) = 0 := by decide
  rw [e]; exact Int32.shiftLeft_zero
theorem own_neq {a b : Int32} (h : a < b) : ¬ a = b := fun e => by rw [e] at h; exact Int32.lt_irrefl h
def own_dig (p : Int32) : Int32 := Int32.ofNat (48 + p.toNatClampNeg % 10)
def own_ones : List Value := (List.range 100).map fun i => Value.int (Int32.ofNat (48 + i % 10))
theorem own_nn (p : Int32) : (-(-p)) = p := Int32.neg_neg
theorem own_onesAt {p : Int32} (h0 : ¬ p < 0) (h1 : p < (100 : Int32)) : own_ones.getD p.toNatClampNeg (.int (0 : Int32)) = .int (own_dig p) := by
  have t := nat_of h0
  have e1 : ((100 : Int32)).toInt = 100 := by decide
  rw [Int32.lt_iff_toInt_lt] at h1
  have hl : p.toNatClampNeg < 100 := by omega
  rw [own_ones, own_dig, List.getD_eq_getElem?_getD, List.getElem?_map, List.getElem?_range hl]
  rfl
theorem own_onesD {j : Nat} (hj : j < 100) : own_ones.getD j (.int (0 : Int32)) = .int (Int32.ofNat (48 + j % 10)) := by
  rw [own_ones, List.getD_eq_getElem?_getD, List.getElem?_map, List.getElem?_range hj]
  rfl
theorem own_dsum : ∀ j : Fin 100, (48 : Int32) + Int32.ofNat j.1 % 10 = Int32.ofNat (48 + j.1 % 10) := by decide
theorem own_dfit : ∀ j : Fin 100, fits .byte (.int (Int32.ofNat (48 + j.1 % 10))) = true := by decide
theorem own_digits {Z : State} {a0 : Array Value} {t : Term} (ht : ∀ idx, t.eval a0 Z none idx Z = t.eval a0 Z none [] Z) (wa : (Jvm.Cond.arrayClass .byte).before a0 Z = true) (h1 : (Jvm.Cond.exactly t "[B").before a0 Z = true) (h2 : (Jvm.Cond.eq (.length t) (.int (100 : Int32))).before a0 Z = true)
    (h3 : (Jvm.Cond.all t (.eq (.elem t (.index 0)) (.add (.int (48 : Int32)) (.rem (.index 0) (.int (10 : Int32)))))).before a0 Z = true) : ∃ dg k, t.eval a0 Z none [] Z = some (.ref dg) ∧ Arv Z Z.heap dg k .byte (100 : Int32) own_ones (.int (0 : Int32)) := by
  have hlen := Cond.eq_int h2 rfl
  obtain ⟨sd, SA, hev, harrAt, -⟩ := Term.length_spec hlen
  have h31 := Jvm.Free.SBG.length_lt hev harrAt hlen
  have hsz : SA.slots.size = 100 := by
    have e : (Term.length t).eval a0 Z none [] Z = some (.int (Int32.ofNat SA.slots.size)) := by simp [Term.eval, hev, harrAt, h31]
    have h4 : Int32.ofNat SA.slots.size = Int32.ofNat 100 := by simpa using Option.some.inj (e.symm.trans hlen)
    have := congrArg Int32.toInt h4
    rw [Int32.toInt_ofNat_small h31, Int32.toInt_ofNat_small (by omega)] at this; omega
  have hat : ∀ j, j < 100 → SA.slots[j]? = some (.int (Int32.ofNat (48 + j % 10))) := fun j hj => by
    have e0 := Cond.all_elim hev harrAt (Cond.before_iff.mp h3) j (by omega)
    have ev : t.eval a0 Z none [j] Z = some (.ref sd) := (ht _).trans hev
    have ei : (Term.index 0).eval a0 Z none [j] Z = some (.int (Int32.ofNat j)) := rfl
    have ee := Jvm.Free.SBG.elem_at (ix := .index 0) ev harrAt (by omega) h31 ei
    have er : (Term.add (.int (48 : Int32)) (.rem (.index 0) (.int (10 : Int32)))).eval a0 Z none [j] Z = some (.int (Int32.ofNat (48 + j % 10))) := by
      rw [← own_dsum ⟨j, hj⟩]; rfl
    obtain ⟨v, hv⟩ : ∃ v, SA.slots[j]? = some v := ⟨_, Array.getElem?_eq_getElem (by omega)⟩
    rw [hv] at ee
    simp only [Cond.value, ee, er] at e0
    rw [hv]
    cases v with
    | int x => rw [of_decide_eq_true (Option.some.inj e0)]
    | _ => simp at e0
  obtain ⟨a3, c3, cell3, k3, e1, e2, e3, e4, e5, e6, -⟩ := Cond.exactly_spec h1
  cases hev.symm.trans e1
  obtain ⟨c4, k4, comp, f1, f2, f3⟩ := Cond.arrayClass_spec wa
  obtain ⟨hc1, hc2, -⟩ := State.arrayAt?_spec harrAt
  cases hc1.symm.trans e3
  cases (show Z.vm.findClass "[B" = some c4 from f1).symm.trans e2
  have hA : Z.isArrayOf SA .byte := ⟨(fun q r => by rw [r] at e5; cases e5), k4, by rw [e6]; exact f2, comp, f3⟩
  refine ⟨sd, SA.cls, hev, SA, ⟨hc1, hA, hc2⟩, rfl, by rw [hsz]; rfl, by decide, fun j hj => ?_, fun j hj => ?_⟩
  · rw [own_onesD (by omega)]; exact hat j (by omega)
  · rw [own_onesD (by omega)]; exact own_dfit ⟨j, by omega⟩
def own_tens : List Value := (List.range 100).map fun i => Value.int (Int32.ofNat (48 + i / 10))
theorem own_tensD {j : Nat} (hj : j < 100) : own_tens.getD j z0 = .int (Int32.ofNat (48 + j / 10)) := by
  rw [own_tens, List.getD_eq_getElem?_getD, List.getElem?_map, List.getElem?_range hj]
  rfl
theorem own_ssB {p : Program} {e : Env} {R : Room} {s : State} {args : Array Value} {below : List Frame} {W : Nat} (l : Launch) (Z : State) (a0 : Array Value) (hw : ∀ d ∈ tables_1, d.before a0 Z = true) (p0 zs : Int32) (h0 : Heap) (n0 : Nat) (Z0 : n0 ≤ h0.size) (uZs : Jvm.Free.SBG.strSizeOf p0 = zs) (hZ : Z.Warmed39 s.vm)
    (wc : (Jvm.Cond.code Jvm.Free.SBG.StrSize.ssN Jvm.Free.SBG.StrSize.ssB 4 (some .int)).before a0 Z = true) (wz : (Jvm.Cond.initialized "java/lang/Integer").before a0 Z = true) (hf : 2 ≤ R.frames) (hl : W + 55 ≤ R.locals) :
    Back l R p e below s args Jvm.Free.SBG.StrSize.ssN 3 W (fun A a => a = #[.int p0] ∧ A.U.heap = h0 ∧ A.cells + 0 ≤ R.cells ∧ A.slots + 0 ≤ R.slots)
      (fun A _ v B => ∃ L, (v = some (.int zs) ∧ Fr n0 L ∧ B.U.heap = h0) ∧ B.locs = A.locs ++ L ∧ B.cells = A.cells + 0 ∧ B.slots = A.slots + 0) := fun m meth c A g ig mk a X hg hsize hd hW hn hpre => by
  obtain ⟨v, B, X', ⟨⟨q1, q2, q3, q4⟩, q5⟩, st⟩ := Jvm.Free.SBG.StrSize.pays (W := W) hf hl (mvT hZ wc) (mvT hZ wz) m meth c A g ig mk a X hg hsize hd hW hn ⟨hpre.2.2.1, hpre.2.2.2, p0, hpre.1⟩
  exact ⟨v, B, X', ⟨[], ⟨by rw [q5 p0 hpre.1, uZs], Fr.nil n0, q1.trans hpre.2.1⟩, by rw [q2, List.append_nil], q3, q4⟩, st⟩
/- what getChars leaves at 27 and on: the sign, the digits -/
def own_dgs (N s d : Nat) (nv : List Value) : Prop := (∀ j, j < s → nv.getD (27 + j) z0 = .int (45 : Int32)) ∧ ∀ i, i < d → nv.getD (27 + (d + s) - 1 - i) z0 = .int (Int32.ofNat (48 + N / 10 ^ i % 10))
theorem own_tbl {Z U : State} {h : Heap} {a0 : Array Value} {name : String} {d st : Addr} {k : ClassId} {f : Nat → Int32} {vs : List Value} (hal : Z.vm.Alike U.vm) (hh : U.heap = h) (S : Sta Z h "java/lang/Integer" name "[B" (.ref d)) (A : Arv Z h d k .byte (100 : Int32) vs z0) (hv : ∀ j, j < 100 → vs.getD j z0 = .int (f j))
    (wl : (Jvm.Cond.laysStatic "java/lang/Integer" name "[B").before a0 Z = true) (hst : ∀ c kc, Z.vm.findClass "java/lang/Integer" = some c → Z.vm.classes[c]? = some kc → kc.statics = some st) : ∃ D : Cell, Jvm.Free.SBG.Tbl U name st d D ∧ h[d]? = some D ∧ ∀ r, r < 100 → Jvm.Free.SBG.iAt D r = f r := by
  subst hh
  obtain ⟨cf, i, k1, f1, st1, cell, s1, s2, s3, s4, s5, s6, s7⟩ := S
  obtain ⟨D, ⟨A1, A2, A3⟩, A4, A5, A6, A7, A8⟩ := A
  have hsz : D.slots.size = 100 := A5.trans (by decide)
  have hat : ∀ r, r < 100 → D.slots[r]? = some (.int (f r)) := fun r hr => by rw [A7 r (by omega), hv r hr]
  have hi : ∀ r, r < 100 → Jvm.Free.SBG.iAt D r = f r := fun r hr => by
    have e : D.slots.getD r .null = .int (f r) := by rw [Array.getD_eq_getD_getElem?, hat r hr]; rfl
    simp [Jvm.Free.SBG.iAt, e]
  obtain ⟨c2, k2, i2, f2, a2, cell2, hc2, hf2, -⟩ := Cond.laysStatic_spec wl
  cases s1.symm.trans hf2
  have est : st1 = st := Option.some.inj (s4.symm.trans (hst _ _ hc2 (State.fieldFound?_spec s1).1))
  subst est
  obtain ⟨k4, y1, y2⟩ := State.fieldFound?_setVm (s := Z) hal s1
  refine ⟨D, ⟨cf, i, k4, f1, cell, y1, s2, by rw [y2]; exact s3, by rw [y2]; exact s4, s5, (fun q => by rw [q] at s6; cases s6), s7, A1, State.isArrayOf_alike hal A2, A3, hsz, fun r hr => by rw [hi r hr]; exact hat r hr⟩, A1, hi⟩
theorem own_outd {gg : Jvm.Free.SBG.GetChars.G} {sg d : Nat} (h1 : Jvm.Free.SBG.Ones gg.D1) (h2 : Jvm.Free.SBG.Tens gg.D2) (hn : gg.n ≤ 2 ^ 31) (hs : Jvm.Free.SBG.GetChars.sgn gg.x = sg) (hd : Jvm.Free.SBG.digits gg.n = d) (hi : gg.idx = 27 + (d + sg)) (hz : gg.idx ≤ gg.A.slots.size) :
    (∀ j, j < sg → (Jvm.Free.SBG.GetChars.outCell gg).slots[27 + j]? = some (vI 45)) ∧ ∀ i, i < d → (Jvm.Free.SBG.GetChars.outCell gg).slots[27 + (d + sg) - 1 - i]? = some (.int (Int32.ofNat (48 + gg.n / 10 ^ i % 10))) := by
  have hw := Jvm.Free.SBG.wN_digits hn
  obtain ⟨q1, q2⟩ := Jvm.Free.SBG.digLoop_at h1 h2 5 gg.A gg.n gg.idx (by omega) (by omega) hz
  obtain ⟨f1, f2, f3, f4⟩ := Jvm.Free.SBG.digLoop_facts gg.D1 gg.D2 5 gg.A gg.n gg.idx
  rw [hw, hd] at q1 f4
  rw [hi] at q1 f4
  by_cases hx : gg.x < 0
  · have e : sg = 1 := by rw [← hs]; simp [Jvm.Free.SBG.GetChars.sgn, hx]
    subst e
    have eo : Jvm.Free.SBG.GetChars.outCell gg = Jvm.Free.SBG.put (Jvm.Free.SBG.digLoop gg.D1 gg.D2 5 gg.A gg.n gg.idx).1 27 45 := by
      rw [Jvm.Free.SBG.GetChars.outCell, if_pos hx, hi, f4, show 27 + (d + 1) - d - 1 = 27 from by omega]
    rw [eo, hi]
    refine ⟨fun j hj => ?_, fun i hi' => ?_⟩
    · obtain rfl : j = 0 := by omega
      rw [Nat.add_zero, Jvm.Free.SBG.dgPutAt _ (by rw [← hi, f3]; omega)]
      rfl
    · rw [Jvm.Free.SBG.dgPutNe _ (by omega)]; exact q1 i hi'
  · have e : sg = 0 := by rw [← hs]; simp [Jvm.Free.SBG.GetChars.sgn, hx]
    subst e
    rw [Jvm.Free.SBG.GetChars.outCell, if_neg hx, hi]
    exact ⟨fun j hj => absurd hj (Nat.not_lt_zero _), q1⟩
theorem own_gcB {p : Program} {e : Env} {R : Room} {s : State} {args : Array Value} {below : List Frame} {W : Nat} (l : Launch) (Z : State) (a0 : Array Value) (hw : ∀ d ∈ tables_1, d.before a0 Z = true) (p0 p1 : Int32) (r2 : Addr) (kv : ClassId) (zv : Int32) (vv : List Value) (dg1 dg2 : Addr) (kd1 kd2 : ClassId) (N sg d : Nat) (h0 : Heap) (n0 : Nat) (Z0 : n0 ≤ h0.size)
    (uO : Old Z n0 h0) (uD : Sta Z Z.heap "java/lang/Integer" "DigitOnes" "[B" (.ref dg1)) (uDV : Arv Z Z.heap dg1 kd1 .byte (100 : Int32) own_ones z0) (uT : Sta Z Z.heap "java/lang/Integer" "DigitTens" "[B" (.ref dg2)) (uTV : Arv Z Z.heap dg2 kd2 .byte (100 : Int32) own_tens z0)
    (uL1 : (Jvm.Cond.laysStatic "java/lang/Integer" "DigitOnes" "[B").before a0 Z = true) (uL2 : (Jvm.Cond.laysStatic "java/lang/Integer" "DigitTens" "[B").before a0 Z = true) (uN : (if p0 < 0 then p0 else -p0) = Jvm.Free.SBG.negI N) (uNb : N ≤ 2 ^ 31) (usg : Jvm.Free.SBG.GetChars.sgn p0 = sg) (ud : Jvm.Free.SBG.digits N = d) (ui : Int32.ofNat (27 + (d + sg)) = p1)
    (uV : Arv Z h0 r2 kv .byte zv vv z0) (uR : 27 + (d + sg) ≤ zv.toNatClampNeg) (ug : n0 ≤ r2) (hZ : Z.Warmed39 s.vm) (wc : (Jvm.Cond.code Jvm.Free.SBG.GetChars.gcN Jvm.Free.SBG.GetChars.gcB 7 (some .int)).before a0 Z = true) (wz : (Jvm.Cond.initialized "java/lang/Integer").before a0 Z = true)
    (wf1 : (Jvm.Cond.fieldLink "java/lang/Integer" 83 "java/lang/Integer" "DigitOnes" "[B").before a0 Z = true) (wf2 : (Jvm.Cond.fieldLink "java/lang/Integer" 87 "java/lang/Integer" "DigitTens" "[B").before a0 Z = true) (hf : 2 ≤ R.frames) (hl : W + 78 ≤ R.locals) :
    Back l R p e below s args Jvm.Free.SBG.GetChars.gcN 3 W (fun A a => a = #[.int p0, .int p1, .ref r2] ∧ A.U.heap = h0 ∧ A.cells + 0 ≤ R.cells ∧ A.slots + 0 ≤ R.slots)
      (fun A _ v B => ∃ L, (∃ nv : List Value, (v = some (vI 27) ∧ Fr n0 L ∧ Keep h0 B.U.heap [r2] ∧ Arv Z B.U.heap r2 kv .byte zv nv z0 ∧ nv.length = zv.toNatClampNeg ∧ (∀ j, j < 27 → nv.getD j z0 = vv.getD j z0) ∧ own_dgs N sg d nv)) ∧ B.locs = A.locs ++ L ∧ B.cells = A.cells + 0 ∧ B.slots = A.slots + 0) := fun m meth c A g ig mk a X hg hsize hd hW hn hpre => by
  obtain ⟨ha, hh, hc, hs⟩ := hpre
  have hal : Z.vm.Alike A.U.vm := hZ.alike.trans X.warmed.alike
  obtain ⟨c2, k2, i2, f2, st, cell2, hc2, hf2, hst2, hsta, hcell2, hrest⟩ := Cond.laysStatic_spec uL1
  have hst : ∀ c kc, Z.vm.findClass "java/lang/Integer" = some c → Z.vm.classes[c]? = some kc → kc.statics = some st := fun c kc q1 q2 => by
    cases q1.symm.trans hc2
    cases q2.symm.trans (State.fieldFound?_spec hf2).1
    exact hsta
  obtain ⟨D1, T1, hd1, hi1⟩ := own_tbl (f := fun r => Int32.ofNat (48 + r % 10)) hal hh (uD.ext uO.2) (uDV.ext uO.2) (fun j hj => own_onesD hj) uL1 hst
  obtain ⟨D2, T2, hd2, hi2⟩ := own_tbl (f := fun r => Int32.ofNat (48 + r / 10)) hal hh (uT.ext uO.2) (uTV.ext uO.2) (fun j hj => own_tensD hj) uL2 hst
  obtain ⟨cl, ⟨v1, v2, v3⟩, v4, v5, v6, v7, v8⟩ := uV
  have hzb : zv.toNatClampNeg < 2 ^ 31 := by have := Int32.toInt_lt zv; simp only [Int32.toNatClampNeg]; omega
  have lt1 : st < n0 := by rw [← uO.1]; exact (Array.getElem?_eq_some_iff.mp hcell2).1
  have lt2 : dg1 < n0 := by rw [← uO.1]; exact uDV.lt
  have lt3 : dg2 < n0 := by rw [← uO.1]; exact uTV.lt
  have hby : ∀ i, i < cl.slots.size → fits .byte (cl.slots.getD i .null) = true := fun i hi => by
    have e1 : cl.slots.getD i .null = vv.getD i z0 := by rw [Array.getD_eq_getD_getElem?, v7 i hi]; rfl
    rw [e1]; exact v8 i hi
  obtain ⟨v, B, X', ⟨q1, q2, q3, q4, q5, q6, L, q7, q8⟩, stp⟩ := Jvm.Free.SBG.GetChars.pays ⟨p0, N, 27 + (d + sg), r2, cl, st, dg1, D1, dg2, D2⟩ W (by
      show (Jvm.Cond.and _ (Jvm.Cond.and _ _)).before args s = true
      rw [Cond.before_and, Cond.before_and, mvT hZ wc, show (Jvm.Cond.fieldLink Jvm.Free.SBG.INT 83 Jvm.Free.SBG.INT "DigitOnes" "[B").before args s = true from mvT hZ wf1, show (Jvm.Cond.fieldLink Jvm.Free.SBG.INT 87 Jvm.Free.SBG.INT "DigitTens" "[B").before args s = true from mvT hZ wf2]; rfl) (mvT hZ wz) hf hl m meth c A g ig mk a X hg hsize hd hW hn
    ⟨by rw [ha, ← ui], hc, hs, by rw [ha, ← ui], by show A.U.heap[r2]? = some cl; rw [hh]; exact v1, State.isArrayOf_alike hal v2, v3, by show cl.slots.size < _; omega, by show 27 + (d + sg) ≤ cl.slots.size; omega, by show Jvm.Free.SBG.digits N + Jvm.Free.SBG.GetChars.sgn p0 ≤ 27 + (d + sg); omega, uNb, uN, T1, T2, Nat.ne_of_gt (Nat.lt_of_lt_of_le lt1 ug), Nat.ne_of_gt (Nat.lt_of_lt_of_le lt2 ug), Nat.ne_of_gt (Nat.lt_of_lt_of_le lt3 ug)⟩
  dsimp only at q1 q2 q6 q8
  have hod := own_outd (gg := ⟨p0, N, 27 + (d + sg), r2, cl, st, dg1, D1, dg2, D2⟩) (sg := sg) (d := d) (fun r hr => hi1 r hr) (fun r hr => hi2 r hr) uNb usg ud rfl (by show 27 + (d + sg) ≤ cl.slots.size; omega)
  obtain ⟨o1, o2, o3, o4, o5⟩ := Jvm.Free.SBG.GetChars.outCell_facts ⟨p0, N, 27 + (d + sg), r2, cl, st, dg1, D1, dg2, D2⟩ uNb (by show Jvm.Free.SBG.digits N + Jvm.Free.SBG.GetChars.sgn p0 ≤ 27 + (d + sg); omega) hby
  generalize Jvm.Free.SBG.GetChars.outCell ⟨p0, N, 27 + (d + sg), r2, cl, st, dg1, D1, dg2, D2⟩ = O at *
  dsimp only at o1 o2 o3 o5 hod
  have gD : ∀ j, O.slots.toList.getD j z0 = (O.slots[j]?).getD z0 := fun j => by rw [List.getD_eq_getElem?_getD, Array.getElem?_toList]
  have hO : O.slots.size = zv.toNatClampNeg := o3.trans v5
  refine ⟨v, B, X', ⟨L, ⟨O.slots.toList, ?_, fun y hy => by rw [q8 y hy]; exact ug, ⟨by rw [q5, hh]; exact Nat.le_refl _, fun x c q ne => q6 x c (by simpa using ne) (by rw [hh]; exact q), fun x c q => ?_⟩, ⟨O, ⟨q2, ?_, by rw [o2]; exact v3⟩, o1.trans v4, hO, v6, fun i hi => ?_, fun i hi => ?_⟩, ?_, fun j hj => ?_, fun j hj => ?_, fun i hi => ?_⟩, q7, q3, q4⟩, stp⟩
  · rw [q1, show 27 + (d + sg) - (Jvm.Free.SBG.digits N + Jvm.Free.SBG.GetChars.sgn p0) = 27 from by omega]; rfl
  · by_cases hx : x = r2
    · subst hx
      cases v1.symm.trans q
      exact ⟨O, q2, o1, o2, o3⟩
    · exact ⟨c, q6 x c hx (by rw [hh]; exact q), rfl, rfl, rfl⟩
  · obtain ⟨r1, kx, r2', r3⟩ := v2
    exact ⟨fun q e => r1 q (by rw [← o2]; exact e), kx, by rw [o1]; exact r2', r3⟩
  · rw [gD, Array.getElem?_eq_getElem hi]; rfl
  · have := o4 i hi
    rwa [show O.slots.getD i .null = O.slots.toList.getD i z0 from by rw [gD, Array.getD_eq_getD_getElem?, Array.getElem?_eq_getElem hi]; rfl] at this
  · rw [Array.length_toList]; exact hO
  · rw [gD, o5 j (Or.inl (by omega)), v7 j (by omega)]; rfl
  · rw [gD, hod.1 j hj]; rfl
  · rw [gD, hod.2 i hi]; rfl
def own_pre : List Int32 := [84, 104, 101, 32, 112, 97, 121, 108, 111, 97, 100, 32, 105, 115, 32, 108, 97, 114, 103, 101, 114, 32, 116, 104, 97, 110, 32]
def own_suf : List Int32 := [32, 98, 121, 116, 101, 115]
def own_ch (N s d j : Nat) : Int32 := if j < 27 then own_pre.getD j 0 else if j < 27 + s then 45 else if j < 27 + (d + s) then Int32.ofNat (48 + N / 10 ^ (27 + (d + s) - 1 - j) % 10) else own_suf.getD (j - (27 + (d + s))) 0
def own_cs (N s d : Nat) : List Int32 := (List.range (33 + (d + s))).map (own_ch N s d)
theorem own_cslen (N s d : Nat) : (own_cs N s d).length = 33 + (d + s) := by simp [own_cs]
theorem own_csat {N s d j : Nat} (h : j < 33 + (d + s)) : (own_cs N s d).getD j 0 = own_ch N s d j := by
  rw [own_cs, List.getD_eq_getElem?_getD, List.getElem?_map, List.getElem?_range h]; rfl
theorem own_dgb : ∀ k : Fin 10, ¬ Int32.ofNat (48 + k.1) < 0 ∧ ¬ (255 : Int32) < Int32.ofNat (48 + k.1) := by decide
theorem own_preb : ∀ k : Fin 27, ¬ own_pre.getD k.1 0 < 0 ∧ ¬ (255 : Int32) < own_pre.getD k.1 0 := by decide
theorem own_sufb : ∀ k : Fin 6, ¬ own_suf.getD k.1 0 < 0 ∧ ¬ (255 : Int32) < own_suf.getD k.1 0 := by decide
theorem own_chb {N s d j : Nat} (h : j < 33 + (d + s)) : ¬ own_ch N s d j < 0 ∧ ¬ (255 : Int32) < own_ch N s d j := by
  unfold own_ch
  by_cases h1 : j < 27
  · rw [if_pos h1]; exact own_preb ⟨j, h1⟩
  · rw [if_neg h1]
    by_cases h2 : j < 27 + s
    · rw [if_pos h2]; decide
    · rw [if_neg h2]
      by_cases h3 : j < 27 + (d + s)
      · rw [if_pos h3]; exact own_dgb ⟨_, Nat.mod_lt _ (by decide)⟩
      · rw [if_neg h3]; exact own_sufb ⟨j - (27 + (d + s)), by omega⟩
theorem own_csb (N s d : Nat) : ∀ c ∈ own_cs N s d, ¬ c < 0 ∧ ¬ (255 : Int32) < c := by
  intro c hc
  rw [own_cs, List.mem_map] at hc
  obtain ⟨j, hj, rfl⟩ := hc
  exact own_chb (List.mem_range.mp hj)
theorem own_dg8 : ∀ k : Fin 10, (Int32.ofNat (48 + k.1)).toInt8.toInt32 = Int32.ofNat (48 + k.1) := by decide
theorem own_pre8 : ∀ k : Fin 27, (own_pre.getD k.1 0).toInt8.toInt32 = own_pre.getD k.1 0 := by decide
theorem own_suf8 : ∀ k : Fin 6, (own_suf.getD k.1 0).toInt8.toInt32 = own_suf.getD k.1 0 := by decide
theorem own_ch8 {N s d j : Nat} (h : j < 33 + (d + s)) : (own_ch N s d j).toInt8.toInt32 = own_ch N s d j := by
  unfold own_ch
  by_cases h1 : j < 27
  · rw [if_pos h1]; exact own_pre8 ⟨j, h1⟩
  · rw [if_neg h1]
    by_cases h2 : j < 27 + s
    · rw [if_pos h2]; decide
    · rw [if_neg h2]
      by_cases h3 : j < 27 + (d + s)
      · rw [if_pos h3]; exact own_dg8 ⟨_, Nat.mod_lt _ (by decide)⟩
      · rw [if_neg h3]; exact own_suf8 ⟨j - (27 + (d + s)), by omega⟩
abbrev own_V (cs : List Int32) : List Value := (cs.map (fun c => c.toInt8.toInt32)).map Value.int
theorem own_VD {N s d j : Nat} (h : j < 33 + (d + s)) : (own_V (own_cs N s d)).getD j z0 = .int (own_ch N s d j) := by
  rw [List.getD_eq_getElem?_getD, List.getElem?_map, List.getElem?_map, own_cs, List.getElem?_map, List.getElem?_range h]
  exact congrArg Value.int (own_ch8 h)
theorem own_VO {N s d j : Nat} (h : 33 + (d + s) ≤ j) : (own_V (own_cs N s d)).getD j z0 = .int (0 : Int32) := by
  rw [List.getD_eq_getElem?_getD, List.getElem?_eq_none (by simp [own_cslen]; omega)]; rfl
theorem own_body {N s d : Nat} {B : List Value} (h1 : ∀ j, j < 27 → B.getD j z0 = .int (own_pre.getD j 0)) (h2 : ∀ j, j < s → B.getD (27 + j) z0 = .int 45)
    (h3 : ∀ i, i < d → B.getD (27 + (d + s) - 1 - i) z0 = .int (Int32.ofNat (48 + N / 10 ^ i % 10))) (h4 : ∀ j, j < 6 → B.getD (27 + (d + s) + j) z0 = .int (own_suf.getD j 0)) :
    ∀ j, j < 33 + (d + s) → B.getD j z0 = .int (own_ch N s d j) := by
  intro j h
  unfold own_ch
  by_cases g1 : j < 27
  · rw [if_pos g1]; exact h1 j g1
  · rw [if_neg g1]
    by_cases g2 : j < 27 + s
    · rw [if_pos g2]; have := h2 (j - 27) (by omega); rwa [show 27 + (j - 27) = j from by omega] at this
    · rw [if_neg g2]
      by_cases g3 : j < 27 + (d + s)
      · rw [if_pos g3]; have := h3 (27 + (d + s) - 1 - j) (by omega); rwa [show 27 + (d + s) - 1 - (27 + (d + s) - 1 - j) = j from by omega] at this
      · rw [if_neg g3]; have := h4 (j - (27 + (d + s))) (by omega); rwa [show 27 + (d + s) + (j - (27 + (d + s))) = j from by omega] at this
theorem own_mapD {f : Nat → Value} {n j : Nat} (h : j < n) : ((List.range n).map f)[j]? = some (f j) := by
  rw [List.getElem?_map, List.getElem?_range h]; rfl
theorem own_cutD {n j : Nat} {vv : List Value} (h : j < n) : (own_cut n vv).getD j z0 = vv.getD j z0 := by
  rw [own_cut, List.getD_eq_getElem?_getD, own_mapD h, Nat.zero_add]; rfl
theorem own_cutO {n j : Nat} {vv : List Value} (h : n ≤ j) : (own_cut n vv).getD j z0 = .int (0 : Int32) := by
  rw [own_cut, List.getD_eq_getElem?_getD, List.getElem?_eq_none (by simpa using h)]; rfl
theorem own_growD {c n j : Nat} {vv : List Value} (h : j < c) : (own_grow c n vv).getD j z0 = vv.getD j z0 := by
  rw [own_grow, List.getD_eq_getElem?_getD, List.getElem?_append_left (by simpa using h), own_mapD h]; rfl
theorem own_putA {a b j : Nat} {vd vt : List Value} (h : a + b ≤ vd.length) (hj : j < a ∨ a + b ≤ j) : (own_put a b vd vt).getD j z0 = vd.getD j z0 := by
  rw [own_put, List.getD_eq_getElem?_getD, List.getD_eq_getElem?_getD]
  rcases hj with hj | hj
  · rw [List.getElem?_append_left (by simp; omega), List.getElem?_append_left (by simp; omega), List.getElem?_take_of_lt hj]
  · rw [List.getElem?_append_right (by simp; omega), List.getElem?_drop]
    congr 2
    simp only [List.length_append, List.length_take, List.length_map, List.length_range]; omega
theorem own_putB {a b j : Nat} {vd vt : List Value} (h : a + b ≤ vd.length) (h1 : a ≤ j) (h2 : j < a + b) : (own_put a b vd vt).getD j z0 = vt.getD (j - a) z0 := by
  rw [own_put, List.getD_eq_getElem?_getD, List.getElem?_append_left (by simp; omega), List.getElem?_append_right (by simp; omega), own_mapD (by simp; omega)]
  show List.getD vt _ _ = _
  congr 1
  simp only [List.length_take]; omega
theorem own_mi (l : List Int32) (j : Nat) : (l.map Value.int).getD j z0 = .int (l.getD j 0) := by
  rw [List.getD_eq_getElem?_getD, List.getElem?_map, List.getD_eq_getElem?_getD]
  cases l[j]? <;> rfl
theorem own_preV : ([(vI 84), (vI 104), (vI 101), (vI 32), (vI 112), (vI 97), (vI 121), (vI 108), (vI 111), (vI 97), (vI 100), (vI 32), (vI 105), (vI 115), (vI 32), (vI 108), (vI 97), (vI 114), (vI 103), (vI 101), (vI 114), (vI 32), (vI 116), (vI 104), (vI 97), (vI 110), (vI 32)] : List Value) = own_pre.map Value.int := rfl
theorem own_sufV : ([(vI 32), (vI 98), (vI 121), (vI 116), (vI 101), (vI 115)] : List Value) = own_suf.map Value.int := rfl
theorem own_growlen (c n : Nat) (vv : List Value) (h : c ≤ n) : (own_grow c n vv).length = n := by
  simp only [own_grow, List.length_append, List.length_map, List.length_range, List.length_replicate]; omega
theorem own_n1D {j : Nat} (hj : j < 27) : (own_put 0 27 (own_grow 16 34 [z0, z0, z0, z0, z0, z0, z0, z0, z0, z0, z0, z0, z0, z0, z0, z0]) [(vI 84), (vI 104), (vI 101), (vI 32), (vI 112), (vI 97), (vI 121), (vI 108), (vI 111), (vI 97), (vI 100), (vI 32), (vI 105), (vI 115), (vI 32), (vI 108), (vI 97), (vI 114), (vI 103), (vI 101), (vI 114), (vI 32), (vI 116), (vI 104), (vI 97), (vI 110), (vI 32)]).getD j z0 = .int (own_pre.getD j 0) := by
  rw [own_putB (by rw [own_growlen 16 34 _ (by decide)]; decide) (Nat.zero_le _) (by omega), own_preV, own_mi, Nat.sub_zero]
theorem own_mid {N sg d a : Nat} {B nv : List Value} (ha : a = 27 + (d + sg)) (hl : a + 6 ≤ nv.length) (h1 : ∀ j, j < 27 → nv.getD j z0 = .int (own_pre.getD j 0)) (h2 : own_dgs N sg d nv) (hB : B = own_put a 6 nv [(vI 32), (vI 98), (vI 121), (vI 116), (vI 101), (vI 115)]) : ∀ j, j < 33 + (d + sg) → B.getD j z0 = .int (own_ch N sg d j) := by
  subst hB ha
  refine own_body (fun j hj => ?_) (fun j hj => ?_) (fun i hi => ?_) (fun j hj => ?_)
  · rw [own_putA hl (Or.inl (by omega))]; exact h1 j hj
  · rw [own_putA hl (Or.inl (by omega))]; exact h2.1 j hj
  · rw [own_putA hl (Or.inl (by omega))]; exact h2.2 i hi
  · rw [own_putB hl (by omega) (by omega), own_sufV, own_mi, show 27 + (d + sg) + j - (27 + (d + sg)) = j from by omega]
theorem own_finA {Z : State} {h : Heap} {t : Addr} {k : ClassId} {N sg d : Nat} {n1 n2 : Int32} {nv nv1 : List Value} (V : Arv Z h t k .byte (34 : Int32) (own_put n1.toNatClampNeg (6 : Int32).toNatClampNeg nv [(vI 32), (vI 98), (vI 121), (vI 116), (vI 101), (vI 115)]) z0) (e1 : nv1 = own_put 0 27 (own_grow 16 34 [z0, z0, z0, z0, z0, z0, z0, z0, z0, z0, z0, z0, z0, z0, z0, z0]) [(vI 84), (vI 104), (vI 101), (vI 32), (vI 112), (vI 97), (vI 121), (vI 108), (vI 111), (vI 97), (vI 100), (vI 32), (vI 105), (vI 115), (vI 32), (vI 108), (vI 97), (vI 114), (vI 103), (vI 101), (vI 114), (vI 32), (vI 116), (vI 104), (vI 97), (vI 110), (vI 32)]) (e2 : nv.length = (34 : Int32).toNatClampNeg)
    (e3 : ∀ j, j < 27 → nv.getD j z0 = nv1.getD j z0) (e4 : own_dgs N sg d nv) (uML : n2 = Int32.ofNat (33 + (d + sg))) (hA : ¬ ((0 : Int32) < (n1 - (34 : Int32))) ∧ 27 + (d + sg) ≤ (34 : Int32).toNatClampNeg ∧ ¬ ((0 : Int32) < (n2 - (34 : Int32))) ∧ ¬ n1 < 0 ∧ n1.toNatClampNeg + (6 : Int32).toNatClampNeg ≤ (34 : Int32).toNatClampNeg ∧ n2 = (34 : Int32) ∧ n1.toNatClampNeg = 27 + (d + sg) ∧ d + sg = 1) : Arv Z h t k .byte (Int32.ofNat (own_cs N sg d).length) (own_V (own_cs N sg d)) z0 := by
  obtain ⟨-, -, -, -, g5, -, g7, g8⟩ := hA
  have e6 : (6 : Int32).toNatClampNeg = 6 := by decide
  have e34 : (34 : Int32).toNatClampNeg = 34 := by decide
  rw [e6] at V
  have hb := own_mid (N := N) (B := own_put n1.toNatClampNeg 6 nv [(vI 32), (vI 98), (vI 121), (vI 116), (vI 101), (vI 115)]) g7 (by omega) (fun j hj => by rw [e3 j hj, e1]; exact own_n1D hj) e4 rfl
  have hl := own_putlen (vt := [(vI 32), (vI 98), (vI 121), (vI 116), (vI 101), (vI 115)]) (a := n1.toNatClampNeg) (b := 6) (e2.trans e34) (by omega)
  have ez : (34 : Int32) = Int32.ofNat (own_cs N sg d).length := by rw [own_cslen, g8]; rfl
  rw [← ez]
  refine V.pad fun i => ?_
  by_cases hi : i < 33 + (d + sg)
  · rw [own_VD hi, hb i hi]
  · rw [own_VO (by omega), List.getD_eq_getElem?_getD, List.getElem?_eq_none (by omega)]; rfl
theorem own_finB {Z : State} {h : Heap} {t : Addr} {k : ClassId} {N sg d : Nat} {n1 n2 : Int32} {nv nv1 : List Value} (V : Arv Z h t k .byte n2 (own_cut n2.toNatClampNeg (own_put n1.toNatClampNeg (6 : Int32).toNatClampNeg (own_grow 34 70 nv) [(vI 32), (vI 98), (vI 121), (vI 116), (vI 101), (vI 115)])) z0) (e1 : nv1 = own_put 0 27 (own_grow 16 34 [z0, z0, z0, z0, z0, z0, z0, z0, z0, z0, z0, z0, z0, z0, z0, z0]) [(vI 84), (vI 104), (vI 101), (vI 32), (vI 112), (vI 97), (vI 121), (vI 108), (vI 111), (vI 97), (vI 100), (vI 32), (vI 105), (vI 115), (vI 32), (vI 108), (vI 97), (vI 114), (vI 103), (vI 101), (vI 114), (vI 32), (vI 116), (vI 104), (vI 97), (vI 110), (vI 32)]) (e2 : nv.length = (34 : Int32).toNatClampNeg)
    (e3 : ∀ j, j < 27 → nv.getD j z0 = nv1.getD j z0) (e4 : own_dgs N sg d nv) (uML : n2 = Int32.ofNat (33 + (d + sg))) (hB : ¬ ((0 : Int32) < (n1 - (34 : Int32))) ∧ 27 + (d + sg) ≤ (34 : Int32).toNatClampNeg ∧ (0 : Int32) < (n2 - (34 : Int32)) ∧ (n2 - (34 : Int32)) < (36 : Int32) ∧ ¬ n1 < 0 ∧ n1.toNatClampNeg + (6 : Int32).toNatClampNeg ≤ (70 : Int32).toNatClampNeg ∧ ¬ n2 < 0 ∧ n2 < (70 : Int32) ∧ n2.toNatClampNeg ≤ (70 : Int32).toNatClampNeg ∧ n2.toNatClampNeg ≤ 64 ∧ n1.toNatClampNeg = 27 + (d + sg) ∧ n2.toNatClampNeg = 33 + (d + sg) ∧ 27 + (d + sg) ≤ 34) : Arv Z h t k .byte (Int32.ofNat (own_cs N sg d).length) (own_V (own_cs N sg d)) z0 := by
  obtain ⟨-, -, -, -, -, -, -, -, -, -, g1, g2, g3⟩ := hB
  have e6 : (6 : Int32).toNatClampNeg = 6 := by decide
  rw [e6] at V
  have hb := own_mid (N := N) (sg := sg) (d := d) (B := own_put n1.toNatClampNeg 6 (own_grow 34 70 nv) [(vI 32), (vI 98), (vI 121), (vI 116), (vI 101), (vI 115)]) g1 (by rw [own_growlen 34 70 _ (by decide)]; omega) (fun j hj => by rw [own_growD (by omega), e3 j hj, e1]; exact own_n1D hj) ⟨fun j hj => by rw [own_growD (by omega)]; exact e4.1 j hj, fun i hi => by rw [own_growD (by omega)]; exact e4.2 i hi⟩ rfl
  rw [own_cslen, ← uML]
  refine V.pad fun i => ?_
  by_cases hi : i < 33 + (d + sg)
  · rw [own_VD hi, own_cutD (by omega), hb i hi]
  · rw [own_VO (by omega), own_cutO (by omega)]
theorem own_finC {Z : State} {h : Heap} {t : Addr} {k : ClassId} {N sg d : Nat} {n1 n2 : Int32} {nv nv1 : List Value} (V : Arv Z h t k .byte n2 (own_cut n2.toNatClampNeg (own_put n1.toNatClampNeg (6 : Int32).toNatClampNeg nv [(vI 32), (vI 98), (vI 121), (vI 116), (vI 101), (vI 115)])) z0) (e1 : nv1 = own_put 0 27 (own_grow 16 34 [z0, z0, z0, z0, z0, z0, z0, z0, z0, z0, z0, z0, z0, z0, z0, z0]) [(vI 84), (vI 104), (vI 101), (vI 32), (vI 112), (vI 97), (vI 121), (vI 108), (vI 111), (vI 97), (vI 100), (vI 32), (vI 105), (vI 115), (vI 32), (vI 108), (vI 97), (vI 114), (vI 103), (vI 101), (vI 114), (vI 32), (vI 116), (vI 104), (vI 97), (vI 110), (vI 32)]) (e2 : nv.length = (70 : Int32).toNatClampNeg)
    (e3 : ∀ j, j < 27 → nv.getD j z0 = (own_grow 34 70 nv1).getD j z0) (e4 : own_dgs N sg d nv) (uML : n2 = Int32.ofNat (33 + (d + sg))) (hC : (0 : Int32) < (n1 - (34 : Int32)) ∧ (n1 - (34 : Int32)) < (36 : Int32) ∧ 27 + (d + sg) ≤ (70 : Int32).toNatClampNeg ∧ ¬ ((0 : Int32) < (n2 - (70 : Int32))) ∧ ¬ n1 < 0 ∧ n1.toNatClampNeg + (6 : Int32).toNatClampNeg ≤ (70 : Int32).toNatClampNeg ∧ ¬ n2 < 0 ∧ n2 < (70 : Int32) ∧ n2.toNatClampNeg ≤ (70 : Int32).toNatClampNeg ∧ n2.toNatClampNeg ≤ 64 ∧ n1.toNatClampNeg = 27 + (d + sg) ∧ n2.toNatClampNeg = 33 + (d + sg) ∧ 33 + (d + sg) ≤ 64) : Arv Z h t k .byte (Int32.ofNat (own_cs N sg d).length) (own_V (own_cs N sg d)) z0 := by
  obtain ⟨-, -, g0, -, -, g6, -, -, -, -, g1, g2, g3⟩ := hC
  have e6 : (6 : Int32).toNatClampNeg = 6 := by decide
  rw [e6] at V g6
  have hb := own_mid (N := N) (B := own_put n1.toNatClampNeg 6 nv [(vI 32), (vI 98), (vI 121), (vI 116), (vI 101), (vI 115)]) g1 (by omega) (fun j hj => by rw [e3 j hj, own_growD (by omega), e1]; exact own_n1D hj) e4 rfl
  rw [own_cslen, ← uML]
  refine V.pad fun i => ?_
  by_cases hi : i < 33 + (d + sg)
  · rw [own_VD hi, own_cutD (by omega), hb i hi]
  · rw [own_VO (by omega), own_cutO (by omega)]
def own_nd (q : Int64) : Int32 := if lcmpW q (10 : Int64) < (0 : Int32) then 1 else if lcmpW q (100 : Int64) < (0 : Int32) then 2 else if lcmpW q (1000 : Int64) < (0 : Int32) then 3 else if lcmpW q (10000 : Int64) < (0 : Int32) then 4 else if lcmpW q (100000 : Int64) < (0 : Int32) then 5 else if lcmpW q (1000000 : Int64) < (0 : Int32) then 6 else if lcmpW q (10000000 : Int64) < (0 : Int32) then 7 else if lcmpW q (100000000 : Int64) < (0 : Int32) then 8 else if lcmpW q (1000000000 : Int64) < (0 : Int32) then 9 else 10
def own_dch (q p : Int64) : Int32 := ((48 : Int32) + (((q / p) - (q / p) / (10 : Int64) * (10 : Int64)).toInt32)).toUInt32.toUInt16.toUInt32.toInt32
def own_okd (N sg d : Nat) (vT : Int32) (qa : Int64) (nd : Int32) (i : Nat) : Prop := (Int32.ofNat i < nd → ((vT - (7 : Int32)) - Int32.ofNat i) = Int32.ofNat (27 + (d + sg) - 1 - i)) ∧ (Int32.ofNat i < nd → 27 + (d + sg) - 1 - i < (own_cs N sg d).length) ∧ (Int32.ofNat i < nd → (own_cs N sg d).getD (27 + (d + sg) - 1 - i) 0 = own_dch qa (Int64.ofNat (10 ^ i)))
theorem own_il {N sg d i : Nat} (h : i < 33) : i < (own_cs N sg d).length := by rw [own_cslen]; omega
theorem own_il2 {N sg d m : Nat} (h : m < 6) : 27 + (d + sg) + m < (own_cs N sg d).length := by rw [own_cslen]; omega
theorem own_cp {N sg d j : Nat} (h : j < 27) : (own_cs N sg d).getD j 0 = own_pre.getD j 0 := by rw [own_csat (by omega), own_ch, if_pos h]
theorem own_cs2 {N sg d m : Nat} (h : m < 6) : (own_cs N sg d).getD (27 + (d + sg) + m) 0 = own_suf.getD m 0 := by
  rw [own_csat (by omega), own_ch, if_neg (by omega), if_neg (by omega), if_neg (by omega), show 27 + (d + sg) + m - (27 + (d + sg)) = m from by omega]
theorem own_c27 {N sg d : Nat} (h : sg = 1) : (own_cs N sg d).getD 27 0 = (45 : Int32) := by
  subst h; rw [own_csat (by omega), own_ch, if_neg (by omega), if_pos (by omega)]
theorem own_hpP : ∀ c ∈ ([84, 104, 101, 32, 112, 97, 121, 108, 111, 97, 100, 32, 105, 115, 32, 108, 97, 114, 103, 101, 114, 32, 116, 104, 97, 110, 32] : List Int32), ¬ c < 0 ∧ ¬ (255 : Int32) < c := by decide
theorem own_hpS : ∀ c ∈ ([32, 98, 121, 116, 101, 115] : List Int32), ¬ c < 0 ∧ ¬ (255 : Int32) < c := by decide
theorem own_tsum : ∀ j : Fin 100, (48 : Int32) + Int32.ofNat j.1 / 10 = Int32.ofNat (48 + j.1 / 10) := by decide
theorem own_tfit : ∀ j : Fin 100, fits .byte (.int (Int32.ofNat (48 + j.1 / 10))) = true := by decide
theorem own_digits2 {Z : State} {a0 : Array Value} {t : Term} (ht : ∀ idx, t.eval a0 Z none idx Z = t.eval a0 Z none [] Z) (wa : (Jvm.Cond.arrayClass .byte).before a0 Z = true) (h1 : (Jvm.Cond.exactly t "[B").before a0 Z = true) (h2 : (Jvm.Cond.eq (.length t) (.int (100 : Int32))).before a0 Z = true)
    (h3 : (Jvm.Cond.all t (.eq (.elem t (.index 0)) (.add (.int (48 : Int32)) (.div (.index 0) (.int (10 : Int32)))))).before a0 Z = true) : ∃ dg k, t.eval a0 Z none [] Z = some (.ref dg) ∧ Arv Z Z.heap dg k .byte (100 : Int32) own_tens (.int (0 : Int32)) := by
  have hlen := Cond.eq_int h2 rfl
  obtain ⟨sd, SA, hev, harrAt, -⟩ := Term.length_spec hlen
  have h31 := Jvm.Free.SBG.length_lt hev harrAt hlen
  have hsz : SA.slots.size = 100 := by
    have e : (Term.length t).eval a0 Z none [] Z = some (.int (Int32.ofNat SA.slots.size)) := by simp [Term.eval, hev, harrAt, h31]
    have h4 : Int32.ofNat SA.slots.size = Int32.ofNat 100 := by simpa using Option.some.inj (e.symm.trans hlen)
    have := congrArg Int32.toInt h4
    rw [Int32.toInt_ofNat_small h31, Int32.toInt_ofNat_small (by omega)] at this; omega
  have hat : ∀ j, j < 100 → SA.slots[j]? = some (.int (Int32.ofNat (48 + j / 10))) := fun j hj => by
    have e0 := Cond.all_elim hev harrAt (Cond.before_iff.mp h3) j (by omega)
    have ev : t.eval a0 Z none [j] Z = some (.ref sd) := (ht _).trans hev
    have ei : (Term.index 0).eval a0 Z none [j] Z = some (.int (Int32.ofNat j)) := rfl
    have ee := Jvm.Free.SBG.elem_at (ix := .index 0) ev harrAt (by omega) h31 ei
    have er : (Term.add (.int (48 : Int32)) (.div (.index 0) (.int (10 : Int32)))).eval a0 Z none [j] Z = some (.int (Int32.ofNat (48 + j / 10))) := by
      rw [← own_tsum ⟨j, hj⟩]; rfl
    obtain ⟨v, hv⟩ : ∃ v, SA.slots[j]? = some v := ⟨_, Array.getElem?_eq_getElem (by omega)⟩
    rw [hv] at ee
    simp only [Cond.value, ee, er] at e0
    rw [hv]
    cases v with
    | int x => rw [of_decide_eq_true (Option.some.inj e0)]
    | _ => simp at e0
  obtain ⟨a3, c3, cell3, k3, e1, e2, e3, e4, e5, e6, -⟩ := Cond.exactly_spec h1
  cases hev.symm.trans e1
  obtain ⟨c4, k4, comp, f1, f2, f3⟩ := Cond.arrayClass_spec wa
  obtain ⟨hc1, hc2, -⟩ := State.arrayAt?_spec harrAt
  cases hc1.symm.trans e3
  cases (show Z.vm.findClass "[B" = some c4 from f1).symm.trans e2
  have hA : Z.isArrayOf SA .byte := ⟨(fun q r => by rw [r] at e5; cases e5), k4, by rw [e6]; exact f2, comp, f3⟩
  refine ⟨sd, SA.cls, hev, SA, ⟨hc1, hA, hc2⟩, rfl, by rw [hsz]; rfl, by decide, fun j hj => ?_, fun j hj => ?_⟩
  · rw [own_tensD (by omega)]; exact hat j (by omega)
  · rw [own_tensD (by omega)]; exact own_tfit ⟨j, by omega⟩
theorem own_c3 {k : Nat} (h1 : 1 ≤ k) (h2 : k ≤ 11) : ((¬ ((0 : Int32) < (((27 : Int32) + Int32.ofNat k) - (34 : Int32))) ∧ 27 + k ≤ (34 : Int32).toNatClampNeg ∧ ¬ ((0 : Int32) < ((((27 : Int32) + Int32.ofNat k) + (6 : Int32)) - (34 : Int32))) ∧ ¬ ((27 : Int32) + Int32.ofNat k) < 0 ∧ ((27 : Int32) + Int32.ofNat k).toNatClampNeg + (6 : Int32).toNatClampNeg ≤ (34 : Int32).toNatClampNeg ∧ (((27 : Int32) + Int32.ofNat k) + (6 : Int32)) = (34 : Int32) ∧ ((27 : Int32) + Int32.ofNat k).toNatClampNeg = 27 + k ∧ k = 1) ∨ (¬ ((0 : Int32) < (((27 : Int32) + Int32.ofNat k) - (34 : Int32))) ∧ 27 + k ≤ (34 : Int32).toNatClampNeg ∧ (0 : Int32) < ((((27 : Int32) + Int32.ofNat k) + (6 : Int32)) - (34 : Int32)) ∧ ((((27 : Int32) + Int32.ofNat k) + (6 : Int32)) - (34 : Int32)) < (36 : Int32) ∧ ¬ ((27 : Int32) + Int32.ofNat k) < 0 ∧ ((27 : Int32) + Int32.ofNat k).toNatClampNeg + (6 : Int32).toNatClampNeg ≤ (70 : Int32).toNatClampNeg ∧ ¬ (((27 : Int32) + Int32.ofNat k) + (6 : Int32)) < 0 ∧ (((27 : Int32) + Int32.ofNat k) + (6 : Int32)) < (70 : Int32) ∧ (((27 : Int32) + Int32.ofNat k) + (6 : Int32)).toNatClampNeg ≤ (70 : Int32).toNatClampNeg ∧ (((27 : Int32) + Int32.ofNat k) + (6 : Int32)).toNatClampNeg ≤ 64 ∧ ((27 : Int32) + Int32.ofNat k).toNatClampNeg = 27 + k ∧ (((27 : Int32) + Int32.ofNat k) + (6 : Int32)).toNatClampNeg = 33 + k ∧ 27 + k ≤ 34) ∨ ((0 : Int32) < (((27 : Int32) + Int32.ofNat k) - (34 : Int32)) ∧ (((27 : Int32) + Int32.ofNat k) - (34 : Int32)) < (36 : Int32) ∧ 27 + k ≤ (70 : Int32).toNatClampNeg ∧ ¬ ((0 : Int32) < ((((27 : Int32) + Int32.ofNat k) + (6 : Int32)) - (70 : Int32))) ∧ ¬ ((27 : Int32) + Int32.ofNat k) < 0 ∧ ((27 : Int32) + Int32.ofNat k).toNatClampNeg + (6 : Int32).toNatClampNeg ≤ (70 : Int32).toNatClampNeg ∧ ¬ (((27 : Int32) + Int32.ofNat k) + (6 : Int32)) < 0 ∧ (((27 : Int32) + Int32.ofNat k) + (6 : Int32)) < (70 : Int32) ∧ (((27 : Int32) + Int32.ofNat k) + (6 : Int32)).toNatClampNeg ≤ (70 : Int32).toNatClampNeg ∧ (((27 : Int32) + Int32.ofNat k) + (6 : Int32)).toNatClampNeg ≤ 64 ∧ ((27 : Int32) + Int32.ofNat k).toNatClampNeg = 27 + k ∧ (((27 : Int32) + Int32.ofNat k) + (6 : Int32)).toNatClampNeg = 33 + k ∧ 33 + k ≤ 64)) := by
  have h : k = 1 ∨ k = 2 ∨ k = 3 ∨ k = 4 ∨ k = 5 ∨ k = 6 ∨ k = 7 ∨ k = 8 ∨ k = 9 ∨ k = 10 ∨ k = 11 := by omega
  rcases h with rfl | rfl | rfl | rfl | rfl | rfl | rfl | rfl | rfl | rfl | rfl
  · exact Or.inl (by decide)
  · exact Or.inr (Or.inl (by decide))
  · exact Or.inr (Or.inl (by decide))
  · exact Or.inr (Or.inl (by decide))
  · exact Or.inr (Or.inl (by decide))
  · exact Or.inr (Or.inl (by decide))
  · exact Or.inr (Or.inl (by decide))
  · exact Or.inr (Or.inr (by decide))
  · exact Or.inr (Or.inr (by decide))
  · exact Or.inr (Or.inr (by decide))
  · exact Or.inr (Or.inr (by decide))
theorem own_k1 : ∀ k : Fin 12, Int32.ofNat (27 + k.1) = (27 : Int32) + Int32.ofNat k.1 := by decide
theorem own_k2 : ∀ k : Fin 12, (((27 : Int32) + Int32.ofNat k.1) + (6 : Int32)) = Int32.ofNat (33 + k.1) := by decide
theorem own_k3 : ∀ (s : Fin 2) (d : Fin 11), (((33 : Int32) + Int32.ofNat s.1) + Int32.ofNat d.1) = Int32.ofNat (33 + (d.1 + s.1)) := by decide
theorem own_k4 : ∀ (k : Fin 12) (m : Fin 6), (Int32.ofNat (33 + k.1) - Int32.ofNat (6 - m.1)) = Int32.ofNat (27 + k.1 + m.1) := by decide
theorem own_k5 : ∀ (k : Fin 12) (i : Fin 10), ((Int32.ofNat (33 + k.1) - (7 : Int32)) - Int32.ofNat i.1) = Int32.ofNat (27 + k.1 - 1 - i.1) := by decide
theorem own_k6 : ∀ (i : Fin 10) (d : Fin 11), Int32.ofNat i.1 < Int32.ofNat d.1 → i.1 < d.1 := by decide
theorem own_k7 : ∀ k : Fin 10, ((48 : Int32) + Int32.ofNat k.1).toUInt32.toUInt16.toUInt32.toInt32 = Int32.ofNat (48 + k.1) := by decide
theorem own_dchv {q p : Int64} {N P : Nat} (hq : q.toInt = (N : Int)) (hp : p.toInt = (P : Int)) (hP : 0 < P) (hN : N ≤ 2 ^ 31) : own_dch q p = Int32.ofNat (48 + N / P % 10) := by
  have hne : p ≠ -1 := fun e => by
    rw [e] at hp
    have : ((-1 : Int64)).toInt = -1 := by decide
    omega
  have d1 := (c_ldiv q p (P : Int) hp hne).1 (by omega)
  have hM : N / P ≤ 2 ^ 31 := Nat.le_trans (Nat.div_le_self _ _) hN
  have d2 : (q / p).toInt = ((N / P : Nat) : Int) := by rw [d1, hq]; exact (Int.natCast_ediv _ _).symm
  clear d1
  generalize N / P = M at hM d2 ⊢
  have d3 := (c_lrem (q / p) (10 : Int64) 10 (by decide)).1 (by omega)
  have l := c_l2i ((q / p) - (q / p) / (10 : Int64) * (10 : Int64))
  have lr := rng32 (((q / p) - (q / p) / (10 : Int64) * (10 : Int64)).toInt32)
  have e : (((q / p) - (q / p) / (10 : Int64) * (10 : Int64)).toInt32) = Int32.ofNat (M % 10) := by
    apply Int32.toInt_inj.mp
    rw [Int32.toInt_ofNat_of_lt (by omega)]
    omega
  rw [own_dch, e]
  exact own_k7 ⟨M % 10, Nat.mod_lt _ (by decide)⟩
theorem own_qa {x : Int32} {N : Nat} (hN : N ≤ 2 ^ 31) (h : (if x < 0 then x else -x) = Jvm.Free.SBG.negI N) : (if (lcmpW x.toInt64 (0 : Int64)) < (0 : Int32) then (-x.toInt64) else x.toInt64).toInt = (N : Int) := by
  have hn := Jvm.Free.SBG.negI_toInt hN
  have e0 : ((0 : Int64)).toInt = 0 := by decide
  have e1 : ((0 : Int32)).toInt = 0 := by decide
  have i := c_i2l x
  have r := rng32 x
  by_cases hx : x < 0
  · rw [if_pos hx] at h
    rw [← h] at hn
    rw [if_pos (by rw [lw_lt, Int64.lt_iff_toInt_lt, i, e0]; rw [Int32.lt_iff_toInt_lt, e1] at hx; exact hx)]
    have g := c_lneg x.toInt64
    have gr := rng64 (-x.toInt64)
    omega
  · rw [if_neg hx] at h
    rw [← h] at hn
    rw [if_neg (by rw [lw_lt, Int64.lt_iff_toInt_lt, i, e0]; rw [Int32.lt_iff_toInt_lt, e1] at hx; exact hx)]
    have g := c_ineg x
    have gr := rng32 (-x)
    rw [Int32.lt_iff_toInt_lt, e1] at hx
    omega
theorem own_ndv {q : Int64} {N : Nat} (hq : q.toInt = (N : Int)) : own_nd q = Int32.ofNat (Jvm.Free.SBG.digits N) := by
  have t : ∀ (c : Int64) (k : Nat), c.toInt = (k : Int) → ((lcmpW q c < (0 : Int32)) ↔ N < k) := fun c k hc => by rw [lw_lt, Int64.lt_iff_toInt_lt, hq, hc]; omega
  have t1 := t 10 10 (by decide)
  have t2 := t 100 100 (by decide)
  have t3 := t 1000 1000 (by decide)
  have t4 := t 10000 10000 (by decide)
  have t5 := t 100000 100000 (by decide)
  have t6 := t 1000000 1000000 (by decide)
  have t7 := t 10000000 10000000 (by decide)
  have t8 := t 100000000 100000000 (by decide)
  have t9 := t 1000000000 1000000000 (by decide)
  simp only [own_nd, Jvm.Free.SBG.digits, t1, t2, t3, t4, t5, t6, t7, t8, t9]
  repeat' split
  all_goals rfl
theorem own_ngv (x : Int32) : (if x < (0 : Int32) then (1 : Int32) else (0 : Int32)) = Int32.ofNat (Jvm.Free.SBG.GetChars.sgn x) := by
  by_cases hx : x < 0 <;> simp [Jvm.Free.SBG.GetChars.sgn, hx]
theorem own_sg1 (x : Int32) : Jvm.Free.SBG.GetChars.sgn x ≤ 1 := by
  unfold Jvm.Free.SBG.GetChars.sgn; split <;> omega
abbrev own_q (x : Int32) : Int64 := (if (lcmpW x.toInt64 (0 : Int64)) < (0 : Int32) then (-x.toInt64) else x.toInt64)
abbrev own_vT (x : Int32) : Int32 := (((33 : Int32) + (if x < (0 : Int32) then (1 : Int32) else (0 : Int32))) + own_nd (own_q x))
theorem own_all (x : Int32) (N : Nat) (hN : N ≤ 2 ^ 31) (h : (if x < 0 then x else -x) = Jvm.Free.SBG.negI N) : Int32.ofNat (27 + (Jvm.Free.SBG.digits N + Jvm.Free.SBG.GetChars.sgn x)) = ((27 : Int32) + Jvm.Free.SBG.strSizeOf x) ∧ (((27 : Int32) + Jvm.Free.SBG.strSizeOf x) + (6 : Int32)) = Int32.ofNat (33 + (Jvm.Free.SBG.digits N + Jvm.Free.SBG.GetChars.sgn x)) ∧ ((¬ ((0 : Int32) < (((27 : Int32) + Jvm.Free.SBG.strSizeOf x) - (34 : Int32))) ∧ 27 + (Jvm.Free.SBG.digits N + Jvm.Free.SBG.GetChars.sgn x) ≤ (34 : Int32).toNatClampNeg ∧ ¬ ((0 : Int32) < ((((27 : Int32) + Jvm.Free.SBG.strSizeOf x) + (6 : Int32)) - (34 : Int32))) ∧ ¬ ((27 : Int32) + Jvm.Free.SBG.strSizeOf x) < 0 ∧ ((27 : Int32) + Jvm.Free.SBG.strSizeOf x).toNatClampNeg + (6 : Int32).toNatClampNeg ≤ (34 : Int32).toNatClampNeg ∧ (((27 : Int32) + Jvm.Free.SBG.strSizeOf x) + (6 : Int32)) = (34 : Int32) ∧ ((27 : Int32) + Jvm.Free.SBG.strSizeOf x).toNatClampNeg = 27 + (Jvm.Free.SBG.digits N + Jvm.Free.SBG.GetChars.sgn x) ∧ Jvm.Free.SBG.digits N + Jvm.Free.SBG.GetChars.sgn x = 1) ∨ (¬ ((0 : Int32) < (((27 : Int32) + Jvm.Free.SBG.strSizeOf x) - (34 : Int32))) ∧ 27 + (Jvm.Free.SBG.digits N + Jvm.Free.SBG.GetChars.sgn x) ≤ (34 : Int32).toNatClampNeg ∧ (0 : Int32) < ((((27 : Int32) + Jvm.Free.SBG.strSizeOf x) + (6 : Int32)) - (34 : Int32)) ∧ ((((27 : Int32) + Jvm.Free.SBG.strSizeOf x) + (6 : Int32)) - (34 : Int32)) < (36 : Int32) ∧ ¬ ((27 : Int32) + Jvm.Free.SBG.strSizeOf x) < 0 ∧ ((27 : Int32) + Jvm.Free.SBG.strSizeOf x).toNatClampNeg + (6 : Int32).toNatClampNeg ≤ (70 : Int32).toNatClampNeg ∧ ¬ (((27 : Int32) + Jvm.Free.SBG.strSizeOf x) + (6 : Int32)) < 0 ∧ (((27 : Int32) + Jvm.Free.SBG.strSizeOf x) + (6 : Int32)) < (70 : Int32) ∧ (((27 : Int32) + Jvm.Free.SBG.strSizeOf x) + (6 : Int32)).toNatClampNeg ≤ (70 : Int32).toNatClampNeg ∧ (((27 : Int32) + Jvm.Free.SBG.strSizeOf x) + (6 : Int32)).toNatClampNeg ≤ 64 ∧ ((27 : Int32) + Jvm.Free.SBG.strSizeOf x).toNatClampNeg = 27 + (Jvm.Free.SBG.digits N + Jvm.Free.SBG.GetChars.sgn x) ∧ (((27 : Int32) + Jvm.Free.SBG.strSizeOf x) + (6 : Int32)).toNatClampNeg = 33 + (Jvm.Free.SBG.digits N + Jvm.Free.SBG.GetChars.sgn x) ∧ 27 + (Jvm.Free.SBG.digits N + Jvm.Free.SBG.GetChars.sgn x) ≤ 34) ∨ ((0 : Int32) < (((27 : Int32) + Jvm.Free.SBG.strSizeOf x) - (34 : Int32)) ∧ (((27 : Int32) + Jvm.Free.SBG.strSizeOf x) - (34 : Int32)) < (36 : Int32) ∧ 27 + (Jvm.Free.SBG.digits N + Jvm.Free.SBG.GetChars.sgn x) ≤ (70 : Int32).toNatClampNeg ∧ ¬ ((0 : Int32) < ((((27 : Int32) + Jvm.Free.SBG.strSizeOf x) + (6 : Int32)) - (70 : Int32))) ∧ ¬ ((27 : Int32) + Jvm.Free.SBG.strSizeOf x) < 0 ∧ ((27 : Int32) + Jvm.Free.SBG.strSizeOf x).toNatClampNeg + (6 : Int32).toNatClampNeg ≤ (70 : Int32).toNatClampNeg ∧ ¬ (((27 : Int32) + Jvm.Free.SBG.strSizeOf x) + (6 : Int32)) < 0 ∧ (((27 : Int32) + Jvm.Free.SBG.strSizeOf x) + (6 : Int32)) < (70 : Int32) ∧ (((27 : Int32) + Jvm.Free.SBG.strSizeOf x) + (6 : Int32)).toNatClampNeg ≤ (70 : Int32).toNatClampNeg ∧ (((27 : Int32) + Jvm.Free.SBG.strSizeOf x) + (6 : Int32)).toNatClampNeg ≤ 64 ∧ ((27 : Int32) + Jvm.Free.SBG.strSizeOf x).toNatClampNeg = 27 + (Jvm.Free.SBG.digits N + Jvm.Free.SBG.GetChars.sgn x) ∧ (((27 : Int32) + Jvm.Free.SBG.strSizeOf x) + (6 : Int32)).toNatClampNeg = 33 + (Jvm.Free.SBG.digits N + Jvm.Free.SBG.GetChars.sgn x) ∧ 33 + (Jvm.Free.SBG.digits N + Jvm.Free.SBG.GetChars.sgn x) ≤ 64)) ∧
    ((if x < (0 : Int32) then (1 : Int32) else (0 : Int32)) = (1 : Int32) → Jvm.Free.SBG.GetChars.sgn x = 1) ∧ (Int32.ofNat (own_cs N (Jvm.Free.SBG.GetChars.sgn x) (Jvm.Free.SBG.digits N)).length) = own_vT x ∧ (own_cs N (Jvm.Free.SBG.GetChars.sgn x) (Jvm.Free.SBG.digits N)).length ≤ 4000 ∧
    (∀ m : Nat, m < 6 → (own_vT x - Int32.ofNat (6 - m)) = Int32.ofNat (27 + (Jvm.Free.SBG.digits N + Jvm.Free.SBG.GetChars.sgn x) + m)) ∧ ∀ i : Nat, i < 10 → own_okd N (Jvm.Free.SBG.GetChars.sgn x) (Jvm.Free.SBG.digits N) (own_vT x) (own_q x) (own_nd (own_q x)) i := by
  have ez := Jvm.Free.SBG.strSizeOf_eq hN h
  have hd := Jvm.Free.SBG.digits_pos N
  have hs := own_sg1 x
  have hq := own_qa hN h
  have hnd : own_nd (own_q x) = Int32.ofNat (Jvm.Free.SBG.digits N) := own_ndv hq
  have hvT : own_vT x = Int32.ofNat (33 + (Jvm.Free.SBG.digits N + Jvm.Free.SBG.GetChars.sgn x)) := by
    show (((33 : Int32) + (if x < (0 : Int32) then (1 : Int32) else (0 : Int32))) + own_nd (own_q x)) = _
    rw [hnd, own_ngv]; exact own_k3 ⟨Jvm.Free.SBG.GetChars.sgn x, by omega⟩ ⟨Jvm.Free.SBG.digits N, by omega⟩
  refine ⟨?_, ?_, ?_, fun e => ?_, ?_, ?_, fun m hm => ?_, fun i hi => ⟨fun hlt => ?_, fun hlt => ?_, fun hlt => ?_⟩⟩
  · rw [ez]; exact own_k1 ⟨Jvm.Free.SBG.digits N + Jvm.Free.SBG.GetChars.sgn x, by omega⟩
  · rw [ez]; exact own_k2 ⟨Jvm.Free.SBG.digits N + Jvm.Free.SBG.GetChars.sgn x, by omega⟩
  · rw [ez]; exact own_c3 (k := Jvm.Free.SBG.digits N + Jvm.Free.SBG.GetChars.sgn x) (by omega) (by omega)
  · by_cases hx : x < 0
    · simp [Jvm.Free.SBG.GetChars.sgn, hx]
    · rw [if_neg hx] at e; exact absurd e (by decide)
  · rw [own_cslen, hvT]
  · rw [own_cslen]; omega
  · rw [hvT]; exact own_k4 ⟨Jvm.Free.SBG.digits N + Jvm.Free.SBG.GetChars.sgn x, by omega⟩ ⟨m, hm⟩
  · rw [hvT]; exact own_k5 ⟨Jvm.Free.SBG.digits N + Jvm.Free.SBG.GetChars.sgn x, by omega⟩ ⟨i, hi⟩
  · rw [own_cslen]; omega
  · have hi' : i < Jvm.Free.SBG.digits N := by
      rw [hnd] at hlt
      exact own_k6 ⟨i, hi⟩ ⟨Jvm.Free.SBG.digits N, by omega⟩ hlt
    have hp : ∀ j : Fin 10, (Int64.ofNat (10 ^ j.1)).toInt = ((10 ^ j.1 : Nat) : Int) := by decide
    rw [own_dchv hq (hp ⟨i, hi⟩) (Nat.pow_pos (by decide)) hN, own_csat (by omega), own_ch, if_neg (by omega), if_neg (by omega), if_pos (by omega), show 27 + (Jvm.Free.SBG.digits N + Jvm.Free.SBG.GetChars.sgn x) - 1 - (27 + (Jvm.Free.SBG.digits N + Jvm.Free.SBG.GetChars.sgn x) - 1 - i) = i from by omega]
theorem ef_0 (m : MethodId) (x0 : Int32) (x1 : Int32) : entryFrame m #[(.int x0), (.int x1)] 2 = mkF m 0 #[vi x0, vi x1] [] := by first | (simp [entryFrame, mkF, argsToLocals, Value.category]; done) | rfl
theorem d12_0 : decode jdk_29_method_65_code 0 = .ok (.iload_n 0, 1) := by decide +kernel
theorem d12_1 : decode jdk_29_method_65_code 1 = .ok (.iload_n 1, 1) := by decide +kernel
theorem d12_2 : decode jdk_29_method_65_code 2 = .ok (.if_icmp .lt 7, 3) := by decide +kernel
theorem d12_9 : decode jdk_29_method_65_code 9 = .ok (.iload_n 1, 1) := by decide +kernel
theorem d12_10 : decode jdk_29_method_65_code 10 = .ok (.ireturn, 1) := by decide +kernel
theorem d12_5 : decode jdk_29_method_65_code 5 = .ok (.iload_n 0, 1) := by decide +kernel
theorem d12_6 : decode jdk_29_method_65_code 6 = .ok (.goto 4, 3) := by decide +kernel
def Q_rmMax (Z : State) (p0 : Int32) (p1 : Int32) (h0 : Heap) (n0 : Nat) (v : Option Value) (h : Heap) (L : List Loc) : Prop := (v = some (.int (if p0 < p1 then p1 else p0)) ∧ Fr n0 L ∧ h = h0)
set_option maxRecDepth 65536 in
set_option maxHeartbeats 40000000 in
theorem rmMax (l : Launch) (Z : State) (a0 : Array Value) (hw : ∀ d ∈ tables_1, d.before a0 Z = true) (ws : List Jvm.Cond) (p0 : Int32) (p1 : Int32) (h0 : Heap) (n0 : Nat) (Z0 : n0 ≤ h0.size) :
    MetFree l M0 (head1 (Jvm.Cond.code M0 jdk_29_method_65_code 2 (some .int) :: ws) ({ frames := 0, cells := 0, slots := 0, locals := 0 } : Room)) (fun a U => a = #[(.int p0), (.int p1)] ∧ Z.Warmed39 U.vm ∧ U.heap = h0) (fun _ _ _ _ _ => True) (fun _ U o U' => ∃ v L, o = .returned v ∧ Q_rmMax Z p0 p1 h0 n0 v U'.heap L ∧ FrameEnd U o U' L ({ frames := 0, cells := 0, slots := 0, locals := 0 } : Room).cells ({ frames := 0, cells := 0, slots := 0, locals := 0 } : Room).slots) := by
  refine MetFree.of_bodySF (Jvm.Free.JP.mathPlain rfl (by decide +kernel)) hisR ?_
  intro p e s m args below meth c s₁ Bd hml0 hP hK
  obtain ⟨rfl, hZ, hh⟩ := hP
  have hx := Bd.exec
  have hby := Bd.bytes
  have hml : c.maxLocals = 2 := hml0
  have hown : s.vm.findClass "java/lang/Math" = some m.cls := findClass_of_methodNamed Bd.named
  have hnm := (name_of_methodNamed Bd.named Bd.method).1
  have X0 : Stand p l e ({ frames := 0, cells := 0, slots := 0, locals := 0 } : Room) s m #[(.int p0), (.int p1)] below meth c s₁ [] 0 0 := Stand.of_body Bd
  have e0 : s₁.heap = h0 := by rw [← hh, Bd.state]; rfl
  have N0 := Fr.nil n0
  have pre0 : ∀ t, Steps p.tables e below (s₁.setTop (mkF m 0 #[vi p0, vi p1] [])) t → Steps p.tables e below (s₁.setTop (entryFrame m #[(.int p0), (.int p1)] 2)) t := fun t k => castTop (ef_0 m p0 p1) k
  by_cases hc2 : p0 < p1
  · obtain ⟨fs, hr, hrun, hended, hW, hsame⟩ := X0.leave (v := some (.int p1)) (fun h => by rw [Bd.returns] at h; cases h)
    refine ⟨_, _, pre0 _ ?_, hrun, hended, _, _, rfl, ?_, ⟨_, rfl⟩, hW, hsame.mono (by decide) (by decide)⟩
    · show SS p e below s₁ (mkF m 0 #[vi p0, vi p1] []) _
      refine XS.iloadN X0.here hx rfl (hb hby d12_0) rfl ?_
      refine XS.iloadN X0.here hx rfl (hb hby d12_1) rfl ?_
      show SS p e below s₁ (mkF m 2 #[vi p0, vi p1] [(.int p1), (.int p0)]) _
      refine XS.icmpYes X0.here hx rfl (pc0 := 2) (pc' := 9) rfl (hb hby d12_2) rfl (tlt (hc2 : p0 < p1)).1 (by decide) (by decide) ?_
      refine XS.iloadN X0.here hx rfl (hb hby d12_9) rfl ?_
      exact retI X0 hx Bd.returns (hb hby d12_10) hr
    · show Q_rmMax Z p0 p1 h0 n0 _ s₁.heap _
      rw [e0]
      exact ⟨(by rw [if_pos hc2]), N0, rfl⟩
  · obtain ⟨fs, hr, hrun, hended, hW, hsame⟩ := X0.leave (v := some (.int p0)) (fun h => by rw [Bd.returns] at h; cases h)
    refine ⟨_, _, pre0 _ ?_, hrun, hended, _, _, rfl, ?_, ⟨_, rfl⟩, hW, hsame.mono (by decide) (by decide)⟩
    · show SS p e below s₁ (mkF m 0 #[vi p0, vi p1] []) _
      refine XS.iloadN X0.here hx rfl (hb hby d12_0) rfl ?_
      refine XS.iloadN X0.here hx rfl (hb hby d12_1) rfl ?_
      show SS p e below s₁ (mkF m 2 #[vi p0, vi p1] [(.int p1), (.int p0)]) _
      refine XS.icmpNo X0.here hx rfl (hb hby d12_2) rfl (flt (hc2 : ¬ (p0 < p1))).1 ?_
      refine XS.iloadN X0.here hx rfl (hb hby d12_5) rfl ?_
      refine XS.goto X0.here hx rfl (pc0 := 6) (pc' := 10) rfl (hb hby d12_6) (by decide) (by decide) ?_
      exact retI X0 hx Bd.returns (hb hby d12_10) hr
    · show Q_rmMax Z p0 p1 h0 n0 _ s₁.heap _
      rw [e0]
      exact ⟨(by rw [if_neg hc2]), N0, rfl⟩
theorem ef_1 (m : MethodId) (x0 : Int32) (x1 : Int32) : entryFrame m #[(.int x0), (.int x1)] 2 = mkF m 0 #[vi x0, vi x1] [] := by first | (simp [entryFrame, mkF, argsToLocals, Value.category]; done) | rfl
theorem d14_0 : decode jdk_29_method_69_code 0 = .ok (.iload_n 0, 1) := by decide +kernel
theorem d14_1 : decode jdk_29_method_69_code 1 = .ok (.iload_n 1, 1) := by decide +kernel
theorem d14_2 : decode jdk_29_method_69_code 2 = .ok (.if_icmp .gt 7, 3) := by decide +kernel
theorem d14_9 : decode jdk_29_method_69_code 9 = .ok (.iload_n 1, 1) := by decide +kernel
theorem d14_10 : decode jdk_29_method_69_code 10 = .ok (.ireturn, 1) := by decide +kernel
theorem d14_5 : decode jdk_29_method_69_code 5 = .ok (.iload_n 0, 1) := by decide +kernel
theorem d14_6 : decode jdk_29_method_69_code 6 = .ok (.goto 4, 3) := by decide +kernel
def Q_rmMin (Z : State) (p0 : Int32) (p1 : Int32) (h0 : Heap) (n0 : Nat) (v : Option Value) (h : Heap) (L : List Loc) : Prop := (v = some (.int (if p1 < p0 then p1 else p0)) ∧ Fr n0 L ∧ h = h0)
set_option maxRecDepth 65536 in
set_option maxHeartbeats 40000000 in
theorem rmMin (l : Launch) (Z : State) (a0 : Array Value) (hw : ∀ d ∈ tables_1, d.before a0 Z = true) (ws : List Jvm.Cond) (p0 : Int32) (p1 : Int32) (h0 : Heap) (n0 : Nat) (Z0 : n0 ≤ h0.size) :
    MetFree l M1 (head1 (Jvm.Cond.code M1 jdk_29_method_69_code 2 (some .int) :: ws) ({ frames := 0, cells := 0, slots := 0, locals := 0 } : Room)) (fun a U => a = #[(.int p0), (.int p1)] ∧ Z.Warmed39 U.vm ∧ U.heap = h0) (fun _ _ _ _ _ => True) (fun _ U o U' => ∃ v L, o = .returned v ∧ Q_rmMin Z p0 p1 h0 n0 v U'.heap L ∧ FrameEnd U o U' L ({ frames := 0, cells := 0, slots := 0, locals := 0 } : Room).cells ({ frames := 0, cells := 0, slots := 0, locals := 0 } : Room).slots) := by
  refine MetFree.of_bodySF (Jvm.Free.JP.mathPlain rfl (by decide +kernel)) hisR ?_
  intro p e s m args below meth c s₁ Bd hml0 hP hK
  obtain ⟨rfl, hZ, hh⟩ := hP
  have hx := Bd.exec
  have hby := Bd.bytes
  have hml : c.maxLocals = 2 := hml0
  have hown : s.vm.findClass "java/lang/Math" = some m.cls := findClass_of_methodNamed Bd.named
  have hnm := (name_of_methodNamed Bd.named Bd.method).1
  have X0 : Stand p l e ({ frames := 0, cells := 0, slots := 0, locals := 0 } : Room) s m #[(.int p0), (.int p1)] below meth c s₁ [] 0 0 := Stand.of_body Bd
  have e0 : s₁.heap = h0 := by rw [← hh, Bd.state]; rfl
  have N0 := Fr.nil n0
  have pre0 : ∀ t, Steps p.tables e below (s₁.setTop (mkF m 0 #[vi p0, vi p1] [])) t → Steps p.tables e below (s₁.setTop (entryFrame m #[(.int p0), (.int p1)] 2)) t := fun t k => castTop (ef_1 m p0 p1) k
  by_cases hc2 : p1 < p0
  · obtain ⟨fs, hr, hrun, hended, hW, hsame⟩ := X0.leave (v := some (.int p1)) (fun h => by rw [Bd.returns] at h; cases h)
    refine ⟨_, _, pre0 _ ?_, hrun, hended, _, _, rfl, ?_, ⟨_, rfl⟩, hW, hsame.mono (by decide) (by decide)⟩
    · show SS p e below s₁ (mkF m 0 #[vi p0, vi p1] []) _
      refine XS.iloadN X0.here hx rfl (hb hby d14_0) rfl ?_
      refine XS.iloadN X0.here hx rfl (hb hby d14_1) rfl ?_
      show SS p e below s₁ (mkF m 2 #[vi p0, vi p1] [(.int p1), (.int p0)]) _
      refine XS.icmpYes X0.here hx rfl (pc0 := 2) (pc' := 9) rfl (hb hby d14_2) rfl (tlt (hc2 : p1 < p0)).2.2.1 (by decide) (by decide) ?_
      refine XS.iloadN X0.here hx rfl (hb hby d14_9) rfl ?_
      exact retI X0 hx Bd.returns (hb hby d14_10) hr
    · show Q_rmMin Z p0 p1 h0 n0 _ s₁.heap _
      rw [e0]
      exact ⟨(by rw [if_pos hc2]), N0, rfl⟩
  · obtain ⟨fs, hr, hrun, hended, hW, hsame⟩ := X0.leave (v := some (.int p0)) (fun h => by rw [Bd.returns] at h; cases h)
    refine ⟨_, _, pre0 _ ?_, hrun, hended, _, _, rfl, ?_, ⟨_, rfl⟩, hW, hsame.mono (by decide) (by decide)⟩
    · show SS p e below s₁ (mkF m 0 #[vi p0, vi p1] []) _
      refine XS.iloadN X0.here hx rfl (hb hby d14_0) rfl ?_
      refine XS.iloadN X0.here hx rfl (hb hby d14_1) rfl ?_
      show SS p e below s₁ (mkF m 2 #[vi p0, vi p1] [(.int p1), (.int p0)]) _
      refine XS.icmpNo X0.here hx rfl (hb hby d14_2) rfl (flt (hc2 : ¬ (p1 < p0))).2.2.1 ?_
      refine XS.iloadN X0.here hx rfl (hb hby d14_5) rfl ?_
      refine XS.goto X0.here hx rfl (pc0 := 6) (pc' := 10) rfl (hb hby d14_6) (by decide) (by decide) ?_
      exact retI X0 hx Bd.returns (hb hby d14_10) hr
    · show Q_rmMin Z p0 p1 h0 n0 _ s₁.heap _
      rw [e0]
      exact ⟨(by rw [if_neg hc2]), N0, rfl⟩
theorem ef_2 (m : MethodId) (x0 : Addr) : entryFrame m #[(.ref x0)] 1 = mkF m 0 #[vr x0] [] := by first | (simp [entryFrame, mkF, argsToLocals, Value.category]; done) | rfl
theorem pn_0 : plainName "java/lang/String" = true := by first | (simp [plainName, overriddenIn]; done) | decide +kernel
theorem d8_0 : decode jdk_42_method_152_code 0 = .ok (.getstatic 38, 3) := by decide +kernel
theorem d8_3 : decode jdk_42_method_152_code 3 = .ok (.ifCond .eq 10, 3) := by decide +kernel
theorem d8_6 : decode jdk_42_method_152_code 6 = .ok (.aload_n 0, 1) := by decide +kernel
theorem d8_7 : decode jdk_42_method_152_code 7 = .ok (.getfield 15, 3) := by decide +kernel
theorem d8_10 : decode jdk_42_method_152_code 10 = .ok (.goto 4, 3) := by decide +kernel
theorem d8_14 : decode jdk_42_method_152_code 14 = .ok (.ireturn, 1) := by decide +kernel
def Q_rmCoder (Z : State) (r0 : Addr) (zc : Int32) (h0 : Heap) (n0 : Nat) (v : Option Value) (h : Heap) (L : List Loc) : Prop := (v = some z0 ∧ Fr n0 L ∧ h = h0)
set_option maxRecDepth 65536 in
set_option maxHeartbeats 40000000 in
theorem rmCoder (l : Launch) (Z : State) (a0 : Array Value) (hw : ∀ d ∈ tables_1, d.before a0 Z = true) (ws : List Jvm.Cond) (r0 : Addr) (zc : Int32) (h0 : Heap) (n0 : Nat) (Z0 : n0 ≤ h0.size) (uO : Old Z n0 h0) (uS : Sta Z Z.heap "java/lang/String" "COMPACT_STRINGS" "Z" (.int zc)) (uP : ¬ zc = 0) (uc : Fld Z h0 r0 "java/lang/String" "coder" "B" z0) :
    MetFree l M2 (head1 (Jvm.Cond.code M2 jdk_42_method_152_code 1 (some .byte) :: ws) ({ frames := 0, cells := 0, slots := 0, locals := 0 } : Room)) (fun a U => a = #[(.ref r0)] ∧ Z.Warmed39 U.vm ∧ U.heap = h0) (fun _ _ _ _ _ => True) (fun _ U o U' => ∃ v L, o = .returned v ∧ Q_rmCoder Z r0 zc h0 n0 v U'.heap L ∧ FrameEnd U o U' L ({ frames := 0, cells := 0, slots := 0, locals := 0 } : Room).cells ({ frames := 0, cells := 0, slots := 0, locals := 0 } : Room).slots) := by
  refine MetFree.of_bodySF (plainFor_of_name pn_0) hisR ?_
  intro p e s m args below meth c s₁ Bd hml0 hP hK
  obtain ⟨rfl, hZ, hh⟩ := hP
  have hx := Bd.exec
  have hby := Bd.bytes
  have hml : c.maxLocals = 1 := hml0
  have hown : s.vm.findClass "java/lang/String" = some m.cls := findClass_of_methodNamed Bd.named
  have hnm := (name_of_methodNamed Bd.named Bd.method).1
  have X0 : Stand p l e ({ frames := 0, cells := 0, slots := 0, locals := 0 } : Room) s m #[(.ref r0)] below meth c s₁ [] 0 0 := Stand.of_body Bd
  have e0 : s₁.heap = h0 := by rw [← hh, Bd.state]; rfl
  have N0 := Fr.nil n0
  have pre0 : ∀ t, Steps p.tables e below (s₁.setTop (mkF m 0 #[vr r0] [])) t → Steps p.tables e below (s₁.setTop (entryFrame m #[(.ref r0)] 1)) t := fun t k => castTop (ef_2 m r0) k
  obtain ⟨T1, X1, e1, st1⟩ := getS2 X0 hx hZ hown (host := "") (Or.inl (wd hw 55 rfl)) Via.refl e0 (uS.ext uO.2) (g := (mkF m 0 #[vr r0] [])) rfl (hb hby d8_0)
  obtain ⟨T2, X2, e2, st2⟩ := getF X1 hx hZ hown (host := "") (Or.inl (wd hw 56 rfl)) Via.refl e1 uc (g := (mkF m 7 #[vr r0] [(.ref r0)])) rfl rfl (hb hby d8_7)
  obtain ⟨fs, hr, hrun, hended, hW, hsame⟩ := X2.leave (v := some (.int (nar .byte (0 : Int32)))) (fun h => by rw [Bd.returns] at h; cases h)
  refine ⟨_, _, pre0 _ ?_, hrun, hended, _, _, rfl, ?_, ⟨_, rfl⟩, hW, hsame.mono (by decide) (by decide)⟩
  · show SS p e below s₁ (mkF m 0 #[vr r0] []) _
    refine st1 _ ?_
    show SS p e below T1 (mkF m 3 #[vr r0] [(.int zc)]) _
    refine XS.ifNo X1.here hx rfl (hb hby d8_3) rfl ((if0 _ _).trans (feq (uP : ¬ (zc = (0 : Int32)))).1) ?_
    refine XS.aloadN X1.here hx rfl (hb hby d8_6) rfl rfl ?_
    refine st2 _ ?_
    refine XS.goto X2.here hx rfl (pc0 := 10) (pc' := 14) rfl (hb hby d8_10) (by decide) (by decide) ?_
    exact retN X2 hx (t := .byte) Bd.returns (by simp) (hb hby d8_14) hr
  · show Q_rmCoder Z r0 zc h0 n0 _ T2.heap _
    rw [e2]
    exact ⟨(congrArg (fun z => some (Value.int z)) own_nb0), N0, rfl⟩
theorem ef_3 (m : MethodId) (x0 : Addr) : entryFrame m #[(.ref x0)] 1 = mkF m 0 #[vr x0] [] := by first | (simp [entryFrame, mkF, argsToLocals, Value.category]; done) | rfl
theorem d7_0 : decode jdk_42_method_54_code 0 = .ok (.aload_n 0, 1) := by decide +kernel
theorem d7_1 : decode jdk_42_method_54_code 1 = .ok (.getfield 9, 3) := by decide +kernel
theorem d7_4 : decode jdk_42_method_54_code 4 = .ok (.arraylength, 1) := by decide +kernel
theorem d7_5 : decode jdk_42_method_54_code 5 = .ok (.aload_n 0, 1) := by decide +kernel
theorem d7_6 : decode jdk_42_method_54_code 6 = .ok (.invokevirtual 335, 3) := by decide +kernel
theorem pd_0 : parseMethodDescriptor "()B" = some ⟨[], some .byte⟩ := by decide +kernel
theorem d7_9 : decode jdk_42_method_54_code 9 = .ok (.ishr, 1) := by decide +kernel
theorem d7_10 : decode jdk_42_method_54_code 10 = .ok (.ireturn, 1) := by decide +kernel
def Q_rmLen (Z : State) (r0 : Addr) (zc : Int32) (rt : Addr) (kt : ClassId) (zt : Int32) (vt : List Value) (h0 : Heap) (n0 : Nat) (v : Option Value) (h : Heap) (L : List Loc) : Prop := (v = some (.int zt) ∧ Fr n0 L ∧ h = h0)
set_option maxRecDepth 65536 in
set_option maxHeartbeats 40000000 in
theorem rmLen (l : Launch) (Z : State) (a0 : Array Value) (hw : ∀ d ∈ tables_1, d.before a0 Z = true) (ws : List Jvm.Cond) (r0 : Addr) (zc : Int32) (rt : Addr) (kt : ClassId) (zt : Int32) (vt : List Value) (h0 : Heap) (n0 : Nat) (Z0 : n0 ≤ h0.size) (uO : Old Z n0 h0) (uS : Sta Z Z.heap "java/lang/String" "COMPACT_STRINGS" "Z" (.int zc)) (uP : ¬ zc = 0) (uE : Exa Z h0 r0 "java/lang/String") (uv : Fld Z h0 r0 "java/lang/String" "value" "[B" (.ref rt)) (uc : Fld Z h0 r0 "java/lang/String" "coder" "B" z0) (uV : Arv Z h0 rt kt .byte zt vt z0) :
    MetFree l M3 (head1 (Jvm.Cond.code M3 jdk_42_method_54_code 1 (some .int) :: ws) ({ frames := 1, cells := 0, slots := 0, locals := 13 } : Room)) (fun a U => a = #[(.ref r0)] ∧ Z.Warmed39 U.vm ∧ U.heap = h0) (fun _ _ _ _ _ => True) (fun _ U o U' => ∃ v L, o = .returned v ∧ Q_rmLen Z r0 zc rt kt zt vt h0 n0 v U'.heap L ∧ FrameEnd U o U' L ({ frames := 1, cells := 0, slots := 0, locals := 13 } : Room).cells ({ frames := 1, cells := 0, slots := 0, locals := 13 } : Room).slots) := by
  refine MetFree.of_bodySF (plainFor_of_name pn_0) hisR ?_
  intro p e s m args below meth c s₁ Bd hml0 hP hK
  obtain ⟨rfl, hZ, hh⟩ := hP
  have hx := Bd.exec
  have hby := Bd.bytes
  have hml : c.maxLocals = 1 := hml0
  have hown : s.vm.findClass "java/lang/String" = some m.cls := findClass_of_methodNamed Bd.named
  have hnm := (name_of_methodNamed Bd.named Bd.method).1
  have X0 : Stand p l e ({ frames := 1, cells := 0, slots := 0, locals := 13 } : Room) s m #[(.ref r0)] below meth c s₁ [] 0 0 := Stand.of_body Bd
  have e0 : s₁.heap = h0 := by rw [← hh, Bd.state]; rfl
  have N0 := Fr.nil n0
  have pre0 : ∀ t, Steps p.tables e below (s₁.setTop (mkF m 0 #[vr r0] [])) t → Steps p.tables e below (s₁.setTop (entryFrame m #[(.ref r0)] 1)) t := fun t k => castTop (ef_3 m r0) k
  obtain ⟨T1, X1, e1, st1⟩ := getF X0 hx hZ hown (host := "") (Or.inl (wd hw 49 rfl)) Via.refl e0 uv (g := (mkF m 1 #[vr r0] [(.ref r0)])) rfl rfl (hb hby d7_1)
  obtain ⟨cl2, Ar2, q2, S2, Nn2, H2, G2⟩ := (id uV)
  obtain ⟨cq3, kq3, q3a, q3b, q3c⟩ := isOf hZ e1 uE
  obtain ⟨_, _, ⟨T3, Lw3, kw3, nw3⟩, -, X3, ⟨Lc3, hQ3, lq3, yq3, zq3⟩, st3⟩ := X1.virtualBack hx (y := M2) (z := M2) hown (mvT hZ (wd hw 50 rfl)) (mvT hZ (wd hw 51 rfl)) (notFace_of_selects (args := #[]) (mvT hZ (wd hw 53 rfl))) (mvT hZ (wd hw 53 rfl)) (mvT hZ (wd hw 52 rfl)) (by decide) (backOf (W := 1) (rmCoder l Z a0 hw [] r0 zc h0 n0 Z0 uO uS uP uc) hZ (wd hw 54 rfl) (wd hw 22 rfl) (by decide) (by decide)) q3a q3c (g := (mkF m 6 #[vr r0] [(.ref r0), (.int zt)])) rfl (by rw [hml]; rfl) (Steps.refl _) (argsL := []) (rest := [(.int zt)]) (lenOf pd_0 rfl) rfl (by show 2 * 0 + _ ≤ _; exact Nat.le_of_eq rfl) (hb hby d7_6) (fun _ _ => ⟨rfl, e1, (by decide : 0 + 0 ≤ _), (by decide : 0 + 0 ≤ _)⟩)
  dsimp only [Pt.U, Pt.locs, Pt.cells, Pt.slots] at X3 lq3 yq3 zq3 st3 hQ3
  have X3 := own_reb X3 lq3 yq3 zq3
  obtain ⟨rfl, Nq3, eh3⟩ := hQ3
  have N3 := Fr.app N0 Nq3
  obtain ⟨fs, hr, hrun, hended, hW, hsame⟩ := X3.leave (v := some (.int zt)) (fun h => by rw [Bd.returns] at h; cases h)
  refine ⟨_, _, pre0 _ ?_, hrun, hended, _, _, rfl, ?_, ⟨_, rfl⟩, hW, hsame.mono (by decide) (by decide)⟩
  · show SS p e below s₁ (mkF m 0 #[vr r0] []) _
    refine XS.aloadN X0.here hx rfl (hb hby d7_0) rfl rfl ?_
    refine st1 _ ?_
    show SS p e below T1 (mkF m 4 #[vr r0] [(.ref rt)]) _
    refine X1.arraylength hx (own_at e1 Ar2.1) (State.isArrayOf_alike hZ.alike Ar2.2.1) (g := (mkF m 4 #[vr r0] [(.ref rt)])) rfl rfl (hb hby d7_4) _ ?_
    rw [len_of S2 Nn2]
    refine XS.aloadN X1.here hx rfl (hb hby d7_5) rfl rfl ?_
    show SS p e below T1 (mkF m 6 #[vr r0] [(.ref r0), (.int zt)]) _
    refine st3.trans ?_
    show SS p e below T3 (mkF m 9 #[vr r0] [z0, (.int zt)]) _
    refine XS.ishr X3.here hx rfl (hb hby d7_9) rfl ?_
    show SS p e below T3 (mkF m 10 #[vr r0] [(.int (zt >>> ((0 : Int32) &&& 31)))]) _
    rw [own_shr0 zt]
    exact retI X3 hx Bd.returns (hb hby d7_10) hr
  · show Q_rmLen Z r0 zc rt kt zt vt h0 n0 _ T3.heap _
    rw [eh3]
    exact ⟨rfl, N3, rfl⟩
theorem ef_4 (m : MethodId) (x0 : Addr) : entryFrame m #[(.ref x0)] 1 = mkF m 0 #[vr x0] [] := by first | (simp [entryFrame, mkF, argsToLocals, Value.category]; done) | rfl
theorem pn_1 : plainName "java/lang/AbstractStringBuilder" = true := by first | (simp [plainName, overriddenIn]; done) | decide +kernel
theorem d21_0 : decode jdk_68_method_68_code 0 = .ok (.getstatic 18, 3) := by decide +kernel
theorem d21_3 : decode jdk_68_method_68_code 3 = .ok (.ifCond .eq 14, 3) := by decide +kernel
theorem d21_6 : decode jdk_68_method_68_code 6 = .ok (.aload_n 0, 1) := by decide +kernel
theorem d21_7 : decode jdk_68_method_68_code 7 = .ok (.getfield 22, 3) := by decide +kernel
theorem d21_10 : decode jdk_68_method_68_code 10 = .ok (.ifCond .ne 7, 3) := by decide +kernel
theorem d21_13 : decode jdk_68_method_68_code 13 = .ok (.iconst 1, 1) := by decide +kernel
theorem d21_14 : decode jdk_68_method_68_code 14 = .ok (.goto 4, 3) := by decide +kernel
theorem d21_18 : decode jdk_68_method_68_code 18 = .ok (.ireturn, 1) := by decide +kernel
def Q_rmIL (Z : State) (r0 : Addr) (zc : Int32) (h0 : Heap) (n0 : Nat) (v : Option Value) (h : Heap) (L : List Loc) : Prop := (v = some (vI 1) ∧ Fr n0 L ∧ h = h0)
set_option maxRecDepth 65536 in
set_option maxHeartbeats 40000000 in
theorem rmIL (l : Launch) (Z : State) (a0 : Array Value) (hw : ∀ d ∈ tables_1, d.before a0 Z = true) (ws : List Jvm.Cond) (r0 : Addr) (zc : Int32) (h0 : Heap) (n0 : Nat) (Z0 : n0 ≤ h0.size) (uO : Old Z n0 h0) (uS : Sta Z Z.heap "java/lang/String" "COMPACT_STRINGS" "Z" (.int zc)) (uP : ¬ zc = 0) (uc : Fld Z h0 r0 "java/lang/AbstractStringBuilder" "coder" "B" z0) :
    MetFree l M4 (head1 (Jvm.Cond.code M4 jdk_68_method_68_code 1 (some .boolean) :: ws) ({ frames := 0, cells := 0, slots := 0, locals := 0 } : Room)) (fun a U => a = #[(.ref r0)] ∧ Z.Warmed39 U.vm ∧ U.heap = h0) (fun _ _ _ _ _ => True) (fun _ U o U' => ∃ v L, o = .returned v ∧ Q_rmIL Z r0 zc h0 n0 v U'.heap L ∧ FrameEnd U o U' L ({ frames := 0, cells := 0, slots := 0, locals := 0 } : Room).cells ({ frames := 0, cells := 0, slots := 0, locals := 0 } : Room).slots) := by
  refine MetFree.of_bodySF (plainFor_of_name pn_1) hisR ?_
  intro p e s m args below meth c s₁ Bd hml0 hP hK
  obtain ⟨rfl, hZ, hh⟩ := hP
  have hx := Bd.exec
  have hby := Bd.bytes
  have hml : c.maxLocals = 1 := hml0
  have hown : s.vm.findClass "java/lang/AbstractStringBuilder" = some m.cls := findClass_of_methodNamed Bd.named
  have hnm := (name_of_methodNamed Bd.named Bd.method).1
  have X0 : Stand p l e ({ frames := 0, cells := 0, slots := 0, locals := 0 } : Room) s m #[(.ref r0)] below meth c s₁ [] 0 0 := Stand.of_body Bd
  have e0 : s₁.heap = h0 := by rw [← hh, Bd.state]; rfl
  have N0 := Fr.nil n0
  have pre0 : ∀ t, Steps p.tables e below (s₁.setTop (mkF m 0 #[vr r0] [])) t → Steps p.tables e below (s₁.setTop (entryFrame m #[(.ref r0)] 1)) t := fun t k => castTop (ef_4 m r0) k
  obtain ⟨T1, X1, e1, st1⟩ := getS2 X0 hx hZ hown (host := "") (Or.inl (wd hw 21 rfl)) Via.refl e0 (uS.ext uO.2) (g := (mkF m 0 #[vr r0] [])) rfl (hb hby d21_0)
  obtain ⟨T2, X2, e2, st2⟩ := getF X1 hx hZ hown (host := "") (Or.inl (wd hw 26 rfl)) Via.refl e1 uc (g := (mkF m 7 #[vr r0] [(.ref r0)])) rfl rfl (hb hby d21_7)
  obtain ⟨fs, hr, hrun, hended, hW, hsame⟩ := X2.leave (v := some (.int (nar .boolean (1 : Int32)))) (fun h => by rw [Bd.returns] at h; cases h)
  refine ⟨_, _, pre0 _ ?_, hrun, hended, _, _, rfl, ?_, ⟨_, rfl⟩, hW, hsame.mono (by decide) (by decide)⟩
  · show SS p e below s₁ (mkF m 0 #[vr r0] []) _
    refine st1 _ ?_
    show SS p e below T1 (mkF m 3 #[vr r0] [(.int zc)]) _
    refine XS.ifNo X1.here hx rfl (hb hby d21_3) rfl ((if0 _ _).trans (feq (uP : ¬ (zc = (0 : Int32)))).1) ?_
    refine XS.aloadN X1.here hx rfl (hb hby d21_6) rfl rfl ?_
    refine st2 _ ?_
    show SS p e below T2 (mkF m 10 #[vr r0] [z0]) _
    refine XS.ifNo X2.here hx rfl (hb hby d21_10) rfl ((if0 _ _).trans (teq (by decide : (0 : Int32) = (0 : Int32))).2) ?_
    refine XS.iconst X2.here hx rfl (hb hby d21_13) ?_
    refine XS.goto X2.here hx rfl (pc0 := 14) (pc' := 18) rfl (hb hby d21_14) (by decide) (by decide) ?_
    exact retN X2 hx (t := .boolean) Bd.returns (by simp) (hb hby d21_18) hr
  · show Q_rmIL Z r0 zc h0 n0 _ T2.heap _
    rw [e2]
    exact ⟨(congrArg (fun z => some (Value.int z)) own_nz1), N0, rfl⟩
theorem ef_5 (m : MethodId) (x0 : Addr) (x1 : Addr) : entryFrame m #[(.ref x0), (.ref x1)] 2 = mkF m 0 #[vr x0, vr x1] [] := by first | (simp [entryFrame, mkF, argsToLocals, Value.category]; done) | rfl
theorem d16_0 : decode jdk_68_method_71_code 0 = .ok (.getstatic 18, 3) := by decide +kernel
theorem d16_3 : decode jdk_68_method_71_code 3 = .ok (.ifCond .eq 18, 3) := by decide +kernel
theorem d16_6 : decode jdk_68_method_71_code 6 = .ok (.aload_n 0, 1) := by decide +kernel
theorem d16_7 : decode jdk_68_method_71_code 7 = .ok (.getfield 22, 3) := by decide +kernel
theorem d16_10 : decode jdk_68_method_71_code 10 = .ok (.aload_n 1, 1) := by decide +kernel
theorem d16_11 : decode jdk_68_method_71_code 11 = .ok (.invokevirtual 40, 3) := by decide +kernel
theorem d16_14 : decode jdk_68_method_71_code 14 = .ok (.if_icmp .eq 7, 3) := by decide +kernel
theorem d16_21 : decode jdk_68_method_71_code 21 = .ok (.return_, 1) := by decide +kernel
def Q_rmInf (Z : State) (r0 : Addr) (r1 : Addr) (zc : Int32) (h0 : Heap) (n0 : Nat) (v : Option Value) (h : Heap) (L : List Loc) : Prop := (v = none ∧ Fr n0 L ∧ h = h0)
set_option maxRecDepth 65536 in
set_option maxHeartbeats 40000000 in
theorem rmInf (l : Launch) (Z : State) (a0 : Array Value) (hw : ∀ d ∈ tables_1, d.before a0 Z = true) (ws : List Jvm.Cond) (r0 : Addr) (r1 : Addr) (zc : Int32) (h0 : Heap) (n0 : Nat) (Z0 : n0 ≤ h0.size) (uO : Old Z n0 h0) (uS : Sta Z Z.heap "java/lang/String" "COMPACT_STRINGS" "Z" (.int zc)) (uP : ¬ zc = 0) (uc : Fld Z h0 r0 "java/lang/AbstractStringBuilder" "coder" "B" z0) (uE : Exa Z h0 r1 "java/lang/String") (uc1 : Fld Z h0 r1 "java/lang/String" "coder" "B" z0) :
    MetFree l M5 (head1 (Jvm.Cond.code M5 jdk_68_method_71_code 2 none :: ws) ({ frames := 1, cells := 0, slots := 0, locals := 13 } : Room)) (fun a U => a = #[(.ref r0), (.ref r1)] ∧ Z.Warmed39 U.vm ∧ U.heap = h0) (fun _ _ _ _ _ => True) (fun _ U o U' => ∃ v L, o = .returned v ∧ Q_rmInf Z r0 r1 zc h0 n0 v U'.heap L ∧ FrameEnd U o U' L ({ frames := 1, cells := 0, slots := 0, locals := 13 } : Room).cells ({ frames := 1, cells := 0, slots := 0, locals := 13 } : Room).slots) := by
  refine MetFree.of_bodySF (plainFor_of_name pn_1) hisR ?_
  intro p e s m args below meth c s₁ Bd hml0 hP hK
  obtain ⟨rfl, hZ, hh⟩ := hP
  have hx := Bd.exec
  have hby := Bd.bytes
  have hml : c.maxLocals = 2 := hml0
  have hown : s.vm.findClass "java/lang/AbstractStringBuilder" = some m.cls := findClass_of_methodNamed Bd.named
  have hnm := (name_of_methodNamed Bd.named Bd.method).1
  have X0 : Stand p l e ({ frames := 1, cells := 0, slots := 0, locals := 13 } : Room) s m #[(.ref r0), (.ref r1)] below meth c s₁ [] 0 0 := Stand.of_body Bd
  have e0 : s₁.heap = h0 := by rw [← hh, Bd.state]; rfl
  have N0 := Fr.nil n0
  have pre0 : ∀ t, Steps p.tables e below (s₁.setTop (mkF m 0 #[vr r0, vr r1] [])) t → Steps p.tables e below (s₁.setTop (entryFrame m #[(.ref r0), (.ref r1)] 2)) t := fun t k => castTop (ef_5 m r0 r1) k
  obtain ⟨T1, X1, e1, st1⟩ := getS2 X0 hx hZ hown (host := "") (Or.inl (wd hw 21 rfl)) Via.refl e0 (uS.ext uO.2) (g := (mkF m 0 #[vr r0, vr r1] [])) rfl (hb hby d16_0)
  obtain ⟨T2, X2, e2, st2⟩ := getF X1 hx hZ hown (host := "") (Or.inl (wd hw 26 rfl)) Via.refl e1 uc (g := (mkF m 7 #[vr r0, vr r1] [(.ref r0)])) rfl rfl (hb hby d16_7)
  obtain ⟨cq3, kq3, q3a, q3b, q3c⟩ := isOf hZ e2 uE
  obtain ⟨_, _, ⟨T3, Lw3, kw3, nw3⟩, -, X3, ⟨Lc3, hQ3, lq3, yq3, zq3⟩, st3⟩ := X2.virtualBack hx (y := M2) (z := M2) hown (mvT hZ (wd hw 100 rfl)) (mvT hZ (wd hw 51 rfl)) (notFace_of_selects (args := #[]) (mvT hZ (wd hw 53 rfl))) (mvT hZ (wd hw 53 rfl)) (mvT hZ (wd hw 52 rfl)) (by decide) (backOf (W := 1) (rmCoder l Z a0 hw [] r1 zc h0 n0 Z0 uO uS uP uc1) hZ (wd hw 54 rfl) (wd hw 22 rfl) (by decide) (by decide)) q3a q3c (g := (mkF m 11 #[vr r0, vr r1] [(.ref r1), z0])) rfl (by rw [hml]; rfl) (Steps.refl _) (argsL := []) (rest := [z0]) (lenOf pd_0 rfl) rfl (by show 2 * 0 + _ ≤ _; exact Nat.le_of_eq rfl) (hb hby d16_11) (fun _ _ => ⟨rfl, e2, (by decide : 0 + 0 ≤ _), (by decide : 0 + 0 ≤ _)⟩)
  dsimp only [Pt.U, Pt.locs, Pt.cells, Pt.slots] at X3 lq3 yq3 zq3 st3 hQ3
  have X3 := own_reb X3 lq3 yq3 zq3
  obtain ⟨rfl, Nq3, eh3⟩ := hQ3
  have N3 := Fr.app N0 Nq3
  obtain ⟨fs, hr, hrun, hended, hW, hsame⟩ := X3.leave (v := none) (fun _ => rfl)
  refine ⟨_, _, pre0 _ ?_, hrun, hended, _, _, rfl, ?_, ⟨_, rfl⟩, hW, hsame.mono (by decide) (by decide)⟩
  · show SS p e below s₁ (mkF m 0 #[vr r0, vr r1] []) _
    refine st1 _ ?_
    show SS p e below T1 (mkF m 3 #[vr r0, vr r1] [(.int zc)]) _
    refine XS.ifNo X1.here hx rfl (hb hby d16_3) rfl ((if0 _ _).trans (feq (uP : ¬ (zc = (0 : Int32)))).1) ?_
    refine XS.aloadN X1.here hx rfl (hb hby d16_6) rfl rfl ?_
    refine st2 _ ?_
    refine XS.aloadN X2.here hx rfl (hb hby d16_10) rfl rfl ?_
    show SS p e below T2 (mkF m 11 #[vr r0, vr r1] [(.ref r1), z0]) _
    refine st3.trans ?_
    show SS p e below T3 (mkF m 14 #[vr r0, vr r1] [z0, z0]) _
    refine XS.icmpYes X3.here hx rfl (pc0 := 14) (pc' := 21) rfl (hb hby d16_14) rfl (teq (by decide : (0 : Int32) = (0 : Int32))).1 (by decide) (by decide) ?_
    exact X3.returnOut hx Bd.returns (hb hby d16_21) hr
  · show Q_rmInf Z r0 r1 zc h0 n0 _ T3.heap _
    rw [eh3]
    exact ⟨rfl, N3, rfl⟩
theorem ef_6 (m : MethodId) (x0 : Addr) : entryFrame m #[(.ref x0), (vI 16)] 2 = mkF m 0 #[vr x0, vi (16 : Int32)] [] := by first | (simp [entryFrame, mkF, argsToLocals, Value.category]; done) | rfl
theorem d3_0 : decode jdk_68_method_2_code 0 = .ok (.aload_n 0, 1) := by decide +kernel
theorem d3_1 : decode jdk_68_method_2_code 1 = .ok (.invokespecial 3, 3) := by decide +kernel
theorem d3_4 : decode jdk_68_method_2_code 4 = .ok (.getstatic 18, 3) := by decide +kernel
theorem d3_7 : decode jdk_68_method_2_code 7 = .ok (.ifCond .eq 18, 3) := by decide +kernel
theorem d3_10 : decode jdk_68_method_2_code 10 = .ok (.aload_n 0, 1) := by decide +kernel
theorem d3_11 : decode jdk_68_method_2_code 11 = .ok (.iload_n 1, 1) := by decide +kernel
theorem d3_12 : decode jdk_68_method_2_code 12 = .ok (.newarray .byte, 2) := by decide +kernel
theorem d3_14 : decode jdk_68_method_2_code 14 = .ok (.putfield 15, 3) := by decide +kernel
theorem d3_17 : decode jdk_68_method_2_code 17 = .ok (.aload_n 0, 1) := by decide +kernel
theorem d3_18 : decode jdk_68_method_2_code 18 = .ok (.iconst 0, 1) := by decide +kernel
theorem d3_19 : decode jdk_68_method_2_code 19 = .ok (.putfield 22, 3) := by decide +kernel
theorem d3_22 : decode jdk_68_method_2_code 22 = .ok (.goto 16, 3) := by decide +kernel
theorem d3_38 : decode jdk_68_method_2_code 38 = .ok (.return_, 1) := by decide +kernel
def Q_rmASB (Z : State) (r0 : Addr) (zc : Int32) (h0 : Heap) (n0 : Nat) (v : Option Value) (h : Heap) (L : List Loc) : Prop := ∃ (nb : Addr), ∃ (nk : ClassId), (v = none ∧ Fr n0 L ∧ Keep h0 h [r0] ∧ Fld Z h r0 "java/lang/AbstractStringBuilder" "value" "[B" (.ref nb) ∧ Fld Z h r0 "java/lang/AbstractStringBuilder" "coder" "B" z0 ∧ Fld Z h r0 "java/lang/AbstractStringBuilder" "count" "I" z0 ∧ h0.size ≤ nb ∧ Exa Z h nb "[B" ∧ Arv Z h nb nk .byte (16 : Int32) [z0, z0, z0, z0, z0, z0, z0, z0, z0, z0, z0, z0, z0, z0, z0, z0] z0)
set_option maxRecDepth 65536 in
set_option maxHeartbeats 40000000 in
theorem rmASB (l : Launch) (Z : State) (a0 : Array Value) (hw : ∀ d ∈ tables_1, d.before a0 Z = true) (ws : List Jvm.Cond) (r0 : Addr) (zc : Int32) (h0 : Heap) (n0 : Nat) (Z0 : n0 ≤ h0.size) (uO : Old Z n0 h0) (uS : Sta Z Z.heap "java/lang/String" "COMPACT_STRINGS" "Z" (.int zc)) (uP : ¬ zc = 0) (uE : Exa Z h0 r0 "java/lang/StringBuilder") (uv : Fld Z h0 r0 "java/lang/AbstractStringBuilder" "value" "[B" .null) (uc : Fld Z h0 r0 "java/lang/AbstractStringBuilder" "coder" "B" z0) (uk : Fld Z h0 r0 "java/lang/AbstractStringBuilder" "count" "I" z0) (ug : n0 ≤ r0) :
    MetFree l M6 (head1 (Jvm.Cond.code M6 jdk_68_method_2_code 2 none :: ws) ({ frames := 1, cells := 1, slots := 16, locals := 12 } : Room)) (fun a U => a = #[(.ref r0), (vI 16)] ∧ Z.Warmed39 U.vm ∧ U.heap = h0) (fun _ _ _ _ _ => True) (fun _ U o U' => ∃ v L, o = .returned v ∧ Q_rmASB Z r0 zc h0 n0 v U'.heap L ∧ FrameEnd U o U' L ({ frames := 1, cells := 1, slots := 16, locals := 12 } : Room).cells ({ frames := 1, cells := 1, slots := 16, locals := 12 } : Room).slots) := by
  refine MetFree.of_bodySF (plainFor_of_name pn_1) hisR ?_
  intro p e s m args below meth c s₁ Bd hml0 hP hK
  obtain ⟨rfl, hZ, hh⟩ := hP
  have hx := Bd.exec
  have hby := Bd.bytes
  have hml : c.maxLocals = 2 := hml0
  have hown : s.vm.findClass "java/lang/AbstractStringBuilder" = some m.cls := findClass_of_methodNamed Bd.named
  have hnm := (name_of_methodNamed Bd.named Bd.method).1
  have X0 : Stand p l e ({ frames := 1, cells := 1, slots := 16, locals := 12 } : Room) s m #[(.ref r0), (vI 16)] below meth c s₁ [] 0 0 := Stand.of_body Bd
  have e0 : s₁.heap = h0 := by rw [← hh, Bd.state]; rfl
  have N0 := Fr.nil n0
  have pre0 : ∀ t, Steps p.tables e below (s₁.setTop (mkF m 0 #[vr r0, vi (16 : Int32)] [])) t → Steps p.tables e below (s₁.setTop (entryFrame m #[(.ref r0), (vI 16)] 2)) t := fun t k => castTop (ef_6 m r0) k
  obtain ⟨T1, X1, e1, st1⟩ := initO X0 hx hZ hown (wd hw 18 rfl) (wd hw 19 rfl) (wd hw 20 rfl) e0 (g := (mkF m 1 #[vr r0, vi (16 : Int32)] [(.ref r0)])) rfl (by rw [hml]; rfl) rfl (hb hby d3_1) (by decide) (W := 0) (by show 2 * 0 + _ ≤ _; exact Nat.le_of_eq rfl) (by decide)
  obtain ⟨T2, X2, e2, st2⟩ := getS2 X1 hx hZ hown (host := "") (Or.inl (wd hw 21 rfl)) Via.refl e1 (uS.ext uO.2) (g := (mkF m 4 #[vr r0, vi (16 : Int32)] [])) rfl (hb hby d3_4)
  obtain ⟨T3, h3, k3, X3, e3, E3, A3, AX3, st3⟩ := newPE X2 hx hZ (wd hw 23 rfl) e2 (g := (mkF m 12 #[vr r0, vi (16 : Int32)] [(vI 16), (.ref r0)])) rfl (hb hby d3_12) rfl (by decide) (cap := 16) (by decide) (by decide) (by decide) (by decide) (ad := "[B") (by decide)
  obtain ⟨b3, g3⟩ : ∃ z, z = h0.size := ⟨_, rfl⟩
  rw [← g3] at A3 AX3 st3
  have ne_r0_b3 : r0 ≠ b3 := Nat.ne_of_lt (Nat.lt_of_lt_of_le uE.lt (Nat.le_of_eq g3.symm))
  have V3 : Arv Z h3 b3 k3 .byte (16 : Int32) [z0, z0, z0, z0, z0, z0, z0, z0, z0, z0, z0, z0, z0, z0, z0, z0] z0 := (Arv.new A3 (by decide)).pad (pad_rep [] z0 16)
  have g_b3 : n0 ≤ b3 := Nat.le_trans Z0 (Nat.le_of_eq g3.symm)
  have sz_b3 : h0.size ≤ b3 := Nat.le_trans (Keep.refl h0 [r0]).1 (Nat.le_of_eq g3.symm)
  have K3 : Keep h0 h3 [r0] := (Keep.refl h0 [r0]).ext E3
  have Z3 : n0 ≤ h3.size := Nat.le_trans Z0 E3.1
  have c5 := (uE.ext E3)
  have c6 := (uv.ext E3)
  obtain ⟨T4, h4, X4, e4, W4, st4⟩ := putF X3 hx hZ hown (host := "") (Or.inl (wd hw 24 rfl)) Via.refl e3 c6 c5 (Or.inl (wd hw 25 rfl)) (wd hw 7 rfl) (ty := (.array .byte)) (by decide) rfl rfl (g := (mkF m 14 #[vr r0, vi (16 : Int32)] [(.ref b3), (.ref r0)])) rfl rfl (hb hby d3_14)
  have Fw4 := c6.same W4
  have N4 := Fr.snoc X4 N0 ug
  have K4 : Keep h0 h4 [r0] := K3.wr W4 (Or.inl (List.mem_of_getElem? (i := 0) rfl))
  have Z4 : n0 ≤ h4.size := by rw [W4.size]; exact Z3
  have c8 := (c5.wr W4)
  have c9 := ((uc.ext E3).other W4 (Or.inr (slot_ne (Or.inl (wd hw 27 rfl)) (Or.inl (wd hw 25 rfl)) (by decide) (t := .byte) (t' := (.array .byte)) (by decide) (by decide))))
  obtain ⟨T7, h7, X7, e7, W7, st7⟩ := putFN X4 hx hZ hown (wd hw 26 rfl) Via.refl e4 c9 c8 (Or.inl (wd hw 27 rfl)) (wd hw 7 rfl) (ty := .byte) (v' := z0) (by decide) rfl rfl (g := (mkF m 19 #[vr r0, vi (16 : Int32)] [z0, (.ref r0)])) rfl rfl (hb hby d3_19)
  have Fw7 := c9.same W7
  have N7 := Fr.snoc X7 N4 ug
  have K7 : Keep h0 h7 [r0] := K4.wr W7 (Or.inl (List.mem_of_getElem? (i := 0) rfl))
  have Z7 : n0 ≤ h7.size := by rw [W7.size]; exact Z4
  have c10 := (Fw4.other W7 (Or.inr (slot_ne (Or.inl (wd hw 25 rfl)) (Or.inl (wd hw 27 rfl)) (by decide) (t := (.array .byte)) (t' := .byte) (by decide) (by decide))))
  have c11 := (((uk.ext E3).other W4 (Or.inr (slot_ne (Or.inl (wd hw 58 rfl)) (Or.inl (wd hw 25 rfl)) (by decide) (t := .int) (t' := (.array .byte)) (by decide) (by decide)))).other W7 (Or.inr (slot_ne (Or.inl (wd hw 58 rfl)) (Or.inl (wd hw 27 rfl)) (by decide) (t := .int) (t' := .byte) (by decide) (by decide))))
  have c12 := ((AX3.wr W4).wr W7)
  have c13 := ((V3.other W4 (Ne.symm ne_r0_b3)).other W7 (Ne.symm ne_r0_b3))
  obtain ⟨fs, hr, hrun, hended, hW, hsame⟩ := X7.leave (v := none) (fun _ => rfl)
  refine ⟨_, _, pre0 _ ?_, hrun, hended, _, _, rfl, ?_, ⟨_, rfl⟩, hW, hsame.mono (by decide) (by decide)⟩
  · show SS p e below s₁ (mkF m 0 #[vr r0, vi (16 : Int32)] []) _
    refine XS.aloadN X0.here hx rfl (hb hby d3_0) rfl rfl ?_
    show SS p e below s₁ (mkF m 1 #[vr r0, vi (16 : Int32)] [(.ref r0)]) _
    refine st1 _ ?_
    show SS p e below T1 (mkF m 4 #[vr r0, vi (16 : Int32)] []) _
    refine st2 _ ?_
    show SS p e below T2 (mkF m 7 #[vr r0, vi (16 : Int32)] [(.int zc)]) _
    refine XS.ifNo X2.here hx rfl (hb hby d3_7) rfl ((if0 _ _).trans (feq (uP : ¬ (zc = (0 : Int32)))).1) ?_
    refine XS.aloadN X2.here hx rfl (hb hby d3_10) rfl rfl ?_
    refine XS.iloadN X2.here hx rfl (hb hby d3_11) rfl ?_
    refine st3 _ ?_
    refine st4 _ ?_
    refine XS.aloadN X4.here hx rfl (hb hby d3_17) rfl rfl ?_
    refine XS.iconst X4.here hx rfl (hb hby d3_18) ?_
    refine st7 _ ?_
    refine XS.goto X7.here hx rfl (pc0 := 22) (pc' := 38) rfl (hb hby d3_22) (by decide) (by decide) ?_
    exact X7.returnOut hx Bd.returns (hb hby d3_38) hr
  · show Q_rmASB Z r0 zc h0 n0 _ T7.heap _
    rw [e7]
    exact ⟨b3, k3, rfl, N7, K7, c10, Fw7, c11, sz_b3, c12, c13⟩
theorem ef_7 (m : MethodId) (x0 : Addr) : entryFrame m #[(.ref x0)] 1 = mkF m 0 #[vr x0] [] := by first | (simp [entryFrame, mkF, argsToLocals, Value.category]; done) | rfl
theorem pn_2 : plainName "java/lang/StringBuilder" = true := by first | (simp [plainName, overriddenIn]; done) | decide +kernel
theorem d2_0 : decode jdk_67_method_1_code 0 = .ok (.aload_n 0, 1) := by decide +kernel
theorem d2_1 : decode jdk_67_method_1_code 1 = .ok (.bipush 16, 2) := by decide +kernel
theorem d2_3 : decode jdk_67_method_1_code 3 = .ok (.invokespecial 1, 3) := by decide +kernel
theorem pd_1 : parseMethodDescriptor "(I)V" = some ⟨[.int], none⟩ := by decide +kernel
theorem d2_6 : decode jdk_67_method_1_code 6 = .ok (.return_, 1) := by decide +kernel
def Q_rmSB (Z : State) (r0 : Addr) (zc : Int32) (h0 : Heap) (n0 : Nat) (v : Option Value) (h : Heap) (L : List Loc) : Prop := ∃ (nb : Addr), ∃ (nk : ClassId), (v = none ∧ Fr n0 L ∧ Keep h0 h [r0] ∧ Fld Z h r0 "java/lang/AbstractStringBuilder" "value" "[B" (.ref nb) ∧ Fld Z h r0 "java/lang/AbstractStringBuilder" "coder" "B" z0 ∧ Fld Z h r0 "java/lang/AbstractStringBuilder" "count" "I" z0 ∧ h0.size ≤ nb ∧ Exa Z h nb "[B" ∧ Arv Z h nb nk .byte (16 : Int32) [z0, z0, z0, z0, z0, z0, z0, z0, z0, z0, z0, z0, z0, z0, z0, z0] z0)
set_option maxRecDepth 65536 in
set_option maxHeartbeats 40000000 in
theorem rmSB (l : Launch) (Z : State) (a0 : Array Value) (hw : ∀ d ∈ tables_1, d.before a0 Z = true) (ws : List Jvm.Cond) (r0 : Addr) (zc : Int32) (h0 : Heap) (n0 : Nat) (Z0 : n0 ≤ h0.size) (uO : Old Z n0 h0) (uS : Sta Z Z.heap "java/lang/String" "COMPACT_STRINGS" "Z" (.int zc)) (uP : ¬ zc = 0) (uE : Exa Z h0 r0 "java/lang/StringBuilder") (uv : Fld Z h0 r0 "java/lang/AbstractStringBuilder" "value" "[B" .null) (uc : Fld Z h0 r0 "java/lang/AbstractStringBuilder" "coder" "B" z0) (uk : Fld Z h0 r0 "java/lang/AbstractStringBuilder" "count" "I" z0) (ug : n0 ≤ r0) :
    MetFree l M7 (head1 (Jvm.Cond.code M7 jdk_67_method_1_code 1 none :: ws) ({ frames := 2, cells := 1, slots := 16, locals := 25 } : Room)) (fun a U => a = #[(.ref r0)] ∧ Z.Warmed39 U.vm ∧ U.heap = h0) (fun _ _ _ _ _ => True) (fun _ U o U' => ∃ v L, o = .returned v ∧ Q_rmSB Z r0 zc h0 n0 v U'.heap L ∧ FrameEnd U o U' L ({ frames := 2, cells := 1, slots := 16, locals := 25 } : Room).cells ({ frames := 2, cells := 1, slots := 16, locals := 25 } : Room).slots) := by
  refine MetFree.of_bodySF (plainFor_of_name pn_2) hisR ?_
  intro p e s m args below meth c s₁ Bd hml0 hP hK
  obtain ⟨rfl, hZ, hh⟩ := hP
  have hx := Bd.exec
  have hby := Bd.bytes
  have hml : c.maxLocals = 1 := hml0
  have hown : s.vm.findClass "java/lang/StringBuilder" = some m.cls := findClass_of_methodNamed Bd.named
  have hnm := (name_of_methodNamed Bd.named Bd.method).1
  have X0 : Stand p l e ({ frames := 2, cells := 1, slots := 16, locals := 25 } : Room) s m #[(.ref r0)] below meth c s₁ [] 0 0 := Stand.of_body Bd
  have e0 : s₁.heap = h0 := by rw [← hh, Bd.state]; rfl
  have N0 := Fr.nil n0
  have pre0 : ∀ t, Steps p.tables e below (s₁.setTop (mkF m 0 #[vr r0] [])) t → Steps p.tables e below (s₁.setTop (entryFrame m #[(.ref r0)] 1)) t := fun t k => castTop (ef_7 m r0) k
  obtain ⟨_, _, ⟨T1, Lw1, kw1, nw1⟩, -, X1, ⟨Lc1, hQ1, lq1, yq1, zq1⟩, st1⟩ := X0.specialBack hx (y := M6) rfl hown (mvT hZ (wd hw 12 rfl)) (mvT hZ (wd hw 13 rfl)) (mvT hZ (wd hw 17 rfl)) (by decide) (backOf (W := 0) (rmASB l Z a0 hw [] r0 zc h0 n0 Z0 uO uS uP uE uv uc uk ug) hZ (wd hw 17 rfl) (wd hw 16 rfl) (by decide) (by decide)) (g := (mkF m 3 #[vr r0] [(vI 16), (.ref r0)])) rfl (by rw [hml]; rfl) (Steps.refl _) (a := r0) (argsL := [(vI 16)]) (rest := []) (lenOf pd_1 rfl) rfl (by show 2 * 0 + _ ≤ _; exact Nat.le_of_eq rfl) (hb hby d2_3) (fun _ _ => ⟨rfl, e0, (by decide : 0 + 1 ≤ _), (by decide : 0 + 16 ≤ _)⟩)
  dsimp only [Pt.U, Pt.locs, Pt.cells, Pt.slots] at X1 lq1 yq1 zq1 st1 hQ1
  have X1 := own_reb X1 lq1 yq1 zq1
  obtain ⟨nb_1, nk_1, rfl, Nq1, Kq1, f1_0, f1_1, f1_2, f1_3, f1_4, f1_5⟩ := hQ1
  have N1 := Fr.app N0 Nq1
  have ne_r0_nb_1 : r0 ≠ nb_1 := Nat.ne_of_lt (Nat.lt_of_lt_of_le uE.lt f1_3)
  have g_nb_1 : n0 ≤ nb_1 := Nat.le_trans Z0 f1_3
  have sz_nb_1 : h0.size ≤ nb_1 := Nat.le_trans (Keep.refl h0 [r0]).1 f1_3
  have K1 : Keep h0 T1.heap [r0] := (Keep.refl h0 [r0]).trans Kq1 (allS (Or.inl (List.mem_of_getElem? (i := 0) rfl)) all0)
  have Z1 : n0 ≤ T1.heap.size := Nat.le_trans Z0 Kq1.1
  obtain ⟨fs, hr, hrun, hended, hW, hsame⟩ := X1.leave (v := none) (fun _ => rfl)
  refine ⟨_, _, pre0 _ ?_, hrun, hended, _, _, rfl, ?_, ⟨_, rfl⟩, hW, hsame.mono (by decide) (by decide)⟩
  · show SS p e below s₁ (mkF m 0 #[vr r0] []) _
    refine XS.aloadN X0.here hx rfl (hb hby d2_0) rfl rfl ?_
    refine XS.bipush X0.here hx rfl (hb hby d2_1) ?_
    show SS p e below s₁ (mkF m 3 #[vr r0] [(vI 16), (.ref r0)]) _
    refine st1.trans ?_
    exact X1.returnOut hx Bd.returns (hb hby d2_6) hr
  · show Q_rmSB Z r0 zc h0 n0 _ T1.heap _
    exact ⟨nb_1, nk_1, rfl, N1, K1, f1_0, f1_1, f1_2, sz_nb_1, f1_4, f1_5⟩
theorem ef_8 (m : MethodId) (x0 : Addr) : entryFrame m #[(.ref x0)] 1 = mkF m 0 #[vr x0] [] := by first | (simp [entryFrame, mkF, argsToLocals, Value.category]; done) | rfl
theorem d26_0 : decode jdk_68_method_64_code 0 = .ok (.aload_n 0, 1) := by decide +kernel
theorem d26_1 : decode jdk_68_method_64_code 1 = .ok (.getfield 15, 3) := by decide +kernel
theorem d26_4 : decode jdk_68_method_64_code 4 = .ok (.areturn, 1) := by decide +kernel
def Q_rmGV (Z : State) (r0 : Addr) (rv : Addr) (h0 : Heap) (n0 : Nat) (v : Option Value) (h : Heap) (L : List Loc) : Prop := (v = some (.ref rv) ∧ Fr n0 L ∧ h = h0)
set_option maxRecDepth 65536 in
set_option maxHeartbeats 40000000 in
theorem rmGV (l : Launch) (Z : State) (a0 : Array Value) (hw : ∀ d ∈ tables_1, d.before a0 Z = true) (ws : List Jvm.Cond) (r0 : Addr) (rv : Addr) (h0 : Heap) (n0 : Nat) (Z0 : n0 ≤ h0.size) (uv : Fld Z h0 r0 "java/lang/AbstractStringBuilder" "value" "[B" (.ref rv)) :
    MetFree l M8 (head1 (Jvm.Cond.code M8 jdk_68_method_64_code 1 (some (.array .byte)) :: ws) ({ frames := 0, cells := 0, slots := 0, locals := 0 } : Room)) (fun a U => a = #[(.ref r0)] ∧ Z.Warmed39 U.vm ∧ U.heap = h0) (fun _ _ _ _ _ => True) (fun _ U o U' => ∃ v L, o = .returned v ∧ Q_rmGV Z r0 rv h0 n0 v U'.heap L ∧ FrameEnd U o U' L ({ frames := 0, cells := 0, slots := 0, locals := 0 } : Room).cells ({ frames := 0, cells := 0, slots := 0, locals := 0 } : Room).slots) := by
  refine MetFree.of_bodySF (plainFor_of_name pn_1) hisR ?_
  intro p e s m args below meth c s₁ Bd hml0 hP hK
  obtain ⟨rfl, hZ, hh⟩ := hP
  have hx := Bd.exec
  have hby := Bd.bytes
  have hml : c.maxLocals = 1 := hml0
  have hown : s.vm.findClass "java/lang/AbstractStringBuilder" = some m.cls := findClass_of_methodNamed Bd.named
  have hnm := (name_of_methodNamed Bd.named Bd.method).1
  have X0 : Stand p l e ({ frames := 0, cells := 0, slots := 0, locals := 0 } : Room) s m #[(.ref r0)] below meth c s₁ [] 0 0 := Stand.of_body Bd
  have e0 : s₁.heap = h0 := by rw [← hh, Bd.state]; rfl
  have N0 := Fr.nil n0
  have pre0 : ∀ t, Steps p.tables e below (s₁.setTop (mkF m 0 #[vr r0] [])) t → Steps p.tables e below (s₁.setTop (entryFrame m #[(.ref r0)] 1)) t := fun t k => castTop (ef_8 m r0) k
  obtain ⟨T1, X1, e1, st1⟩ := getF X0 hx hZ hown (host := "") (Or.inl (wd hw 24 rfl)) Via.refl e0 uv (g := (mkF m 1 #[vr r0] [(.ref r0)])) rfl rfl (hb hby d26_1)
  obtain ⟨fs, hr, hrun, hended, hW, hsame⟩ := X1.leave (v := some (.ref rv)) (fun h => by rw [Bd.returns] at h; cases h)
  refine ⟨_, _, pre0 _ ?_, hrun, hended, _, _, rfl, ?_, ⟨_, rfl⟩, hW, hsame.mono (by decide) (by decide)⟩
  · show SS p e below s₁ (mkF m 0 #[vr r0] []) _
    refine XS.aloadN X0.here hx rfl (hb hby d26_0) rfl rfl ?_
    refine st1 _ ?_
    exact retOut X1 hx Bd.returns rfl (Or.inr (Or.inr (Or.inr (Or.inr ⟨rfl, rfl, rfl⟩)))) (hb hby d26_4) hr
  · show Q_rmGV Z r0 rv h0 n0 _ T1.heap _
    rw [e1]
    exact ⟨rfl, N0, rfl⟩
theorem ef_9 (m : MethodId) (x0 : Addr) : entryFrame m #[(.ref x0)] 1 = mkF m 0 #[vr x0] [] := by first | (simp [entryFrame, mkF, argsToLocals, Value.category]; done) | rfl
theorem d28_0 : decode jdk_68_method_6_code 0 = .ok (.aload_n 0, 1) := by decide +kernel
theorem d28_1 : decode jdk_68_method_6_code 1 = .ok (.getfield 79, 3) := by decide +kernel
theorem d28_4 : decode jdk_68_method_6_code 4 = .ok (.ireturn, 1) := by decide +kernel
def Q_rmAL (Z : State) (r0 : Addr) (cn : Int32) (h0 : Heap) (n0 : Nat) (v : Option Value) (h : Heap) (L : List Loc) : Prop := (v = some (.int cn) ∧ Fr n0 L ∧ h = h0)
set_option maxRecDepth 65536 in
set_option maxHeartbeats 40000000 in
theorem rmAL (l : Launch) (Z : State) (a0 : Array Value) (hw : ∀ d ∈ tables_1, d.before a0 Z = true) (ws : List Jvm.Cond) (r0 : Addr) (cn : Int32) (h0 : Heap) (n0 : Nat) (Z0 : n0 ≤ h0.size) (uk : Fld Z h0 r0 "java/lang/AbstractStringBuilder" "count" "I" (.int cn)) :
    MetFree l M9 (head1 (Jvm.Cond.code M9 jdk_68_method_6_code 1 (some .int) :: ws) ({ frames := 0, cells := 0, slots := 0, locals := 0 } : Room)) (fun a U => a = #[(.ref r0)] ∧ Z.Warmed39 U.vm ∧ U.heap = h0) (fun _ _ _ _ _ => True) (fun _ U o U' => ∃ v L, o = .returned v ∧ Q_rmAL Z r0 cn h0 n0 v U'.heap L ∧ FrameEnd U o U' L ({ frames := 0, cells := 0, slots := 0, locals := 0 } : Room).cells ({ frames := 0, cells := 0, slots := 0, locals := 0 } : Room).slots) := by
  refine MetFree.of_bodySF (plainFor_of_name pn_1) hisR ?_
  intro p e s m args below meth c s₁ Bd hml0 hP hK
  obtain ⟨rfl, hZ, hh⟩ := hP
  have hx := Bd.exec
  have hby := Bd.bytes
  have hml : c.maxLocals = 1 := hml0
  have hown : s.vm.findClass "java/lang/AbstractStringBuilder" = some m.cls := findClass_of_methodNamed Bd.named
  have hnm := (name_of_methodNamed Bd.named Bd.method).1
  have X0 : Stand p l e ({ frames := 0, cells := 0, slots := 0, locals := 0 } : Room) s m #[(.ref r0)] below meth c s₁ [] 0 0 := Stand.of_body Bd
  have e0 : s₁.heap = h0 := by rw [← hh, Bd.state]; rfl
  have N0 := Fr.nil n0
  have pre0 : ∀ t, Steps p.tables e below (s₁.setTop (mkF m 0 #[vr r0] [])) t → Steps p.tables e below (s₁.setTop (entryFrame m #[(.ref r0)] 1)) t := fun t k => castTop (ef_9 m r0) k
  obtain ⟨T1, X1, e1, st1⟩ := getF X0 hx hZ hown (host := "") (Or.inl (wd hw 57 rfl)) Via.refl e0 uk (g := (mkF m 1 #[vr r0] [(.ref r0)])) rfl rfl (hb hby d28_1)
  obtain ⟨fs, hr, hrun, hended, hW, hsame⟩ := X1.leave (v := some (.int cn)) (fun h => by rw [Bd.returns] at h; cases h)
  refine ⟨_, _, pre0 _ ?_, hrun, hended, _, _, rfl, ?_, ⟨_, rfl⟩, hW, hsame.mono (by decide) (by decide)⟩
  · show SS p e below s₁ (mkF m 0 #[vr r0] []) _
    refine XS.aloadN X0.here hx rfl (hb hby d28_0) rfl rfl ?_
    refine st1 _ ?_
    exact retI X1 hx Bd.returns (hb hby d28_4) hr
  · show Q_rmAL Z r0 cn h0 n0 _ T1.heap _
    rw [e1]
    exact ⟨rfl, N0, rfl⟩
theorem ef_10 (m : MethodId) (x0 : Addr) : entryFrame m #[(.ref x0)] 1 = mkF m 0 #[vr x0] [] := by first | (simp [entryFrame, mkF, argsToLocals, Value.category]; done) | rfl
theorem d27_0 : decode jdk_67_method_93_code 0 = .ok (.aload_n 0, 1) := by decide +kernel
theorem d27_1 : decode jdk_67_method_93_code 1 = .ok (.invokespecial 343, 3) := by decide +kernel
theorem pd_2 : parseMethodDescriptor "()I" = some ⟨[], some .int⟩ := by decide +kernel
theorem d27_4 : decode jdk_67_method_93_code 4 = .ok (.ireturn, 1) := by decide +kernel
def Q_rmSL (Z : State) (r0 : Addr) (cn : Int32) (h0 : Heap) (n0 : Nat) (v : Option Value) (h : Heap) (L : List Loc) : Prop := (v = some (.int cn) ∧ Fr n0 L ∧ h = h0)
set_option maxRecDepth 65536 in
set_option maxHeartbeats 40000000 in
theorem rmSL (l : Launch) (Z : State) (a0 : Array Value) (hw : ∀ d ∈ tables_1, d.before a0 Z = true) (ws : List Jvm.Cond) (r0 : Addr) (cn : Int32) (h0 : Heap) (n0 : Nat) (Z0 : n0 ≤ h0.size) (uE : Exa Z h0 r0 "java/lang/StringBuilder") (uk : Fld Z h0 r0 "java/lang/AbstractStringBuilder" "count" "I" (.int cn)) :
    MetFree l M10 (head1 (Jvm.Cond.code M10 jdk_67_method_93_code 1 (some .int) :: ws) ({ frames := 1, cells := 0, slots := 0, locals := 12 } : Room)) (fun a U => a = #[(.ref r0)] ∧ Z.Warmed39 U.vm ∧ U.heap = h0) (fun _ _ _ _ _ => True) (fun _ U o U' => ∃ v L, o = .returned v ∧ Q_rmSL Z r0 cn h0 n0 v U'.heap L ∧ FrameEnd U o U' L ({ frames := 1, cells := 0, slots := 0, locals := 12 } : Room).cells ({ frames := 1, cells := 0, slots := 0, locals := 12 } : Room).slots) := by
  refine MetFree.of_bodySF (plainFor_of_name pn_2) hisR ?_
  intro p e s m args below meth c s₁ Bd hml0 hP hK
  obtain ⟨rfl, hZ, hh⟩ := hP
  have hx := Bd.exec
  have hby := Bd.bytes
  have hml : c.maxLocals = 1 := hml0
  have hown : s.vm.findClass "java/lang/StringBuilder" = some m.cls := findClass_of_methodNamed Bd.named
  have hnm := (name_of_methodNamed Bd.named Bd.method).1
  have X0 : Stand p l e ({ frames := 1, cells := 0, slots := 0, locals := 12 } : Room) s m #[(.ref r0)] below meth c s₁ [] 0 0 := Stand.of_body Bd
  have e0 : s₁.heap = h0 := by rw [← hh, Bd.state]; rfl
  have N0 := Fr.nil n0
  have pre0 : ∀ t, Steps p.tables e below (s₁.setTop (mkF m 0 #[vr r0] [])) t → Steps p.tables e below (s₁.setTop (entryFrame m #[(.ref r0)] 1)) t := fun t k => castTop (ef_10 m r0) k
  obtain ⟨_, _, ⟨T1, Lw1, kw1, nw1⟩, -, X1, ⟨Lc1, hQ1, lq1, yq1, zq1⟩, st1⟩ := superBack X0 hx hZ (y := M9) hown (wd hw 155 rfl) (own_same (wd hw 151 rfl) (own_face (wd hw 62 rfl) rfl) (by decide)) (wd hw 151 rfl) (wd hw 41 rfl) (by decide) (backOf (W := 0) (rmAL l Z a0 hw [] r0 cn h0 n0 Z0 uk) hZ (wd hw 156 rfl) (wd hw 16 rfl) (by decide) (by decide)) e0 (Ins.self uE) (g := (mkF m 1 #[vr r0] [(.ref r0)])) rfl (by rw [hml]; rfl) (wd hw 156 rfl) (argsL := []) (rest := []) (lenOf pd_2 rfl) rfl (by show 2 * 0 + _ ≤ _; exact Nat.le_of_eq rfl) (hb hby d27_1) (fun _ _ => ⟨rfl, e0, (by decide : 0 + 0 ≤ _), (by decide : 0 + 0 ≤ _)⟩)
  dsimp only [Pt.U, Pt.locs, Pt.cells, Pt.slots] at X1 lq1 yq1 zq1 st1 hQ1
  have X1 := own_reb X1 lq1 yq1 zq1
  obtain ⟨rfl, Nq1, eh1⟩ := hQ1
  have N1 := Fr.app N0 Nq1
  obtain ⟨fs, hr, hrun, hended, hW, hsame⟩ := X1.leave (v := some (.int cn)) (fun h => by rw [Bd.returns] at h; cases h)
  refine ⟨_, _, pre0 _ ?_, hrun, hended, _, _, rfl, ?_, ⟨_, rfl⟩, hW, hsame.mono (by decide) (by decide)⟩
  · show SS p e below s₁ (mkF m 0 #[vr r0] []) _
    refine XS.aloadN X0.here hx rfl (hb hby d27_0) rfl rfl ?_
    show SS p e below s₁ (mkF m 1 #[vr r0] [(.ref r0)]) _
    refine st1.trans ?_
    exact retI X1 hx Bd.returns (hb hby d27_4) hr
  · show Q_rmSL Z r0 cn h0 n0 _ T1.heap _
    rw [eh1]
    exact ⟨rfl, N1, rfl⟩
theorem ef_11 (m : MethodId) (x0 : Int32) (x1 : Int32) : entryFrame m #[(.int x0), (.int x1)] 2 = mkF m 0 #[vi x0, vi x1] [] := by first | (simp [entryFrame, mkF, argsToLocals, Value.category]; done) | rfl
theorem pn_3 : plainName "java/util/Arrays" = true := by first | (simp [plainName, overriddenIn]; done) | decide +kernel
theorem d55_0 : decode jdk_65_method_131_code 0 = .ok (.iload_n 1, 1) := by decide +kernel
theorem d55_1 : decode jdk_65_method_131_code 1 = .ok (.iload_n 0, 1) := by decide +kernel
theorem d55_2 : decode jdk_65_method_131_code 2 = .ok (.if_icmp .ge 35, 3) := by decide +kernel
theorem d55_37 : decode jdk_65_method_131_code 37 = .ok (.return_, 1) := by decide +kernel
def Q_rmChk (Z : State) (p0 : Int32) (p1 : Int32) (h0 : Heap) (n0 : Nat) (v : Option Value) (h : Heap) (L : List Loc) : Prop := (v = none ∧ Fr n0 L ∧ h = h0)
set_option maxRecDepth 65536 in
set_option maxHeartbeats 40000000 in
theorem rmChk (l : Launch) (Z : State) (a0 : Array Value) (hw : ∀ d ∈ tables_1, d.before a0 Z = true) (ws : List Jvm.Cond) (p0 : Int32) (p1 : Int32) (h0 : Heap) (n0 : Nat) (Z0 : n0 ≤ h0.size) (u1 : ¬ (p1 < p0)) :
    MetFree l M11 (head1 (Jvm.Cond.code M11 jdk_65_method_131_code 2 none :: ws) ({ frames := 0, cells := 0, slots := 0, locals := 0 } : Room)) (fun a U => a = #[(.int p0), (.int p1)] ∧ Z.Warmed39 U.vm ∧ U.heap = h0) (fun _ _ _ _ _ => True) (fun _ U o U' => ∃ v L, o = .returned v ∧ Q_rmChk Z p0 p1 h0 n0 v U'.heap L ∧ FrameEnd U o U' L ({ frames := 0, cells := 0, slots := 0, locals := 0 } : Room).cells ({ frames := 0, cells := 0, slots := 0, locals := 0 } : Room).slots) := by
  refine MetFree.of_bodySF (plainFor_of_name pn_3) hisR ?_
  intro p e s m args below meth c s₁ Bd hml0 hP hK
  obtain ⟨rfl, hZ, hh⟩ := hP
  have hx := Bd.exec
  have hby := Bd.bytes
  have hml : c.maxLocals = 2 := hml0
  have hown : s.vm.findClass "java/util/Arrays" = some m.cls := findClass_of_methodNamed Bd.named
  have hnm := (name_of_methodNamed Bd.named Bd.method).1
  have X0 : Stand p l e ({ frames := 0, cells := 0, slots := 0, locals := 0 } : Room) s m #[(.int p0), (.int p1)] below meth c s₁ [] 0 0 := Stand.of_body Bd
  have e0 : s₁.heap = h0 := by rw [← hh, Bd.state]; rfl
  have N0 := Fr.nil n0
  have pre0 : ∀ t, Steps p.tables e below (s₁.setTop (mkF m 0 #[vi p0, vi p1] [])) t → Steps p.tables e below (s₁.setTop (entryFrame m #[(.int p0), (.int p1)] 2)) t := fun t k => castTop (ef_11 m p0 p1) k
  obtain ⟨fs, hr, hrun, hended, hW, hsame⟩ := X0.leave (v := none) (fun _ => rfl)
  refine ⟨_, _, pre0 _ ?_, hrun, hended, _, _, rfl, ?_, ⟨_, rfl⟩, hW, hsame.mono (by decide) (by decide)⟩
  · show SS p e below s₁ (mkF m 0 #[vi p0, vi p1] []) _
    refine XS.iloadN X0.here hx rfl (hb hby d55_0) rfl ?_
    refine XS.iloadN X0.here hx rfl (hb hby d55_1) rfl ?_
    show SS p e below s₁ (mkF m 2 #[vi p0, vi p1] [(.int p0), (.int p1)]) _
    refine XS.icmpYes X0.here hx rfl (pc0 := 2) (pc' := 37) rfl (hb hby d55_2) rfl (flt (u1 : ¬ (p1 < p0))).2.1 (by decide) (by decide) ?_
    exact X0.returnOut hx Bd.returns (hb hby d55_37) hr
  · show Q_rmChk Z p0 p1 h0 n0 _ s₁.heap _
    rw [e0]
    exact ⟨rfl, N0, rfl⟩
theorem ef_12 (m : MethodId) (x0 : Addr) (x1 : Int32) : entryFrame m #[(.ref x0), (.int x1)] 3 = mkF m 0 #[vr x0, vi x1, uu] [] := by first | (simp [entryFrame, mkF, argsToLocals, Value.category]; done) | rfl
theorem d9_0 : decode jdk_68_method_9_code 0 = .ok (.aload_n 0, 1) := by decide +kernel
theorem d9_1 : decode jdk_68_method_9_code 1 = .ok (.getfield 15, 3) := by decide +kernel
theorem d9_4 : decode jdk_68_method_9_code 4 = .ok (.arraylength, 1) := by decide +kernel
theorem d9_5 : decode jdk_68_method_9_code 5 = .ok (.aload_n 0, 1) := by decide +kernel
theorem d9_6 : decode jdk_68_method_9_code 6 = .ok (.getfield 22, 3) := by decide +kernel
theorem d9_9 : decode jdk_68_method_9_code 9 = .ok (.ishr, 1) := by decide +kernel
theorem d9_10 : decode jdk_68_method_9_code 10 = .ok (.istore_n 2, 1) := by decide +kernel
theorem d9_11 : decode jdk_68_method_9_code 11 = .ok (.iload_n 1, 1) := by decide +kernel
theorem d9_12 : decode jdk_68_method_9_code 12 = .ok (.iload_n 2, 1) := by decide +kernel
theorem d9_13 : decode jdk_68_method_9_code 13 = .ok (.isub, 1) := by decide +kernel
theorem d9_14 : decode jdk_68_method_9_code 14 = .ok (.ifCond .le 24, 3) := by decide +kernel
theorem d9_38 : decode jdk_68_method_9_code 38 = .ok (.return_, 1) := by decide +kernel
def Q_rg_ensK (Z : State) (r0 : Addr) (p1 : Int32) (rv : Addr) (kv : ClassId) (zv : Int32) (vv : List Value) (h0 : Heap) (n0 : Nat) (v : Option Value) (h : Heap) (L : List Loc) : Prop := (v = none ∧ Fr n0 L ∧ h = h0)
set_option maxRecDepth 65536 in
set_option maxHeartbeats 40000000 in
theorem rg_ensK (l : Launch) (Z : State) (a0 : Array Value) (hw : ∀ d ∈ tables_1, d.before a0 Z = true) (ws : List Jvm.Cond) (r0 : Addr) (p1 : Int32) (rv : Addr) (kv : ClassId) (zv : Int32) (vv : List Value) (h0 : Heap) (n0 : Nat) (Z0 : n0 ≤ h0.size) (uE : Exa Z h0 r0 "java/lang/StringBuilder") (uv : Fld Z h0 r0 "java/lang/AbstractStringBuilder" "value" "[B" (.ref rv)) (uc : Fld Z h0 r0 "java/lang/AbstractStringBuilder" "coder" "B" z0) (uV : Arv Z h0 rv kv .byte zv vv z0) (uK : ¬ ((0 : Int32) < (p1 - zv))) :
    MetFree l M12 (head1 (Jvm.Cond.code M12 jdk_68_method_9_code 3 none :: ws) ({ frames := 0, cells := 0, slots := 0, locals := 0 } : Room)) (fun a U => a = #[(.ref r0), (.int p1)] ∧ Z.Warmed39 U.vm ∧ U.heap = h0) (fun _ _ _ _ _ => True) (fun _ U o U' => ∃ v L, o = .returned v ∧ Q_rg_ensK Z r0 p1 rv kv zv vv h0 n0 v U'.heap L ∧ FrameEnd U o U' L ({ frames := 0, cells := 0, slots := 0, locals := 0 } : Room).cells ({ frames := 0, cells := 0, slots := 0, locals := 0 } : Room).slots) := by
  refine MetFree.of_bodySF (plainFor_of_name pn_1) hisR ?_
  intro p e s m args below meth c s₁ Bd hml0 hP hK
  obtain ⟨rfl, hZ, hh⟩ := hP
  have hx := Bd.exec
  have hby := Bd.bytes
  have hml : c.maxLocals = 3 := hml0
  have hown : s.vm.findClass "java/lang/AbstractStringBuilder" = some m.cls := findClass_of_methodNamed Bd.named
  have hnm := (name_of_methodNamed Bd.named Bd.method).1
  have X0 : Stand p l e ({ frames := 0, cells := 0, slots := 0, locals := 0 } : Room) s m #[(.ref r0), (.int p1)] below meth c s₁ [] 0 0 := Stand.of_body Bd
  have e0 : s₁.heap = h0 := by rw [← hh, Bd.state]; rfl
  have N0 := Fr.nil n0
  have pre0 : ∀ t, Steps p.tables e below (s₁.setTop (mkF m 0 #[vr r0, vi p1, uu] [])) t → Steps p.tables e below (s₁.setTop (entryFrame m #[(.ref r0), (.int p1)] 3)) t := fun t k => castTop (ef_12 m r0 p1) k
  obtain ⟨T1, X1, e1, st1⟩ := getF X0 hx hZ hown (host := "") (Or.inl (wd hw 24 rfl)) Via.refl e0 uv (g := (mkF m 1 #[vr r0, vi p1, uu] [(.ref r0)])) rfl rfl (hb hby d9_1)
  obtain ⟨cl2, Ar2, q2, S2, Nn2, H2, G2⟩ := (id uV)
  obtain ⟨T3, X3, e3, st3⟩ := getF X1 hx hZ hown (host := "") (Or.inl (wd hw 26 rfl)) Via.refl e1 uc (g := (mkF m 6 #[vr r0, vi p1, uu] [(.ref r0), (.int zv)])) rfl rfl (hb hby d9_6)
  obtain ⟨fs, hr, hrun, hended, hW, hsame⟩ := X3.leave (v := none) (fun _ => rfl)
  refine ⟨_, _, pre0 _ ?_, hrun, hended, _, _, rfl, ?_, ⟨_, rfl⟩, hW, hsame.mono (by decide) (by decide)⟩
  · show SS p e below s₁ (mkF m 0 #[vr r0, vi p1, uu] []) _
    refine XS.aloadN X0.here hx rfl (hb hby d9_0) rfl rfl ?_
    refine st1 _ ?_
    show SS p e below T1 (mkF m 4 #[vr r0, vi p1, uu] [(.ref rv)]) _
    refine X1.arraylength hx (own_at e1 Ar2.1) (State.isArrayOf_alike hZ.alike Ar2.2.1) (g := (mkF m 4 #[vr r0, vi p1, uu] [(.ref rv)])) rfl rfl (hb hby d9_4) _ ?_
    rw [len_of S2 Nn2]
    refine XS.aloadN X1.here hx rfl (hb hby d9_5) rfl rfl ?_
    refine st3 _ ?_
    show SS p e below T3 (mkF m 9 #[vr r0, vi p1, uu] [z0, (.int zv)]) _
    refine XS.ishr X3.here hx rfl (hb hby d9_9) rfl ?_
    show SS p e below T3 (mkF m 10 #[vr r0, vi p1, uu] [(.int (zv >>> ((0 : Int32) &&& 31)))]) _
    rw [own_shr0 _]
    refine XS.istoreN X3.here hx rfl (hb hby d9_10) rfl (l' := #[vr r0, vi p1, vi zv]) rfl ?_
    refine XS.iloadN X3.here hx rfl (hb hby d9_11) rfl ?_
    refine XS.iloadN X3.here hx rfl (hb hby d9_12) rfl ?_
    refine XS.isub X3.here hx rfl (hb hby d9_13) rfl ?_
    show SS p e below T3 (mkF m 14 #[vr r0, vi p1, vi zv] [(.int (p1 - zv))]) _
    refine XS.ifYes X3.here hx rfl (pc0 := 14) (pc' := 38) rfl (hb hby d9_14) rfl ((if0 _ _).trans (flt (uK : ¬ ((0 : Int32) < (p1 - zv)))).2.2.2) (by decide) (by decide) ?_
    exact X3.returnOut hx Bd.returns (hb hby d9_38) hr
  · show Q_rg_ensK Z r0 p1 rv kv zv vv h0 n0 _ T3.heap _
    rw [e3]
    exact ⟨rfl, N0, rfl⟩
theorem ef_13 (m : MethodId) (x0 : Addr) (x1 : Addr) (x2 : Int32) : entryFrame m #[(.ref x0), (.ref x1), (.int x2), z0] 4 = mkF m 0 #[vr x0, vr x1, vi x2, vi (0 : Int32)] [] := by first | (simp [entryFrame, mkF, argsToLocals, Value.category]; done) | rfl
theorem d17_0 : decode jdk_42_method_147_code 0 = .ok (.aload_n 0, 1) := by decide +kernel
theorem d17_1 : decode jdk_42_method_147_code 1 = .ok (.invokevirtual 335, 3) := by decide +kernel
theorem d17_4 : decode jdk_42_method_147_code 4 = .ok (.iload_n 3, 1) := by decide +kernel
theorem d17_5 : decode jdk_42_method_147_code 5 = .ok (.if_icmp .ne 23, 3) := by decide +kernel
theorem d17_8 : decode jdk_42_method_147_code 8 = .ok (.aload_n 0, 1) := by decide +kernel
theorem d17_9 : decode jdk_42_method_147_code 9 = .ok (.getfield 9, 3) := by decide +kernel
theorem d17_12 : decode jdk_42_method_147_code 12 = .ok (.iconst 0, 1) := by decide +kernel
theorem d17_13 : decode jdk_42_method_147_code 13 = .ok (.aload_n 1, 1) := by decide +kernel
theorem d17_14 : decode jdk_42_method_147_code 14 = .ok (.iload_n 2, 1) := by decide +kernel
theorem d17_15 : decode jdk_42_method_147_code 15 = .ok (.iload_n 3, 1) := by decide +kernel
theorem d17_16 : decode jdk_42_method_147_code 16 = .ok (.ishl, 1) := by decide +kernel
theorem d17_17 : decode jdk_42_method_147_code 17 = .ok (.aload_n 0, 1) := by decide +kernel
theorem d17_18 : decode jdk_42_method_147_code 18 = .ok (.getfield 9, 3) := by decide +kernel
theorem d17_21 : decode jdk_42_method_147_code 21 = .ok (.arraylength, 1) := by decide +kernel
theorem d17_22 : decode jdk_42_method_147_code 22 = .ok (.invokestatic 212, 3) := by decide +kernel
theorem d17_25 : decode jdk_42_method_147_code 25 = .ok (.goto 18, 3) := by decide +kernel
theorem d17_43 : decode jdk_42_method_147_code 43 = .ok (.return_, 1) := by decide +kernel
def Q_rg_gb (Z : State) (r0 : Addr) (r1 : Addr) (p2 : Int32) (zc : Int32) (rt : Addr) (kt : ClassId) (zt : Int32) (vt : List Value) (kd : ClassId) (zv : Int32) (vd : List Value) (h0 : Heap) (n0 : Nat) (v : Option Value) (h : Heap) (L : List Loc) : Prop := (v = none ∧ Fr n0 L ∧ Keep h0 h [r1] ∧ Arv Z h r1 kd .byte zv (own_put p2.toNatClampNeg zt.toNatClampNeg vd vt) z0)
set_option maxRecDepth 65536 in
set_option maxHeartbeats 40000000 in
theorem rg_gb (l : Launch) (Z : State) (a0 : Array Value) (hw : ∀ d ∈ tables_1, d.before a0 Z = true) (ws : List Jvm.Cond) (r0 : Addr) (r1 : Addr) (p2 : Int32) (zc : Int32) (rt : Addr) (kt : ClassId) (zt : Int32) (vt : List Value) (kd : ClassId) (zv : Int32) (vd : List Value) (h0 : Heap) (n0 : Nat) (Z0 : n0 ≤ h0.size) (uO : Old Z n0 h0) (uS : Sta Z Z.heap "java/lang/String" "COMPACT_STRINGS" "Z" (.int zc)) (uP : ¬ zc = 0) (us : Exa Z h0 r0 "java/lang/String") (usv : Fld Z h0 r0 "java/lang/String" "value" "[B" (.ref rt)) (usc : Fld Z h0 r0 "java/lang/String" "coder" "B" z0) (usV : Arv Z h0 rt kt .byte zt vt z0) (uVd : Arv Z h0 r1 kd .byte zv vd z0) (uL : vd.length = zv.toNatClampNeg) (uc0 : ¬ p2 < 0) (uz0 : ¬ zt < 0) (uS1 : p2.toNatClampNeg + zt.toNatClampNeg ≤ zv.toNatClampNeg) (ug : n0 ≤ r1) :
    MetFree l M13 (head1 (Jvm.Cond.code M13 jdk_42_method_147_code 4 none :: ws) ({ frames := 1, cells := 0, slots := 0, locals := 18 } : Room)) (fun a U => a = #[(.ref r0), (.ref r1), (.int p2), z0] ∧ Z.Warmed39 U.vm ∧ U.heap = h0) (fun _ _ _ _ _ => True) (fun _ U o U' => ∃ v L, o = .returned v ∧ Q_rg_gb Z r0 r1 p2 zc rt kt zt vt kd zv vd h0 n0 v U'.heap L ∧ FrameEnd U o U' L ({ frames := 1, cells := 0, slots := 0, locals := 18 } : Room).cells ({ frames := 1, cells := 0, slots := 0, locals := 18 } : Room).slots) := by
  refine MetFree.of_bodySF (plainFor_of_name pn_0) hisR ?_
  intro p e s m args below meth c s₁ Bd hml0 hP hK
  obtain ⟨rfl, hZ, hh⟩ := hP
  have hx := Bd.exec
  have hby := Bd.bytes
  have hml : c.maxLocals = 4 := hml0
  have hown : s.vm.findClass "java/lang/String" = some m.cls := findClass_of_methodNamed Bd.named
  have hnm := (name_of_methodNamed Bd.named Bd.method).1
  have X0 : Stand p l e ({ frames := 1, cells := 0, slots := 0, locals := 18 } : Room) s m #[(.ref r0), (.ref r1), (.int p2), z0] below meth c s₁ [] 0 0 := Stand.of_body Bd
  have e0 : s₁.heap = h0 := by rw [← hh, Bd.state]; rfl
  have N0 := Fr.nil n0
  have pre0 : ∀ t, Steps p.tables e below (s₁.setTop (mkF m 0 #[vr r0, vr r1, vi p2, vi (0 : Int32)] [])) t → Steps p.tables e below (s₁.setTop (entryFrame m #[(.ref r0), (.ref r1), (.int p2), z0] 4)) t := fun t k => castTop (ef_13 m r0 r1 p2) k
  obtain ⟨cq1, kq1, q1a, q1b, q1c⟩ := isOf hZ e0 us
  obtain ⟨_, _, ⟨T1, Lw1, kw1, nw1⟩, -, X1, ⟨Lc1, hQ1, lq1, yq1, zq1⟩, st1⟩ := X0.virtualBack hx (y := M2) (z := M2) hown (mvT hZ (wd hw 50 rfl)) (mvT hZ (wd hw 51 rfl)) (notFace_of_selects (args := #[]) (mvT hZ (wd hw 53 rfl))) (mvT hZ (wd hw 53 rfl)) (mvT hZ (wd hw 52 rfl)) (by decide) (backOf (W := 0) (rmCoder l Z a0 hw [] r0 zc h0 n0 Z0 uO uS uP usc) hZ (wd hw 54 rfl) (wd hw 22 rfl) (by decide) (by decide)) q1a q1c (g := (mkF m 1 #[vr r0, vr r1, vi p2, vi (0 : Int32)] [(.ref r0)])) rfl (by rw [hml]; rfl) (Steps.refl _) (argsL := []) (rest := []) (lenOf pd_0 rfl) rfl (by show 2 * 0 + _ ≤ _; exact Nat.le_of_eq rfl) (hb hby d17_1) (fun _ _ => ⟨rfl, e0, (by decide : 0 + 0 ≤ _), (by decide : 0 + 0 ≤ _)⟩)
  dsimp only [Pt.U, Pt.locs, Pt.cells, Pt.slots] at X1 lq1 yq1 zq1 st1 hQ1
  have X1 := own_reb X1 lq1 yq1 zq1
  obtain ⟨rfl, Nq1, eh1⟩ := hQ1
  have N1 := Fr.app N0 Nq1
  obtain ⟨T2, X2, e2, st2⟩ := getF X1 hx hZ hown (host := "") (Or.inl (wd hw 49 rfl)) Via.refl eh1 usv (g := (mkF m 9 #[vr r0, vr r1, vi p2, vi (0 : Int32)] [(.ref r0)])) rfl rfl (hb hby d17_9)
  obtain ⟨T3, X3, e3, st3⟩ := getF X2 hx hZ hown (host := "") (Or.inl (wd hw 49 rfl)) Via.refl e2 usv (g := (mkF m 18 #[vr r0, vr r1, vi p2, vi (0 : Int32)] [(.ref r0), (.int p2), (.ref r1), z0, (.ref rt)])) rfl rfl (hb hby d17_18)
  obtain ⟨cl4, Ar4, q4, S4, Nn4, H4, G4⟩ := (id usV)
  obtain ⟨T5, h5, L5, X5, e5, N5, Kq5, V5, st5⟩ := cpA X3 hx hZ hown (wd hw 106 rfl) (wd hw 89 rfl) (wd hw 87 rfl) (wd hw 88 rfl) e3 (us := ((List.range (zt).toNatClampNeg).map fun i => List.getD vt (((0 : Int32)).toNatClampNeg + i) z0)) usV uVd (Or.inl ⟨rfl, rfl⟩) (by decide) uc0 uz0 (Nat.le_of_eq (Nat.zero_add _)) uS1 rfl (by rw [uL]; exact uS1) N1 ug (g := (mkF m 22 #[vr r0, vr r1, vi p2, vi (0 : Int32)] [(.int zt), (.int p2), (.ref r1), z0, (.ref rt)])) rfl (by rw [hml]; rfl) rfl (hb hby d17_22) (by decide) (W := 0) (by show 2 * 0 + _ ≤ _; exact Nat.le_of_eq rfl) (by decide)
  have K5 : Keep h0 h5 [r1] := (Keep.refl h0 [r1]).trans Kq5 (allS (Or.inl (List.mem_of_getElem? (i := 0) rfl)) all0)
  have Z5 : n0 ≤ h5.size := Nat.le_trans Z0 Kq5.1
  obtain ⟨fs, hr, hrun, hended, hW, hsame⟩ := X5.leave (v := none) (fun _ => rfl)
  refine ⟨_, _, pre0 _ ?_, hrun, hended, _, _, rfl, ?_, ⟨_, rfl⟩, hW, hsame.mono (by decide) (by decide)⟩
  · show SS p e below s₁ (mkF m 0 #[vr r0, vr r1, vi p2, vi (0 : Int32)] []) _
    refine XS.aloadN X0.here hx rfl (hb hby d17_0) rfl rfl ?_
    show SS p e below s₁ (mkF m 1 #[vr r0, vr r1, vi p2, vi (0 : Int32)] [(.ref r0)]) _
    refine st1.trans ?_
    refine XS.iloadN X1.here hx rfl (hb hby d17_4) rfl ?_
    show SS p e below T1 (mkF m 5 #[vr r0, vr r1, vi p2, vi (0 : Int32)] [z0, z0]) _
    refine XS.icmpNo X1.here hx rfl (hb hby d17_5) rfl (teq (by decide : (0 : Int32) = (0 : Int32))).2 ?_
    refine XS.aloadN X1.here hx rfl (hb hby d17_8) rfl rfl ?_
    refine st2 _ ?_
    refine XS.iconst X2.here hx rfl (hb hby d17_12) ?_
    refine XS.aloadN X2.here hx rfl (hb hby d17_13) rfl rfl ?_
    refine XS.iloadN X2.here hx rfl (hb hby d17_14) rfl ?_
    refine XS.iloadN X2.here hx rfl (hb hby d17_15) rfl ?_
    show SS p e below T2 (mkF m 16 #[vr r0, vr r1, vi p2, vi (0 : Int32)] [z0, (.int p2), (.ref r1), z0, (.ref rt)]) _
    refine XS.ishl X2.here hx rfl (hb hby d17_16) rfl ?_
    show SS p e below T2 (mkF m 17 #[vr r0, vr r1, vi p2, vi (0 : Int32)] [(.int (p2 <<< ((0 : Int32) &&& 31))), (.ref r1), z0, (.ref rt)]) _
    rw [own_shl0 _]
    refine XS.aloadN X2.here hx rfl (hb hby d17_17) rfl rfl ?_
    refine st3 _ ?_
    show SS p e below T3 (mkF m 21 #[vr r0, vr r1, vi p2, vi (0 : Int32)] [(.ref rt), (.int p2), (.ref r1), z0, (.ref rt)]) _
    refine X3.arraylength hx (own_at e3 Ar4.1) (State.isArrayOf_alike hZ.alike Ar4.2.1) (g := (mkF m 21 #[vr r0, vr r1, vi p2, vi (0 : Int32)] [(.ref rt), (.int p2), (.ref r1), z0, (.ref rt)])) rfl rfl (hb hby d17_21) _ ?_
    rw [len_of S4 Nn4]
    show SS p e below T3 (mkF m 22 #[vr r0, vr r1, vi p2, vi (0 : Int32)] [(.int zt), (.int p2), (.ref r1), z0, (.ref rt)]) _
    refine st5 _ ?_
    refine XS.goto X5.here hx rfl (pc0 := 25) (pc' := 43) rfl (hb hby d17_25) (by decide) (by decide) ?_
    exact X5.returnOut hx Bd.returns (hb hby d17_43) hr
  · show Q_rg_gb Z r0 r1 p2 zc rt kt zt vt kd zv vd h0 n0 _ T5.heap _
    rw [e5]
    exact ⟨rfl, N5, K5, V5⟩
theorem ef_14 (m : MethodId) (x0 : Addr) (x1 : Int32) (x2 : Addr) : entryFrame m #[(.ref x0), (.int x1), (.ref x2)] 3 = mkF m 0 #[vr x0, vi x1, vr x2] [] := by first | (simp [entryFrame, mkF, argsToLocals, Value.category]; done) | rfl
theorem d15_0 : decode jdk_68_method_73_code 0 = .ok (.aload_n 0, 1) := by decide +kernel
theorem d15_1 : decode jdk_68_method_73_code 1 = .ok (.aload_n 2, 1) := by decide +kernel
theorem d15_2 : decode jdk_68_method_73_code 2 = .ok (.invokevirtual 397, 3) := by decide +kernel
theorem pd_3 : parseMethodDescriptor "(Ljava/lang/String;)V" = some ⟨[(.object "java/lang/String")], none⟩ := by decide +kernel
theorem d15_5 : decode jdk_68_method_73_code 5 = .ok (.aload_n 2, 1) := by decide +kernel
theorem d15_6 : decode jdk_68_method_73_code 6 = .ok (.aload_n 0, 1) := by decide +kernel
theorem d15_7 : decode jdk_68_method_73_code 7 = .ok (.getfield 15, 3) := by decide +kernel
theorem d15_10 : decode jdk_68_method_73_code 10 = .ok (.iload_n 1, 1) := by decide +kernel
theorem d15_11 : decode jdk_68_method_73_code 11 = .ok (.aload_n 0, 1) := by decide +kernel
theorem d15_12 : decode jdk_68_method_73_code 12 = .ok (.getfield 22, 3) := by decide +kernel
theorem d15_15 : decode jdk_68_method_73_code 15 = .ok (.invokevirtual 399, 3) := by decide +kernel
theorem pd_4 : parseMethodDescriptor "([BIB)V" = some ⟨[(.array .byte), .int, .byte], none⟩ := by decide +kernel
theorem d15_18 : decode jdk_68_method_73_code 18 = .ok (.return_, 1) := by decide +kernel
def Q_rg_ps (Z : State) (r0 : Addr) (p1 : Int32) (r2 : Addr) (zc : Int32) (rv : Addr) (kv : ClassId) (zv : Int32) (vv : List Value) (rt : Addr) (kt : ClassId) (zt : Int32) (vt : List Value) (h0 : Heap) (n0 : Nat) (v : Option Value) (h : Heap) (L : List Loc) : Prop := (v = none ∧ Fr n0 L ∧ Keep h0 h [rv] ∧ Arv Z h rv kv .byte zv (own_put p1.toNatClampNeg zt.toNatClampNeg vv vt) z0)
set_option maxRecDepth 65536 in
set_option maxHeartbeats 40000000 in
theorem rg_ps (l : Launch) (Z : State) (a0 : Array Value) (hw : ∀ d ∈ tables_1, d.before a0 Z = true) (ws : List Jvm.Cond) (r0 : Addr) (p1 : Int32) (r2 : Addr) (zc : Int32) (rv : Addr) (kv : ClassId) (zv : Int32) (vv : List Value) (rt : Addr) (kt : ClassId) (zt : Int32) (vt : List Value) (h0 : Heap) (n0 : Nat) (Z0 : n0 ≤ h0.size) (uO : Old Z n0 h0) (uS : Sta Z Z.heap "java/lang/String" "COMPACT_STRINGS" "Z" (.int zc)) (uP : ¬ zc = 0) (uE : Exa Z h0 r0 "java/lang/StringBuilder") (uv : Fld Z h0 r0 "java/lang/AbstractStringBuilder" "value" "[B" (.ref rv)) (uc : Fld Z h0 r0 "java/lang/AbstractStringBuilder" "coder" "B" z0) (uV : Arv Z h0 rv kv .byte zv vv z0) (uL : vv.length = zv.toNatClampNeg) (us : Exa Z h0 r2 "java/lang/String") (usv : Fld Z h0 r2 "java/lang/String" "value" "[B" (.ref rt)) (usc : Fld Z h0 r2 "java/lang/String" "coder" "B" z0) (usV : Arv Z h0 rt kt .byte zt vt z0) (uc0 : ¬ p1 < 0) (uz0 : ¬ zt < 0) (uS1 : p1.toNatClampNeg + zt.toNatClampNeg ≤ zv.toNatClampNeg) (ug : n0 ≤ rv) :
    MetFree l M14 (head1 (Jvm.Cond.code M14 jdk_68_method_73_code 3 none :: ws) ({ frames := 2, cells := 0, slots := 0, locals := 33 } : Room)) (fun a U => a = #[(.ref r0), (.int p1), (.ref r2)] ∧ Z.Warmed39 U.vm ∧ U.heap = h0) (fun _ _ _ _ _ => True) (fun _ U o U' => ∃ v L, o = .returned v ∧ Q_rg_ps Z r0 p1 r2 zc rv kv zv vv rt kt zt vt h0 n0 v U'.heap L ∧ FrameEnd U o U' L ({ frames := 2, cells := 0, slots := 0, locals := 33 } : Room).cells ({ frames := 2, cells := 0, slots := 0, locals := 33 } : Room).slots) := by
  refine MetFree.of_bodySF (plainFor_of_name pn_1) hisR ?_
  intro p e s m args below meth c s₁ Bd hml0 hP hK
  obtain ⟨rfl, hZ, hh⟩ := hP
  have hx := Bd.exec
  have hby := Bd.bytes
  have hml : c.maxLocals = 3 := hml0
  have hown : s.vm.findClass "java/lang/AbstractStringBuilder" = some m.cls := findClass_of_methodNamed Bd.named
  have hnm := (name_of_methodNamed Bd.named Bd.method).1
  have X0 : Stand p l e ({ frames := 2, cells := 0, slots := 0, locals := 33 } : Room) s m #[(.ref r0), (.int p1), (.ref r2)] below meth c s₁ [] 0 0 := Stand.of_body Bd
  have e0 : s₁.heap = h0 := by rw [← hh, Bd.state]; rfl
  have N0 := Fr.nil n0
  have pre0 : ∀ t, Steps p.tables e below (s₁.setTop (mkF m 0 #[vr r0, vi p1, vr r2] [])) t → Steps p.tables e below (s₁.setTop (entryFrame m #[(.ref r0), (.int p1), (.ref r2)] 3)) t := fun t k => castTop (ef_14 m r0 p1 r2) k
  obtain ⟨cq1, kq1, q1a, q1b, q1c⟩ := isOf hZ e0 uE
  obtain ⟨_, _, ⟨T1, Lw1, kw1, nw1⟩, -, X1, ⟨Lc1, hQ1, lq1, yq1, zq1⟩, st1⟩ := X0.virtualBack hx (y := M5) (z := M5) hown (mvT hZ (wd hw 95 rfl)) (mvT hZ (own_decl (wd hw 96 rfl) (wd hw 99 rfl))) (notFace_of_selects (args := #[]) (mvT hZ (wd hw 98 rfl))) (mvT hZ (wd hw 98 rfl)) (mvT hZ (wd hw 96 rfl)) (by decide) (backOf (W := 0) (rmInf l Z a0 hw [] r0 r2 zc h0 n0 Z0 uO uS uP uc us usc) hZ (wd hw 99 rfl) (wd hw 16 rfl) (by decide) (by decide)) q1a q1c (g := (mkF m 2 #[vr r0, vi p1, vr r2] [(.ref r2), (.ref r0)])) rfl (by rw [hml]; rfl) (Steps.refl _) (argsL := [(.ref r2)]) (rest := []) (lenOf pd_3 rfl) rfl (by show 2 * 0 + _ ≤ _; exact Nat.le_of_eq rfl) (hb hby d15_2) (fun _ _ => ⟨rfl, e0, (by decide : 0 + 0 ≤ _), (by decide : 0 + 0 ≤ _)⟩)
  dsimp only [Pt.U, Pt.locs, Pt.cells, Pt.slots] at X1 lq1 yq1 zq1 st1 hQ1
  have X1 := own_reb X1 lq1 yq1 zq1
  obtain ⟨rfl, Nq1, eh1⟩ := hQ1
  have N1 := Fr.app N0 Nq1
  obtain ⟨T2, X2, e2, st2⟩ := getF X1 hx hZ hown (host := "") (Or.inl (wd hw 24 rfl)) Via.refl eh1 uv (g := (mkF m 7 #[vr r0, vi p1, vr r2] [(.ref r0), (.ref r2)])) rfl rfl (hb hby d15_7)
  obtain ⟨T3, X3, e3, st3⟩ := getF X2 hx hZ hown (host := "") (Or.inl (wd hw 26 rfl)) Via.refl e2 uc (g := (mkF m 12 #[vr r0, vi p1, vr r2] [(.ref r0), (.int p1), (.ref rv), (.ref r2)])) rfl rfl (hb hby d15_12)
  obtain ⟨cq4, kq4, q4a, q4b, q4c⟩ := isOf hZ e3 us
  obtain ⟨_, _, ⟨T4, Lw4, kw4, nw4⟩, -, X4, ⟨Lc4, hQ4, lq4, yq4, zq4⟩, st4⟩ := X3.virtualBack hx (y := M13) (z := M13) hown (mvT hZ (wd hw 101 rfl)) (mvT hZ (wd hw 102 rfl)) (notFace_of_selects (args := #[]) (mvT hZ (wd hw 104 rfl))) (mvT hZ (wd hw 104 rfl)) (mvT hZ (wd hw 103 rfl)) (by decide) (backOf (W := 0) (rg_gb l Z a0 hw [] r2 rv p1 zc rt kt zt vt kv zv vv h0 n0 Z0 uO uS uP us usv usc usV uV uL uc0 uz0 uS1 ug) hZ (wd hw 105 rfl) (wd hw 22 rfl) (by decide) (by decide)) q4a q4c (g := (mkF m 15 #[vr r0, vi p1, vr r2] [z0, (.int p1), (.ref rv), (.ref r2)])) rfl (by rw [hml]; rfl) (Steps.refl _) (argsL := [(.ref rv), (.int p1), z0]) (rest := []) (lenOf pd_4 rfl) rfl (by show 2 * 0 + _ ≤ _; exact Nat.le_of_eq rfl) (hb hby d15_15) (fun _ _ => ⟨rfl, e3, (by decide : 0 + 0 ≤ _), (by decide : 0 + 0 ≤ _)⟩)
  dsimp only [Pt.U, Pt.locs, Pt.cells, Pt.slots] at X4 lq4 yq4 zq4 st4 hQ4
  have X4 := own_reb X4 lq4 yq4 zq4
  obtain ⟨rfl, Nq4, Kq4, f4_0⟩ := hQ4
  have N4 := Fr.app N1 Nq4
  have K4 : Keep h0 T4.heap [rv] := (Keep.refl h0 [rv]).trans Kq4 (allS (Or.inl (List.mem_of_getElem? (i := 0) rfl)) all0)
  have Z4 : n0 ≤ T4.heap.size := Nat.le_trans Z0 Kq4.1
  obtain ⟨fs, hr, hrun, hended, hW, hsame⟩ := X4.leave (v := none) (fun _ => rfl)
  refine ⟨_, _, pre0 _ ?_, hrun, hended, _, _, rfl, ?_, ⟨_, rfl⟩, hW, hsame.mono (by decide) (by decide)⟩
  · show SS p e below s₁ (mkF m 0 #[vr r0, vi p1, vr r2] []) _
    refine XS.aloadN X0.here hx rfl (hb hby d15_0) rfl rfl ?_
    refine XS.aloadN X0.here hx rfl (hb hby d15_1) rfl rfl ?_
    show SS p e below s₁ (mkF m 2 #[vr r0, vi p1, vr r2] [(.ref r2), (.ref r0)]) _
    refine st1.trans ?_
    refine XS.aloadN X1.here hx rfl (hb hby d15_5) rfl rfl ?_
    refine XS.aloadN X1.here hx rfl (hb hby d15_6) rfl rfl ?_
    refine st2 _ ?_
    refine XS.iloadN X2.here hx rfl (hb hby d15_10) rfl ?_
    refine XS.aloadN X2.here hx rfl (hb hby d15_11) rfl rfl ?_
    refine st3 _ ?_
    show SS p e below T3 (mkF m 15 #[vr r0, vi p1, vr r2] [z0, (.int p1), (.ref rv), (.ref r2)]) _
    refine st4.trans ?_
    exact X4.returnOut hx Bd.returns (hb hby d15_18) hr
  · show Q_rg_ps Z r0 p1 r2 zc rv kv zv vv rt kt zt vt h0 n0 _ T4.heap _
    exact ⟨rfl, N4, K4, f4_0⟩
theorem ef_15 (m : MethodId) (x0 : Addr) (x1 : Addr) : entryFrame m #[(.ref x0), (.ref x1)] 3 = mkF m 0 #[vr x0, vr x1, uu] [] := by first | (simp [entryFrame, mkF, argsToLocals, Value.category]; done) | rfl
theorem d6_0 : decode jdk_68_method_22_code 0 = .ok (.aload_n 1, 1) := by decide +kernel
theorem d6_1 : decode jdk_68_method_22_code 1 = .ok (.ifnonnull 8, 3) := by decide +kernel
theorem d6_9 : decode jdk_68_method_22_code 9 = .ok (.aload_n 1, 1) := by decide +kernel
theorem d6_10 : decode jdk_68_method_22_code 10 = .ok (.invokevirtual 32, 3) := by decide +kernel
theorem d6_13 : decode jdk_68_method_22_code 13 = .ok (.istore_n 2, 1) := by decide +kernel
theorem d6_14 : decode jdk_68_method_22_code 14 = .ok (.aload_n 0, 1) := by decide +kernel
theorem d6_15 : decode jdk_68_method_22_code 15 = .ok (.aload_n 0, 1) := by decide +kernel
theorem d6_16 : decode jdk_68_method_22_code 16 = .ok (.getfield 79, 3) := by decide +kernel
theorem d6_19 : decode jdk_68_method_22_code 19 = .ok (.iload_n 2, 1) := by decide +kernel
theorem d6_20 : decode jdk_68_method_22_code 20 = .ok (.iadd, 1) := by decide +kernel
theorem d6_21 : decode jdk_68_method_22_code 21 = .ok (.invokevirtual 100, 3) := by decide +kernel
theorem d6_24 : decode jdk_68_method_22_code 24 = .ok (.aload_n 0, 1) := by decide +kernel
theorem d6_25 : decode jdk_68_method_22_code 25 = .ok (.aload_n 0, 1) := by decide +kernel
theorem d6_26 : decode jdk_68_method_22_code 26 = .ok (.getfield 79, 3) := by decide +kernel
theorem d6_29 : decode jdk_68_method_22_code 29 = .ok (.aload_n 1, 1) := by decide +kernel
theorem d6_30 : decode jdk_68_method_22_code 30 = .ok (.invokevirtual 208, 3) := by decide +kernel
theorem pd_5 : parseMethodDescriptor "(ILjava/lang/String;)V" = some ⟨[.int, (.object "java/lang/String")], none⟩ := by decide +kernel
theorem d6_33 : decode jdk_68_method_22_code 33 = .ok (.aload_n 0, 1) := by decide +kernel
theorem d6_34 : decode jdk_68_method_22_code 34 = .ok (.dup, 1) := by decide +kernel
theorem d6_35 : decode jdk_68_method_22_code 35 = .ok (.getfield 79, 3) := by decide +kernel
theorem d6_38 : decode jdk_68_method_22_code 38 = .ok (.iload_n 2, 1) := by decide +kernel
theorem d6_39 : decode jdk_68_method_22_code 39 = .ok (.iadd, 1) := by decide +kernel
theorem d6_40 : decode jdk_68_method_22_code 40 = .ok (.putfield 79, 3) := by decide +kernel
theorem d6_43 : decode jdk_68_method_22_code 43 = .ok (.aload_n 0, 1) := by decide +kernel
theorem d6_44 : decode jdk_68_method_22_code 44 = .ok (.areturn, 1) := by decide +kernel
def Q_rg_app0 (Z : State) (r0 : Addr) (r1 : Addr) (zc : Int32) (rv : Addr) (kv : ClassId) (zv : Int32) (vv : List Value) (rt : Addr) (kt : ClassId) (zt : Int32) (vt : List Value) (cn : Int32) (nd : Int32) (h0 : Heap) (n0 : Nat) (v : Option Value) (h : Heap) (L : List Loc) : Prop := (v = some (.ref r0) ∧ Fr n0 L ∧ Keep h0 h [r0, rv] ∧ Fld Z h r0 "java/lang/AbstractStringBuilder" "value" "[B" (.ref rv) ∧ Fld Z h r0 "java/lang/AbstractStringBuilder" "coder" "B" z0 ∧ Fld Z h r0 "java/lang/AbstractStringBuilder" "count" "I" (.int nd) ∧ Arv Z h rv kv .byte zv (own_put cn.toNatClampNeg zt.toNatClampNeg vv vt) z0)
set_option maxRecDepth 65536 in
set_option maxHeartbeats 40000000 in
theorem rg_app0 (l : Launch) (Z : State) (a0 : Array Value) (hw : ∀ d ∈ tables_1, d.before a0 Z = true) (ws : List Jvm.Cond) (r0 : Addr) (r1 : Addr) (zc : Int32) (rv : Addr) (kv : ClassId) (zv : Int32) (vv : List Value) (rt : Addr) (kt : ClassId) (zt : Int32) (vt : List Value) (cn : Int32) (nd : Int32) (h0 : Heap) (n0 : Nat) (Z0 : n0 ≤ h0.size) (uO : Old Z n0 h0) (uS : Sta Z Z.heap "java/lang/String" "COMPACT_STRINGS" "Z" (.int zc)) (uP : ¬ zc = 0) (uE : Exa Z h0 r0 "java/lang/StringBuilder") (uv : Fld Z h0 r0 "java/lang/AbstractStringBuilder" "value" "[B" (.ref rv)) (uc : Fld Z h0 r0 "java/lang/AbstractStringBuilder" "coder" "B" z0) (uV : Arv Z h0 rv kv .byte zv vv z0) (uL : vv.length = zv.toNatClampNeg) (uk : Fld Z h0 r0 "java/lang/AbstractStringBuilder" "count" "I" (.int cn)) (us : Exa Z h0 r1 "java/lang/String") (usv : Fld Z h0 r1 "java/lang/String" "value" "[B" (.ref rt)) (usc : Fld Z h0 r1 "java/lang/String" "coder" "B" z0) (usV : Arv Z h0 rt kt .byte zt vt z0) (uA : (cn + zt) = nd) (uK : ¬ ((0 : Int32) < (nd - zv))) (uc0 : ¬ cn < 0) (uz0 : ¬ zt < 0) (uS1 : cn.toNatClampNeg + zt.toNatClampNeg ≤ zv.toNatClampNeg) (ug : n0 ≤ r0) (ugv : n0 ≤ rv) :
    MetFree l M15 (head1 (Jvm.Cond.code M15 jdk_68_method_22_code 3 (some (.object "java/lang/AbstractStringBuilder")) :: ws) ({ frames := 3, cells := 0, slots := 0, locals := 47 } : Room)) (fun a U => a = #[(.ref r0), (.ref r1)] ∧ Z.Warmed39 U.vm ∧ U.heap = h0) (fun _ _ _ _ _ => True) (fun _ U o U' => ∃ v L, o = .returned v ∧ Q_rg_app0 Z r0 r1 zc rv kv zv vv rt kt zt vt cn nd h0 n0 v U'.heap L ∧ FrameEnd U o U' L ({ frames := 3, cells := 0, slots := 0, locals := 47 } : Room).cells ({ frames := 3, cells := 0, slots := 0, locals := 47 } : Room).slots) := by
  refine MetFree.of_bodySF (plainFor_of_name pn_1) hisR ?_
  intro p e s m args below meth c s₁ Bd hml0 hP hK
  obtain ⟨rfl, hZ, hh⟩ := hP
  have hx := Bd.exec
  have hby := Bd.bytes
  have hml : c.maxLocals = 3 := hml0
  have hown : s.vm.findClass "java/lang/AbstractStringBuilder" = some m.cls := findClass_of_methodNamed Bd.named
  have hnm := (name_of_methodNamed Bd.named Bd.method).1
  have X0 : Stand p l e ({ frames := 3, cells := 0, slots := 0, locals := 47 } : Room) s m #[(.ref r0), (.ref r1)] below meth c s₁ [] 0 0 := Stand.of_body Bd
  have e0 : s₁.heap = h0 := by rw [← hh, Bd.state]; rfl
  have N0 := Fr.nil n0
  have pre0 : ∀ t, Steps p.tables e below (s₁.setTop (mkF m 0 #[vr r0, vr r1, uu] [])) t → Steps p.tables e below (s₁.setTop (entryFrame m #[(.ref r0), (.ref r1)] 3)) t := fun t k => castTop (ef_15 m r0 r1) k
  obtain ⟨cq1, kq1, q1a, q1b, q1c⟩ := isOf hZ e0 us
  obtain ⟨_, _, ⟨T1, Lw1, kw1, nw1⟩, -, X1, ⟨Lc1, hQ1, lq1, yq1, zq1⟩, st1⟩ := X0.virtualBack hx (y := M3) (z := M3) hown (mvT hZ (wd hw 44 rfl)) (mvT hZ (wd hw 45 rfl)) (notFace_of_selects (args := #[]) (mvT hZ (wd hw 47 rfl))) (mvT hZ (wd hw 47 rfl)) (mvT hZ (wd hw 46 rfl)) (by decide) (backOf (W := 0) (rmLen l Z a0 hw [] r1 zc rt kt zt vt h0 n0 Z0 uO uS uP us usv usc usV) hZ (wd hw 48 rfl) (wd hw 22 rfl) (by decide) (by decide)) q1a q1c (g := (mkF m 10 #[vr r0, vr r1, uu] [(.ref r1)])) rfl (by rw [hml]; rfl) (Steps.refl _) (argsL := []) (rest := []) (lenOf pd_2 rfl) rfl (by show 2 * 0 + _ ≤ _; exact Nat.le_of_eq rfl) (hb hby d6_10) (fun _ _ => ⟨rfl, e0, (by decide : 0 + 0 ≤ _), (by decide : 0 + 0 ≤ _)⟩)
  dsimp only [Pt.U, Pt.locs, Pt.cells, Pt.slots] at X1 lq1 yq1 zq1 st1 hQ1
  have X1 := own_reb X1 lq1 yq1 zq1
  obtain ⟨rfl, Nq1, eh1⟩ := hQ1
  have N1 := Fr.app N0 Nq1
  obtain ⟨T2, X2, e2, st2⟩ := getF X1 hx hZ hown (host := "") (Or.inl (wd hw 57 rfl)) Via.refl eh1 uk (g := (mkF m 16 #[vr r0, vr r1, vi zt] [(.ref r0), (.ref r0)])) rfl rfl (hb hby d6_16)
  obtain ⟨cq3, kq3, q3a, q3b, q3c⟩ := isOf hZ e2 uE
  obtain ⟨_, _, ⟨T3, Lw3, kw3, nw3⟩, -, X3, ⟨Lc3, hQ3, lq3, yq3, zq3⟩, st3⟩ := X2.virtualBack hx (y := M12) (z := M12) hown (mvT hZ (wd hw 59 rfl)) (mvT hZ (own_decl (wd hw 60 rfl) (wd hw 63 rfl))) (notFace_of_selects (args := #[]) (mvT hZ (wd hw 62 rfl))) (mvT hZ (wd hw 62 rfl)) (mvT hZ (wd hw 60 rfl)) (by decide) (backOf (W := 0) (rg_ensK l Z a0 hw [] r0 nd rv kv zv vv h0 n0 Z0 uE uv uc uV uK) hZ (wd hw 63 rfl) (wd hw 16 rfl) (by decide) (by decide)) q3a q3c (g := (mkF m 21 #[vr r0, vr r1, vi zt] [(.int nd), (.ref r0)])) rfl (by rw [hml]; rfl) (Steps.refl _) (argsL := [(.int nd)]) (rest := []) (lenOf pd_1 rfl) rfl (by show 2 * 0 + _ ≤ _; exact Nat.le_of_eq rfl) (hb hby d6_21) (fun _ _ => ⟨rfl, e2, (by decide : 0 + 0 ≤ _), (by decide : 0 + 0 ≤ _)⟩)
  dsimp only [Pt.U, Pt.locs, Pt.cells, Pt.slots] at X3 lq3 yq3 zq3 st3 hQ3
  have X3 := own_reb X3 lq3 yq3 zq3
  obtain ⟨rfl, Nq3, eh3⟩ := hQ3
  have N3 := Fr.app N1 Nq3
  obtain ⟨T4, X4, e4, st4⟩ := getF X3 hx hZ hown (host := "") (Or.inl (wd hw 57 rfl)) Via.refl eh3 uk (g := (mkF m 26 #[vr r0, vr r1, vi zt] [(.ref r0), (.ref r0)])) rfl rfl (hb hby d6_26)
  obtain ⟨cq5, kq5, q5a, q5b, q5c⟩ := isOf hZ e4 uE
  obtain ⟨_, _, ⟨T5, Lw5, kw5, nw5⟩, -, X5, ⟨Lc5, hQ5, lq5, yq5, zq5⟩, st5⟩ := X4.virtualBack hx (y := M14) (z := M14) hown (mvT hZ (wd hw 90 rfl)) (mvT hZ (own_decl (wd hw 91 rfl) (wd hw 94 rfl))) (notFace_of_selects (args := #[]) (mvT hZ (wd hw 93 rfl))) (mvT hZ (wd hw 93 rfl)) (mvT hZ (wd hw 91 rfl)) (by decide) (backOf (W := 0) (rg_ps l Z a0 hw [] r0 cn r1 zc rv kv zv vv rt kt zt vt h0 n0 Z0 uO uS uP uE uv uc uV uL us usv usc usV uc0 uz0 uS1 ugv) hZ (wd hw 94 rfl) (wd hw 16 rfl) (by decide) (by decide)) q5a q5c (g := (mkF m 30 #[vr r0, vr r1, vi zt] [(.ref r1), (.int cn), (.ref r0)])) rfl (by rw [hml]; rfl) (Steps.refl _) (argsL := [(.int cn), (.ref r1)]) (rest := []) (lenOf pd_5 rfl) rfl (by show 2 * 0 + _ ≤ _; exact Nat.le_of_eq rfl) (hb hby d6_30) (fun _ _ => ⟨rfl, e4, (by decide : 0 + 0 ≤ _), (by decide : 0 + 0 ≤ _)⟩)
  dsimp only [Pt.U, Pt.locs, Pt.cells, Pt.slots] at X5 lq5 yq5 zq5 st5 hQ5
  have X5 := own_reb X5 lq5 yq5 zq5
  obtain ⟨rfl, Nq5, Kq5, f5_0⟩ := hQ5
  have N5 := Fr.app N3 Nq5
  have K5 : Keep h0 T5.heap [r0, rv] := (Keep.refl h0 [r0, rv]).trans Kq5 (allS (Or.inl (List.mem_of_getElem? (i := 1) rfl)) all0)
  have Z5 : n0 ≤ T5.heap.size := Nat.le_trans Z0 Kq5.1
  have c7 := (uk.keep Kq5 (ninS (Exa.neArv uE uV (wd hw 7 rfl)) nin0))
  obtain ⟨T6, X6, e6, st6⟩ := getF X5 hx hZ hown (host := "") (Or.inl (wd hw 57 rfl)) Via.refl rfl c7 (g := (mkF m 35 #[vr r0, vr r1, vi zt] [(.ref r0), (.ref r0)])) rfl rfl (hb hby d6_35)
  have c9 := (uE.keep Kq5)
  obtain ⟨T8, h8, X8, e8, W8, st8⟩ := putF X6 hx hZ hown (host := "") (Or.inl (wd hw 57 rfl)) Via.refl e6 c7 c9 (Or.inl (wd hw 58 rfl)) (wd hw 7 rfl) (ty := .int) (by decide) rfl rfl (g := (mkF m 40 #[vr r0, vr r1, vi zt] [(.int nd), (.ref r0)])) rfl rfl (hb hby d6_40)
  have Fw8 := c7.same W8
  have N8 := Fr.snoc X8 N5 ug
  have K8 : Keep h0 h8 [r0, rv] := K5.wr W8 (Or.inl (List.mem_of_getElem? (i := 0) rfl))
  have Z8 : n0 ≤ h8.size := by rw [W8.size]; exact Z5
  have c10 := ((uv.keep Kq5 (ninS (Exa.neArv uE uV (wd hw 7 rfl)) nin0)).other W8 (Or.inr (slot_ne (Or.inl (wd hw 25 rfl)) (Or.inl (wd hw 58 rfl)) (by decide) (t := (.array .byte)) (t' := .int) (by decide) (by decide))))
  have c11 := ((uc.keep Kq5 (ninS (Exa.neArv uE uV (wd hw 7 rfl)) nin0)).other W8 (Or.inr (slot_ne (Or.inl (wd hw 27 rfl)) (Or.inl (wd hw 58 rfl)) (by decide) (t := .byte) (t' := .int) (by decide) (by decide))))
  have c12 := (f5_0.other W8 (Ne.symm (Exa.neArv uE uV (wd hw 7 rfl))))
  obtain ⟨fs, hr, hrun, hended, hW, hsame⟩ := X8.leave (v := some (.ref r0)) (fun h => by rw [Bd.returns] at h; cases h)
  refine ⟨_, _, pre0 _ ?_, hrun, hended, _, _, rfl, ?_, ⟨_, rfl⟩, hW, hsame.mono (by decide) (by decide)⟩
  · show SS p e below s₁ (mkF m 0 #[vr r0, vr r1, uu] []) _
    refine XS.aloadN X0.here hx rfl (hb hby d6_0) rfl rfl ?_
    show SS p e below s₁ (mkF m 1 #[vr r0, vr r1, uu] [(.ref r1)]) _
    refine XS.ifnonnullYes X0.here hx rfl (pc0 := 1) (pc' := 9) rfl (hb hby d6_1) rfl (by decide) (by decide) ?_
    refine XS.aloadN X0.here hx rfl (hb hby d6_9) rfl rfl ?_
    show SS p e below s₁ (mkF m 10 #[vr r0, vr r1, uu] [(.ref r1)]) _
    refine st1.trans ?_
    refine XS.istoreN X1.here hx rfl (hb hby d6_13) rfl (l' := #[vr r0, vr r1, vi zt]) rfl ?_
    refine XS.aloadN X1.here hx rfl (hb hby d6_14) rfl rfl ?_
    refine XS.aloadN X1.here hx rfl (hb hby d6_15) rfl rfl ?_
    refine st2 _ ?_
    refine XS.iloadN X2.here hx rfl (hb hby d6_19) rfl ?_
    refine XS.iadd X2.here hx rfl (hb hby d6_20) rfl ?_
    show SS p e below T2 (mkF m 21 #[vr r0, vr r1, vi zt] [(.int (cn + zt)), (.ref r0)]) _
    rw [uA]
    show SS p e below T2 (mkF m 21 #[vr r0, vr r1, vi zt] [(.int nd), (.ref r0)]) _
    refine st3.trans ?_
    refine XS.aloadN X3.here hx rfl (hb hby d6_24) rfl rfl ?_
    refine XS.aloadN X3.here hx rfl (hb hby d6_25) rfl rfl ?_
    refine st4 _ ?_
    refine XS.aloadN X4.here hx rfl (hb hby d6_29) rfl rfl ?_
    show SS p e below T4 (mkF m 30 #[vr r0, vr r1, vi zt] [(.ref r1), (.int cn), (.ref r0)]) _
    refine st5.trans ?_
    refine XS.aloadN X5.here hx rfl (hb hby d6_33) rfl rfl ?_
    refine XS.dup X5.here hx rfl (hb hby d6_34) rfl rfl ?_
    refine st6 _ ?_
    refine XS.iloadN X6.here hx rfl (hb hby d6_38) rfl ?_
    refine XS.iadd X6.here hx rfl (hb hby d6_39) rfl ?_
    show SS p e below T6 (mkF m 40 #[vr r0, vr r1, vi zt] [(.int (cn + zt)), (.ref r0)]) _
    rw [uA]
    refine st8 _ ?_
    refine XS.aloadN X8.here hx rfl (hb hby d6_43) rfl rfl ?_
    exact retOut X8 hx Bd.returns rfl (Or.inr (Or.inr (Or.inr (Or.inr ⟨rfl, rfl, rfl⟩)))) (hb hby d6_44) hr
  · show Q_rg_app0 Z r0 r1 zc rv kv zv vv rt kt zt vt cn nd h0 n0 _ T8.heap _
    rw [e8]
    exact ⟨rfl, N8, K8, c10, c11, Fw8, c12⟩
theorem ef_16 (m : MethodId) (x0 : Addr) (x1 : Addr) : entryFrame m #[(.ref x0), (.ref x1)] 2 = mkF m 0 #[vr x0, vr x1] [] := by first | (simp [entryFrame, mkF, argsToLocals, Value.category]; done) | rfl
theorem d5_0 : decode jdk_67_method_7_code 0 = .ok (.aload_n 0, 1) := by decide +kernel
theorem d5_1 : decode jdk_67_method_7_code 1 = .ok (.aload_n 1, 1) := by decide +kernel
theorem d5_2 : decode jdk_67_method_7_code 2 = .ok (.invokespecial 29, 3) := by decide +kernel
theorem pd_6 : parseMethodDescriptor "(Ljava/lang/String;)Ljava/lang/AbstractStringBuilder;" = some ⟨[(.object "java/lang/String")], some (.object "java/lang/AbstractStringBuilder")⟩ := by decide +kernel
theorem d5_5 : decode jdk_67_method_7_code 5 = .ok (.pop, 1) := by decide +kernel
theorem d5_6 : decode jdk_67_method_7_code 6 = .ok (.aload_n 0, 1) := by decide +kernel
theorem d5_7 : decode jdk_67_method_7_code 7 = .ok (.areturn, 1) := by decide +kernel
def Q_rg_app (Z : State) (r0 : Addr) (r1 : Addr) (zc : Int32) (rv : Addr) (kv : ClassId) (zv : Int32) (vv : List Value) (rt : Addr) (kt : ClassId) (zt : Int32) (vt : List Value) (cn : Int32) (nd : Int32) (h0 : Heap) (n0 : Nat) (v : Option Value) (h : Heap) (L : List Loc) : Prop := (v = some (.ref r0) ∧ Fr n0 L ∧ Keep h0 h [r0, rv] ∧ Fld Z h r0 "java/lang/AbstractStringBuilder" "value" "[B" (.ref rv) ∧ Fld Z h r0 "java/lang/AbstractStringBuilder" "coder" "B" z0 ∧ Fld Z h r0 "java/lang/AbstractStringBuilder" "count" "I" (.int nd) ∧ Arv Z h rv kv .byte zv (own_put cn.toNatClampNeg zt.toNatClampNeg vv vt) z0)
set_option maxRecDepth 65536 in
set_option maxHeartbeats 40000000 in
theorem rg_app (l : Launch) (Z : State) (a0 : Array Value) (hw : ∀ d ∈ tables_1, d.before a0 Z = true) (ws : List Jvm.Cond) (r0 : Addr) (r1 : Addr) (zc : Int32) (rv : Addr) (kv : ClassId) (zv : Int32) (vv : List Value) (rt : Addr) (kt : ClassId) (zt : Int32) (vt : List Value) (cn : Int32) (nd : Int32) (h0 : Heap) (n0 : Nat) (Z0 : n0 ≤ h0.size) (uO : Old Z n0 h0) (uS : Sta Z Z.heap "java/lang/String" "COMPACT_STRINGS" "Z" (.int zc)) (uP : ¬ zc = 0) (uE : Exa Z h0 r0 "java/lang/StringBuilder") (uv : Fld Z h0 r0 "java/lang/AbstractStringBuilder" "value" "[B" (.ref rv)) (uc : Fld Z h0 r0 "java/lang/AbstractStringBuilder" "coder" "B" z0) (uV : Arv Z h0 rv kv .byte zv vv z0) (uL : vv.length = zv.toNatClampNeg) (uk : Fld Z h0 r0 "java/lang/AbstractStringBuilder" "count" "I" (.int cn)) (us : Exa Z h0 r1 "java/lang/String") (usv : Fld Z h0 r1 "java/lang/String" "value" "[B" (.ref rt)) (usc : Fld Z h0 r1 "java/lang/String" "coder" "B" z0) (usV : Arv Z h0 rt kt .byte zt vt z0) (uA : (cn + zt) = nd) (uK : ¬ ((0 : Int32) < (nd - zv))) (uc0 : ¬ cn < 0) (uz0 : ¬ zt < 0) (uS1 : cn.toNatClampNeg + zt.toNatClampNeg ≤ zv.toNatClampNeg) (ug : n0 ≤ r0) (ugv : n0 ≤ rv) :
    MetFree l M16 (head1 (Jvm.Cond.code M16 jdk_67_method_7_code 2 (some (.object "java/lang/StringBuilder")) :: ws) ({ frames := 4, cells := 0, slots := 0, locals := 61 } : Room)) (fun a U => a = #[(.ref r0), (.ref r1)] ∧ Z.Warmed39 U.vm ∧ U.heap = h0) (fun _ _ _ _ _ => True) (fun _ U o U' => ∃ v L, o = .returned v ∧ Q_rg_app Z r0 r1 zc rv kv zv vv rt kt zt vt cn nd h0 n0 v U'.heap L ∧ FrameEnd U o U' L ({ frames := 4, cells := 0, slots := 0, locals := 61 } : Room).cells ({ frames := 4, cells := 0, slots := 0, locals := 61 } : Room).slots) := by
  refine MetFree.of_bodySF (plainFor_of_name pn_2) hisR ?_
  intro p e s m args below meth c s₁ Bd hml0 hP hK
  obtain ⟨rfl, hZ, hh⟩ := hP
  have hx := Bd.exec
  have hby := Bd.bytes
  have hml : c.maxLocals = 2 := hml0
  have hown : s.vm.findClass "java/lang/StringBuilder" = some m.cls := findClass_of_methodNamed Bd.named
  have hnm := (name_of_methodNamed Bd.named Bd.method).1
  have X0 : Stand p l e ({ frames := 4, cells := 0, slots := 0, locals := 61 } : Room) s m #[(.ref r0), (.ref r1)] below meth c s₁ [] 0 0 := Stand.of_body Bd
  have e0 : s₁.heap = h0 := by rw [← hh, Bd.state]; rfl
  have N0 := Fr.nil n0
  have pre0 : ∀ t, Steps p.tables e below (s₁.setTop (mkF m 0 #[vr r0, vr r1] [])) t → Steps p.tables e below (s₁.setTop (entryFrame m #[(.ref r0), (.ref r1)] 2)) t := fun t k => castTop (ef_16 m r0 r1) k
  obtain ⟨_, _, ⟨T1, Lw1, kw1, nw1⟩, -, X1, ⟨Lc1, hQ1, lq1, yq1, zq1⟩, st1⟩ := superBack X0 hx hZ (y := M15) hown (wd hw 39 rfl) (own_same (wd hw 40 rfl) (own_face (wd hw 62 rfl) rfl) (by decide)) (wd hw 40 rfl) (wd hw 41 rfl) (by decide) (backOf (W := 0) (rg_app0 l Z a0 hw [] r0 r1 zc rv kv zv vv rt kt zt vt cn nd h0 n0 Z0 uO uS uP uE uv uc uV uL uk us usv usc usV uA uK uc0 uz0 uS1 ug ugv) hZ (wd hw 43 rfl) (wd hw 16 rfl) (by decide) (by decide)) e0 (Ins.self uE) (g := (mkF m 2 #[vr r0, vr r1] [(.ref r1), (.ref r0)])) rfl (by rw [hml]; rfl) (wd hw 43 rfl) (argsL := [(.ref r1)]) (rest := []) (lenOf pd_6 rfl) rfl (by show 2 * 0 + _ ≤ _; exact Nat.le_of_eq rfl) (hb hby d5_2) (fun _ _ => ⟨rfl, e0, (by decide : 0 + 0 ≤ _), (by decide : 0 + 0 ≤ _)⟩)
  dsimp only [Pt.U, Pt.locs, Pt.cells, Pt.slots] at X1 lq1 yq1 zq1 st1 hQ1
  have X1 := own_reb X1 lq1 yq1 zq1
  obtain ⟨rfl, Nq1, Kq1, f1_0, f1_1, f1_2, f1_3⟩ := hQ1
  have N1 := Fr.app N0 Nq1
  have K1 : Keep h0 T1.heap [r0, rv] := (Keep.refl h0 [r0, rv]).trans Kq1 (allS (Or.inl (List.mem_of_getElem? (i := 0) rfl)) (allS (Or.inl (List.mem_of_getElem? (i := 1) rfl)) all0))
  have Z1 : n0 ≤ T1.heap.size := Nat.le_trans Z0 Kq1.1
  obtain ⟨fs, hr, hrun, hended, hW, hsame⟩ := X1.leave (v := some (.ref r0)) (fun h => by rw [Bd.returns] at h; cases h)
  refine ⟨_, _, pre0 _ ?_, hrun, hended, _, _, rfl, ?_, ⟨_, rfl⟩, hW, hsame.mono (by decide) (by decide)⟩
  · show SS p e below s₁ (mkF m 0 #[vr r0, vr r1] []) _
    refine XS.aloadN X0.here hx rfl (hb hby d5_0) rfl rfl ?_
    refine XS.aloadN X0.here hx rfl (hb hby d5_1) rfl rfl ?_
    show SS p e below s₁ (mkF m 2 #[vr r0, vr r1] [(.ref r1), (.ref r0)]) _
    refine st1.trans ?_
    refine XS.pop X1.here hx rfl (hb hby d5_5) rfl rfl ?_
    refine XS.aloadN X1.here hx rfl (hb hby d5_6) rfl rfl ?_
    exact retOut X1 hx Bd.returns rfl (Or.inr (Or.inr (Or.inr (Or.inr ⟨rfl, rfl, rfl⟩)))) (hb hby d5_7) hr
  · show Q_rg_app Z r0 r1 zc rv kv zv vv rt kt zt vt cn nd h0 n0 _ T1.heap _
    exact ⟨rfl, N1, K1, f1_0, f1_1, f1_2, f1_3⟩
theorem ef_17 (m : MethodId) (x0 : Addr) (x2 : Int32) : entryFrame m #[(.ref x0), z0, (.int x2)] 5 = mkF m 0 #[vr x0, vi (0 : Int32), vi x2, uu, uu] [] := by first | (simp [entryFrame, mkF, argsToLocals, Value.category]; done) | rfl
theorem d54_0 : decode jdk_65_method_133_code 0 = .ok (.iload_n 1, 1) := by decide +kernel
theorem d54_1 : decode jdk_65_method_133_code 1 = .ok (.iload_n 2, 1) := by decide +kernel
theorem d54_2 : decode jdk_65_method_133_code 2 = .ok (.invokestatic 343, 3) := by decide +kernel
theorem pd_7 : parseMethodDescriptor "(II)V" = some ⟨[.int, .int], none⟩ := by decide +kernel
theorem d54_5 : decode jdk_65_method_133_code 5 = .ok (.iload_n 2, 1) := by decide +kernel
theorem d54_6 : decode jdk_65_method_133_code 6 = .ok (.iload_n 1, 1) := by decide +kernel
theorem d54_7 : decode jdk_65_method_133_code 7 = .ok (.isub, 1) := by decide +kernel
theorem d54_8 : decode jdk_65_method_133_code 8 = .ok (.istore_n 3, 1) := by decide +kernel
theorem d54_9 : decode jdk_65_method_133_code 9 = .ok (.iload_n 3, 1) := by decide +kernel
theorem d54_10 : decode jdk_65_method_133_code 10 = .ok (.newarray .byte, 2) := by decide +kernel
theorem d54_12 : decode jdk_65_method_133_code 12 = .ok (.astore 4, 2) := by decide +kernel
theorem d54_14 : decode jdk_65_method_133_code 14 = .ok (.aload_n 0, 1) := by decide +kernel
theorem d54_15 : decode jdk_65_method_133_code 15 = .ok (.iload_n 1, 1) := by decide +kernel
theorem d54_16 : decode jdk_65_method_133_code 16 = .ok (.aload 4, 2) := by decide +kernel
theorem d54_18 : decode jdk_65_method_133_code 18 = .ok (.iconst 0, 1) := by decide +kernel
theorem d54_19 : decode jdk_65_method_133_code 19 = .ok (.aload_n 0, 1) := by decide +kernel
theorem d54_20 : decode jdk_65_method_133_code 20 = .ok (.arraylength, 1) := by decide +kernel
theorem d54_21 : decode jdk_65_method_133_code 21 = .ok (.iload_n 1, 1) := by decide +kernel
theorem d54_22 : decode jdk_65_method_133_code 22 = .ok (.isub, 1) := by decide +kernel
theorem d54_23 : decode jdk_65_method_133_code 23 = .ok (.iload_n 3, 1) := by decide +kernel
theorem d54_24 : decode jdk_65_method_133_code 24 = .ok (.invokestatic 304, 3) := by decide +kernel
theorem pd_8 : parseMethodDescriptor "(II)I" = some ⟨[.int, .int], some .int⟩ := by decide +kernel
theorem d54_27 : decode jdk_65_method_133_code 27 = .ok (.invokestatic 150, 3) := by decide +kernel
theorem d54_30 : decode jdk_65_method_133_code 30 = .ok (.aload 4, 2) := by decide +kernel
theorem d54_32 : decode jdk_65_method_133_code 32 = .ok (.areturn, 1) := by decide +kernel
def Q_rg_corb (Z : State) (r0 : Addr) (p2 : Int32) (kv : ClassId) (zv : Int32) (vv : List Value) (h0 : Heap) (n0 : Nat) (v : Option Value) (h : Heap) (L : List Loc) : Prop := ∃ (nb : Addr), ∃ (nk : ClassId), (v = some (.ref nb) ∧ Fr n0 L ∧ Keep h0 h [] ∧ h0.size ≤ nb ∧ Exa Z h nb "[B" ∧ Arv Z h nb nk .byte p2 (own_cut p2.toNatClampNeg vv) z0)
set_option maxRecDepth 65536 in
set_option maxHeartbeats 40000000 in
theorem rg_corb (l : Launch) (Z : State) (a0 : Array Value) (hw : ∀ d ∈ tables_1, d.before a0 Z = true) (ws : List Jvm.Cond) (r0 : Addr) (p2 : Int32) (kv : ClassId) (zv : Int32) (vv : List Value) (h0 : Heap) (n0 : Nat) (Z0 : n0 ≤ h0.size) (uV : Arv Z h0 r0 kv .byte zv vv z0) (un0 : ¬ p2 < 0) (ult : p2 < zv) (uS2 : p2.toNatClampNeg ≤ zv.toNatClampNeg) (uC : p2.toNatClampNeg ≤ 64) :
    MetFree l M17 (head1 (Jvm.Cond.code M17 jdk_65_method_133_code 5 (some (.array .byte)) :: ws) ({ frames := 1, cells := 1, slots := 64, locals := 18 } : Room)) (fun a U => a = #[(.ref r0), z0, (.int p2)] ∧ Z.Warmed39 U.vm ∧ U.heap = h0) (fun _ _ _ _ _ => True) (fun _ U o U' => ∃ v L, o = .returned v ∧ Q_rg_corb Z r0 p2 kv zv vv h0 n0 v U'.heap L ∧ FrameEnd U o U' L ({ frames := 1, cells := 1, slots := 64, locals := 18 } : Room).cells ({ frames := 1, cells := 1, slots := 64, locals := 18 } : Room).slots) := by
  refine MetFree.of_bodySF (plainFor_of_name pn_3) hisR ?_
  intro p e s m args below meth c s₁ Bd hml0 hP hK
  obtain ⟨rfl, hZ, hh⟩ := hP
  have hx := Bd.exec
  have hby := Bd.bytes
  have hml : c.maxLocals = 5 := hml0
  have hown : s.vm.findClass "java/util/Arrays" = some m.cls := findClass_of_methodNamed Bd.named
  have hnm := (name_of_methodNamed Bd.named Bd.method).1
  have X0 : Stand p l e ({ frames := 1, cells := 1, slots := 64, locals := 18 } : Room) s m #[(.ref r0), z0, (.int p2)] below meth c s₁ [] 0 0 := Stand.of_body Bd
  have e0 : s₁.heap = h0 := by rw [← hh, Bd.state]; rfl
  have N0 := Fr.nil n0
  have pre0 : ∀ t, Steps p.tables e below (s₁.setTop (mkF m 0 #[vr r0, vi (0 : Int32), vi p2, uu, uu] [])) t → Steps p.tables e below (s₁.setTop (entryFrame m #[(.ref r0), z0, (.int p2)] 5)) t := fun t k => castTop (ef_17 m r0 p2) k
  obtain ⟨_, _, ⟨T1, Lw1, kw1, nw1⟩, -, X1, ⟨Lc1, hQ1, lq1, yq1, zq1⟩, st1⟩ := Jvm.LawKit.callS X0 hx (y := M11) hown (mvT hZ (wd hw 322 rfl)) (mvT hZ (wd hw 323 rfl)) (mvT hZ (wd hw 81 rfl)) (mvT hZ (wd hw 324 rfl)) (by decide) (backOf (W := 0) (rmChk l Z a0 hw [] (0 : Int32) p2 h0 n0 Z0 un0) hZ (wd hw 324 rfl) (wd hw 81 rfl) (by decide) (by decide)) (g := (mkF m 2 #[vr r0, vi (0 : Int32), vi p2, uu, uu] [(.int p2), z0])) rfl (by rw [hml]; rfl) (argsL := [z0, (.int p2)]) (rest := []) (lenOf pd_7 rfl) rfl (by show 2 * 0 + _ ≤ _; exact Nat.le_of_eq rfl) (hb hby d54_2) (fun _ _ => ⟨rfl, e0, (by decide : 0 + 0 ≤ _), (by decide : 0 + 0 ≤ _)⟩)
  dsimp only [Pt.U, Pt.locs, Pt.cells, Pt.slots] at X1 lq1 yq1 zq1 st1 hQ1
  have X1 := own_reb X1 lq1 yq1 zq1
  obtain ⟨rfl, Nq1, eh1⟩ := hQ1
  have N1 := Fr.app N0 Nq1
  obtain ⟨T2, h2, k2, X2, e2, E2, A2, AX2, st2⟩ := newPE X1 hx hZ (wd hw 23 rfl) eh1 (g := (mkF m 10 #[vr r0, vi (0 : Int32), vi p2, vi p2, uu] [(.int p2)])) rfl (hb hby d54_10) rfl un0 (cap := 64) uC (by decide) (by decide) (by decide) (ad := "[B") (by decide)
  obtain ⟨b2, g2⟩ : ∃ z, z = h0.size := ⟨_, rfl⟩
  rw [← g2] at A2 AX2 st2
  have ne_r0_b2 : r0 ≠ b2 := Nat.ne_of_lt (Nat.lt_of_lt_of_le uV.lt (Nat.le_of_eq g2.symm))
  have V2 : Arv Z h2 b2 k2 .byte p2 [z0, z0, z0, z0, z0, z0, z0, z0, z0, z0, z0, z0, z0, z0, z0, z0, z0, z0, z0, z0, z0, z0, z0, z0, z0, z0, z0, z0, z0, z0, z0, z0, z0, z0, z0, z0, z0, z0, z0, z0, z0, z0, z0, z0, z0, z0, z0, z0, z0, z0, z0, z0, z0, z0, z0, z0, z0, z0, z0, z0, z0, z0, z0, z0] z0 := (Arv.new A2 un0).pad (pad_rep [] z0 64)
  have g_b2 : n0 ≤ b2 := Nat.le_trans Z0 (Nat.le_of_eq g2.symm)
  have sz_b2 : h0.size ≤ b2 := Nat.le_trans (Keep.refl h0 []).1 (Nat.le_of_eq g2.symm)
  have K2 : Keep h0 h2 [] := (Keep.refl h0 []).ext E2
  have Z2 : n0 ≤ h2.size := Nat.le_trans Z0 E2.1
  have c4 := (uV.ext E2)
  obtain ⟨cl3, Ar3, q3, S3, Nn3, H3, G3⟩ := (id c4)
  obtain ⟨_, _, ⟨T5, Lw5, kw5, nw5⟩, -, X5, ⟨Lc5, hQ5, lq5, yq5, zq5⟩, st5⟩ := Jvm.LawKit.callS X2 hx (y := M1) hown (mvT hZ (wd hw 83 rfl)) (mvT hZ (wd hw 84 rfl)) (mvT hZ (wd hw 75 rfl)) (mvT hZ (wd hw 85 rfl)) (by decide) (backOf (W := 4) (rmMin l Z a0 hw [] zv p2 h2 n0 Z2) hZ (wd hw 85 rfl) (wd hw 75 rfl) (by decide) (by decide)) (g := (mkF m 24 #[vr r0, vi (0 : Int32), vi p2, vi p2, vr b2] [(.int p2), (.int zv), z0, (.ref b2), z0, (.ref r0)])) rfl (by rw [hml]; rfl) (argsL := [(.int zv), (.int p2)]) (rest := [z0, (.ref b2), z0, (.ref r0)]) (lenOf pd_8 rfl) rfl (by show 2 * 0 + _ ≤ _; exact Nat.le_of_eq rfl) (hb hby d54_24) (fun _ _ => ⟨rfl, e2, (by decide : 1 + 0 ≤ _), (by decide : 64 + 0 ≤ _)⟩)
  dsimp only [Pt.U, Pt.locs, Pt.cells, Pt.slots] at X5 lq5 yq5 zq5 st5 hQ5
  have X5 := own_reb X5 lq5 yq5 zq5
  obtain ⟨rfl, Nq5, eh5⟩ := hQ5
  have N5 := Fr.app N1 Nq5
  obtain ⟨T6, h6, L6, X6, e6, N6, Kq6, V6, st6⟩ := cpA X5 hx hZ hown (wd hw 86 rfl) (wd hw 89 rfl) (wd hw 87 rfl) (wd hw 88 rfl) eh5 (us := ((List.range (p2).toNatClampNeg).map fun i => List.getD vv (((0 : Int32)).toNatClampNeg + i) z0)) c4 V2 (Or.inl ⟨rfl, rfl⟩) (by decide) (by decide) un0 (Nat.le_trans (Nat.le_of_eq (Nat.zero_add _)) uS2) (Nat.le_of_eq (Nat.zero_add _)) rfl (Nat.le_trans (Nat.le_of_eq (Nat.zero_add _)) uC) N5 g_b2 (g := (mkF m 27 #[vr r0, vi (0 : Int32), vi p2, vi p2, vr b2] [(.int p2), z0, (.ref b2), z0, (.ref r0)])) rfl (by rw [hml]; rfl) rfl (hb hby d54_27) (by decide) (W := 0) (by show 2 * 0 + _ ≤ _; exact Nat.le_of_eq rfl) (by decide)
  have K6 : Keep h0 h6 [] := K2.trans Kq6 (allS (Or.inr sz_b2) all0)
  have Z6 : n0 ≤ h6.size := Nat.le_trans Z2 Kq6.1
  have Vc : Arv Z h6 b2 k2 .byte p2 (own_cut p2.toNatClampNeg vv) z0 := V6.pad (own_padcut (own_zr 64))
  have c7 := (AX2.keep Kq6)
  obtain ⟨fs, hr, hrun, hended, hW, hsame⟩ := X6.leave (v := some (.ref b2)) (fun h => by rw [Bd.returns] at h; cases h)
  refine ⟨_, _, pre0 _ ?_, hrun, hended, _, _, rfl, ?_, ⟨_, rfl⟩, hW, hsame.mono (by decide) (by decide)⟩
  · show SS p e below s₁ (mkF m 0 #[vr r0, vi (0 : Int32), vi p2, uu, uu] []) _
    refine XS.iloadN X0.here hx rfl (hb hby d54_0) rfl ?_
    refine XS.iloadN X0.here hx rfl (hb hby d54_1) rfl ?_
    show SS p e below s₁ (mkF m 2 #[vr r0, vi (0 : Int32), vi p2, uu, uu] [(.int p2), z0]) _
    refine st1 _ ?_
    refine XS.iloadN X1.here hx rfl (hb hby d54_5) rfl ?_
    refine XS.iloadN X1.here hx rfl (hb hby d54_6) rfl ?_
    refine XS.isub X1.here hx rfl (hb hby d54_7) rfl ?_
    show SS p e below T1 (mkF m 8 #[vr r0, vi (0 : Int32), vi p2, uu, uu] [(.int (p2 - (0 : Int32)))]) _
    rw [own_sub0 _]
    refine XS.istoreN X1.here hx rfl (hb hby d54_8) rfl (l' := #[vr r0, vi (0 : Int32), vi p2, vi p2, uu]) rfl ?_
    refine XS.iloadN X1.here hx rfl (hb hby d54_9) rfl ?_
    refine st2 _ ?_
    refine XS.astore X2.here hx rfl (hb hby d54_12) rfl rfl (l' := #[vr r0, vi (0 : Int32), vi p2, vi p2, vr b2]) rfl ?_
    refine XS.aloadN X2.here hx rfl (hb hby d54_14) rfl rfl ?_
    refine XS.iloadN X2.here hx rfl (hb hby d54_15) rfl ?_
    refine XS.aload X2.here hx rfl (hb hby d54_16) rfl rfl ?_
    refine XS.iconst X2.here hx rfl (hb hby d54_18) ?_
    refine XS.aloadN X2.here hx rfl (hb hby d54_19) rfl rfl ?_
    show SS p e below T2 (mkF m 20 #[vr r0, vi (0 : Int32), vi p2, vi p2, vr b2] [(.ref r0), z0, (.ref b2), z0, (.ref r0)]) _
    refine X2.arraylength hx (own_at e2 Ar3.1) (State.isArrayOf_alike hZ.alike Ar3.2.1) (g := (mkF m 20 #[vr r0, vi (0 : Int32), vi p2, vi p2, vr b2] [(.ref r0), z0, (.ref b2), z0, (.ref r0)])) rfl rfl (hb hby d54_20) _ ?_
    rw [len_of S3 Nn3]
    refine XS.iloadN X2.here hx rfl (hb hby d54_21) rfl ?_
    refine XS.isub X2.here hx rfl (hb hby d54_22) rfl ?_
    show SS p e below T2 (mkF m 23 #[vr r0, vi (0 : Int32), vi p2, vi p2, vr b2] [(.int (zv - (0 : Int32))), z0, (.ref b2), z0, (.ref r0)]) _
    rw [own_sub0 _]
    refine XS.iloadN X2.here hx rfl (hb hby d54_23) rfl ?_
    show SS p e below T2 (mkF m 24 #[vr r0, vi (0 : Int32), vi p2, vi p2, vr b2] [(.int p2), (.int zv), z0, (.ref b2), z0, (.ref r0)]) _
    refine st5 _ ?_
    rw [if_pos ult]
    show SS p e below T5 (mkF m 27 #[vr r0, vi (0 : Int32), vi p2, vi p2, vr b2] [(.int p2), z0, (.ref b2), z0, (.ref r0)]) _
    refine st6 _ ?_
    refine XS.aload X6.here hx rfl (hb hby d54_30) rfl rfl ?_
    exact retOut X6 hx Bd.returns rfl (Or.inr (Or.inr (Or.inr (Or.inr ⟨rfl, rfl, rfl⟩)))) (hb hby d54_32) hr
  · show Q_rg_corb Z r0 p2 kv zv vv h0 n0 _ T6.heap _
    rw [e6]
    exact ⟨b2, k2, rfl, N6, K6, sz_b2, c7, Vc⟩
theorem ef_18 (m : MethodId) (x0 : Addr) (x2 : Int32) : entryFrame m #[(.ref x0), z0, (.int x2)] 3 = mkF m 0 #[vr x0, vi (0 : Int32), vi x2] [] := by first | (simp [entryFrame, mkF, argsToLocals, Value.category]; done) | rfl
theorem d29_0 : decode jdk_65_method_132_code 0 = .ok (.iload_n 1, 1) := by decide +kernel
theorem d29_1 : decode jdk_65_method_132_code 1 = .ok (.ifCond .ne 9, 3) := by decide +kernel
theorem d29_4 : decode jdk_65_method_132_code 4 = .ok (.iload_n 2, 1) := by decide +kernel
theorem d29_5 : decode jdk_65_method_132_code 5 = .ok (.aload_n 0, 1) := by decide +kernel
theorem d29_6 : decode jdk_65_method_132_code 6 = .ok (.arraylength, 1) := by decide +kernel
theorem d29_7 : decode jdk_65_method_132_code 7 = .ok (.if_icmp .eq 10, 3) := by decide +kernel
theorem d29_10 : decode jdk_65_method_132_code 10 = .ok (.aload_n 0, 1) := by decide +kernel
theorem d29_11 : decode jdk_65_method_132_code 11 = .ok (.iload_n 1, 1) := by decide +kernel
theorem d29_12 : decode jdk_65_method_132_code 12 = .ok (.iload_n 2, 1) := by decide +kernel
theorem d29_13 : decode jdk_65_method_132_code 13 = .ok (.invokestatic 339, 3) := by decide +kernel
theorem pd_9 : parseMethodDescriptor "([BII)[B" = some ⟨[(.array .byte), .int, .int], some (.array .byte)⟩ := by decide +kernel
theorem d29_16 : decode jdk_65_method_132_code 16 = .ok (.areturn, 1) := by decide +kernel
def Q_rg_cor (Z : State) (r0 : Addr) (p2 : Int32) (kv : ClassId) (zv : Int32) (vv : List Value) (h0 : Heap) (n0 : Nat) (v : Option Value) (h : Heap) (L : List Loc) : Prop := ∃ (nb : Addr), ∃ (nk : ClassId), (v = some (.ref nb) ∧ Fr n0 L ∧ Keep h0 h [] ∧ h0.size ≤ nb ∧ Exa Z h nb "[B" ∧ Arv Z h nb nk .byte p2 (own_cut p2.toNatClampNeg vv) z0)
set_option maxRecDepth 65536 in
set_option maxHeartbeats 40000000 in
theorem rg_cor (l : Launch) (Z : State) (a0 : Array Value) (hw : ∀ d ∈ tables_1, d.before a0 Z = true) (ws : List Jvm.Cond) (r0 : Addr) (p2 : Int32) (kv : ClassId) (zv : Int32) (vv : List Value) (h0 : Heap) (n0 : Nat) (Z0 : n0 ≤ h0.size) (uV : Arv Z h0 r0 kv .byte zv vv z0) (un0 : ¬ p2 < 0) (ult : p2 < zv) (uS2 : p2.toNatClampNeg ≤ zv.toNatClampNeg) (uC : p2.toNatClampNeg ≤ 64) :
    MetFree l M18 (head1 (Jvm.Cond.code M18 jdk_65_method_132_code 3 (some (.array .byte)) :: ws) ({ frames := 2, cells := 1, slots := 64, locals := 34 } : Room)) (fun a U => a = #[(.ref r0), z0, (.int p2)] ∧ Z.Warmed39 U.vm ∧ U.heap = h0) (fun _ _ _ _ _ => True) (fun _ U o U' => ∃ v L, o = .returned v ∧ Q_rg_cor Z r0 p2 kv zv vv h0 n0 v U'.heap L ∧ FrameEnd U o U' L ({ frames := 2, cells := 1, slots := 64, locals := 34 } : Room).cells ({ frames := 2, cells := 1, slots := 64, locals := 34 } : Room).slots) := by
  refine MetFree.of_bodySF (plainFor_of_name pn_3) hisR ?_
  intro p e s m args below meth c s₁ Bd hml0 hP hK
  obtain ⟨rfl, hZ, hh⟩ := hP
  have hx := Bd.exec
  have hby := Bd.bytes
  have hml : c.maxLocals = 3 := hml0
  have hown : s.vm.findClass "java/util/Arrays" = some m.cls := findClass_of_methodNamed Bd.named
  have hnm := (name_of_methodNamed Bd.named Bd.method).1
  have X0 : Stand p l e ({ frames := 2, cells := 1, slots := 64, locals := 34 } : Room) s m #[(.ref r0), z0, (.int p2)] below meth c s₁ [] 0 0 := Stand.of_body Bd
  have e0 : s₁.heap = h0 := by rw [← hh, Bd.state]; rfl
  have N0 := Fr.nil n0
  have pre0 : ∀ t, Steps p.tables e below (s₁.setTop (mkF m 0 #[vr r0, vi (0 : Int32), vi p2] [])) t → Steps p.tables e below (s₁.setTop (entryFrame m #[(.ref r0), z0, (.int p2)] 3)) t := fun t k => castTop (ef_18 m r0 p2) k
  obtain ⟨cl1, Ar1, q1, S1, Nn1, H1, G1⟩ := (id uV)
  obtain ⟨_, _, ⟨T2, Lw2, kw2, nw2⟩, -, X2, ⟨Lc2, hQ2, lq2, yq2, zq2⟩, st2⟩ := Jvm.LawKit.callS X0 hx (y := M17) hown (mvT hZ (wd hw 319 rfl)) (mvT hZ (wd hw 320 rfl)) (mvT hZ (wd hw 81 rfl)) (mvT hZ (wd hw 321 rfl)) (by decide) (backOf (W := 0) (rg_corb l Z a0 hw [] r0 p2 kv zv vv h0 n0 Z0 uV un0 ult uS2 uC) hZ (wd hw 321 rfl) (wd hw 81 rfl) (by decide) (by decide)) (g := (mkF m 13 #[vr r0, vi (0 : Int32), vi p2] [(.int p2), z0, (.ref r0)])) rfl (by rw [hml]; rfl) (argsL := [(.ref r0), z0, (.int p2)]) (rest := []) (lenOf pd_9 rfl) rfl (by show 2 * 0 + _ ≤ _; exact Nat.le_of_eq rfl) (hb hby d29_13) (fun _ _ => ⟨rfl, e0, (by decide : 0 + 1 ≤ _), (by decide : 0 + 64 ≤ _)⟩)
  dsimp only [Pt.U, Pt.locs, Pt.cells, Pt.slots] at X2 lq2 yq2 zq2 st2 hQ2
  have X2 := own_reb X2 lq2 yq2 zq2
  obtain ⟨nb_2, nk_2, rfl, Nq2, Kq2, f2_0, f2_1, f2_2⟩ := hQ2
  have N2 := Fr.app N0 Nq2
  have ne_r0_nb_2 : r0 ≠ nb_2 := Nat.ne_of_lt (Nat.lt_of_lt_of_le uV.lt f2_0)
  have g_nb_2 : n0 ≤ nb_2 := Nat.le_trans Z0 f2_0
  have sz_nb_2 : h0.size ≤ nb_2 := Nat.le_trans (Keep.refl h0 []).1 f2_0
  have K2 : Keep h0 T2.heap [] := (Keep.refl h0 []).trans Kq2 all0
  have Z2 : n0 ≤ T2.heap.size := Nat.le_trans Z0 Kq2.1
  obtain ⟨fs, hr, hrun, hended, hW, hsame⟩ := X2.leave (v := some (.ref nb_2)) (fun h => by rw [Bd.returns] at h; cases h)
  refine ⟨_, _, pre0 _ ?_, hrun, hended, _, _, rfl, ?_, ⟨_, rfl⟩, hW, hsame.mono (by decide) (by decide)⟩
  · show SS p e below s₁ (mkF m 0 #[vr r0, vi (0 : Int32), vi p2] []) _
    refine XS.iloadN X0.here hx rfl (hb hby d29_0) rfl ?_
    show SS p e below s₁ (mkF m 1 #[vr r0, vi (0 : Int32), vi p2] [z0]) _
    refine XS.ifNo X0.here hx rfl (hb hby d29_1) rfl ((if0 _ _).trans (teq (by decide : (0 : Int32) = (0 : Int32))).2) ?_
    refine XS.iloadN X0.here hx rfl (hb hby d29_4) rfl ?_
    refine XS.aloadN X0.here hx rfl (hb hby d29_5) rfl rfl ?_
    show SS p e below s₁ (mkF m 6 #[vr r0, vi (0 : Int32), vi p2] [(.ref r0), (.int p2)]) _
    refine X0.arraylength hx (own_at e0 Ar1.1) (State.isArrayOf_alike hZ.alike Ar1.2.1) (g := (mkF m 6 #[vr r0, vi (0 : Int32), vi p2] [(.ref r0), (.int p2)])) rfl rfl (hb hby d29_6) _ ?_
    rw [len_of S1 Nn1]
    show SS p e below s₁ (mkF m 7 #[vr r0, vi (0 : Int32), vi p2] [(.int zv), (.int p2)]) _
    refine XS.icmpNo X0.here hx rfl (hb hby d29_7) rfl (feq (own_neq ult : ¬ (p2 = zv))).1 ?_
    refine XS.aloadN X0.here hx rfl (hb hby d29_10) rfl rfl ?_
    refine XS.iloadN X0.here hx rfl (hb hby d29_11) rfl ?_
    refine XS.iloadN X0.here hx rfl (hb hby d29_12) rfl ?_
    show SS p e below s₁ (mkF m 13 #[vr r0, vi (0 : Int32), vi p2] [(.int p2), z0, (.ref r0)]) _
    refine st2 _ ?_
    exact retOut X2 hx Bd.returns rfl (Or.inr (Or.inr (Or.inr (Or.inr ⟨rfl, rfl, rfl⟩)))) (hb hby d29_16) hr
  · show Q_rg_cor Z r0 p2 kv zv vv h0 n0 _ T2.heap _
    exact ⟨nb_2, nk_2, rfl, N2, K2, sz_nb_2, f2_1, f2_2⟩
theorem ef_19 (m : MethodId) (x0 : Addr) (x1 : Addr) : entryFrame m #[(.ref x0), (.ref x1), .null] 5 = mkF m 0 #[vr x0, vr x1, .val .null, uu, uu] [] := by first | (simp [entryFrame, mkF, argsToLocals, Value.category]; done) | rfl
theorem d25_0 : decode jdk_42_method_150_code 0 = .ok (.aload_n 0, 1) := by decide +kernel
theorem d25_1 : decode jdk_42_method_150_code 1 = .ok (.invokespecial 1, 3) := by decide +kernel
theorem d25_4 : decode jdk_42_method_150_code 4 = .ok (.aload_n 1, 1) := by decide +kernel
theorem d25_5 : decode jdk_42_method_150_code 5 = .ok (.invokevirtual 552, 3) := by decide +kernel
theorem pd_10 : parseMethodDescriptor "()[B" = some ⟨[], some (.array .byte)⟩ := by decide +kernel
theorem d25_8 : decode jdk_42_method_150_code 8 = .ok (.astore_n 3, 1) := by decide +kernel
theorem d25_9 : decode jdk_42_method_150_code 9 = .ok (.aload_n 1, 1) := by decide +kernel
theorem d25_10 : decode jdk_42_method_150_code 10 = .ok (.invokevirtual 549, 3) := by decide +kernel
theorem d25_13 : decode jdk_42_method_150_code 13 = .ok (.istore 4, 2) := by decide +kernel
theorem d25_15 : decode jdk_42_method_150_code 15 = .ok (.aload_n 1, 1) := by decide +kernel
theorem d25_16 : decode jdk_42_method_150_code 16 = .ok (.invokevirtual 1047, 3) := by decide +kernel
theorem pd_11 : parseMethodDescriptor "()Z" = some ⟨[], some .boolean⟩ := by decide +kernel
theorem d25_19 : decode jdk_42_method_150_code 19 = .ok (.ifCond .eq 22, 3) := by decide +kernel
theorem d25_22 : decode jdk_42_method_150_code 22 = .ok (.aload_n 0, 1) := by decide +kernel
theorem d25_23 : decode jdk_42_method_150_code 23 = .ok (.iconst 0, 1) := by decide +kernel
theorem d25_24 : decode jdk_42_method_150_code 24 = .ok (.putfield 15, 3) := by decide +kernel
theorem d25_27 : decode jdk_42_method_150_code 27 = .ok (.aload_n 0, 1) := by decide +kernel
theorem d25_28 : decode jdk_42_method_150_code 28 = .ok (.aload_n 3, 1) := by decide +kernel
theorem d25_29 : decode jdk_42_method_150_code 29 = .ok (.iconst 0, 1) := by decide +kernel
theorem d25_30 : decode jdk_42_method_150_code 30 = .ok (.iload 4, 2) := by decide +kernel
theorem d25_32 : decode jdk_42_method_150_code 32 = .ok (.invokestatic 54, 3) := by decide +kernel
theorem d25_35 : decode jdk_42_method_150_code 35 = .ok (.putfield 9, 3) := by decide +kernel
theorem d25_38 : decode jdk_42_method_150_code 38 = .ok (.goto 59, 3) := by decide +kernel
theorem d25_97 : decode jdk_42_method_150_code 97 = .ok (.return_, 1) := by decide +kernel
def Q_rg_si2 (Z : State) (r0 : Addr) (r1 : Addr) (zc : Int32) (rv : Addr) (kv : ClassId) (zv : Int32) (vv : List Value) (nd : Int32) (h0 : Heap) (n0 : Nat) (v : Option Value) (h : Heap) (L : List Loc) : Prop := ∃ (nb : Addr), ∃ (nk : ClassId), (v = none ∧ Fr n0 L ∧ Keep h0 h [r0] ∧ Fld Z h r0 "java/lang/String" "coder" "B" z0 ∧ Fld Z h r0 "java/lang/String" "value" "[B" (.ref nb) ∧ h0.size ≤ nb ∧ Arv Z h nb nk .byte nd (own_cut nd.toNatClampNeg vv) z0)
set_option maxRecDepth 65536 in
set_option maxHeartbeats 40000000 in
theorem rg_si2 (l : Launch) (Z : State) (a0 : Array Value) (hw : ∀ d ∈ tables_1, d.before a0 Z = true) (ws : List Jvm.Cond) (r0 : Addr) (r1 : Addr) (zc : Int32) (rv : Addr) (kv : ClassId) (zv : Int32) (vv : List Value) (nd : Int32) (h0 : Heap) (n0 : Nat) (Z0 : n0 ≤ h0.size) (uO : Old Z n0 h0) (uS : Sta Z Z.heap "java/lang/String" "COMPACT_STRINGS" "Z" (.int zc)) (uP : ¬ zc = 0) (us : Exa Z h0 r0 "java/lang/String") (usv : Fld Z h0 r0 "java/lang/String" "value" "[B" .null) (usc : Fld Z h0 r0 "java/lang/String" "coder" "B" z0) (ug : n0 ≤ r0) (uE : Exa Z h0 r1 "java/lang/StringBuilder") (uv : Fld Z h0 r1 "java/lang/AbstractStringBuilder" "value" "[B" (.ref rv)) (uc : Fld Z h0 r1 "java/lang/AbstractStringBuilder" "coder" "B" z0) (uV : Arv Z h0 rv kv .byte zv vv z0) (uk : Fld Z h0 r1 "java/lang/AbstractStringBuilder" "count" "I" (.int nd)) (un0 : ¬ nd < 0) (ult : nd < zv) (uS2 : nd.toNatClampNeg ≤ zv.toNatClampNeg) (uC : nd.toNatClampNeg ≤ 64) :
    MetFree l M19 (head1 (Jvm.Cond.code M19 jdk_42_method_150_code 5 none :: ws) ({ frames := 3, cells := 1, slots := 64, locals := 49 } : Room)) (fun a U => a = #[(.ref r0), (.ref r1), .null] ∧ Z.Warmed39 U.vm ∧ U.heap = h0) (fun _ _ _ _ _ => True) (fun _ U o U' => ∃ v L, o = .returned v ∧ Q_rg_si2 Z r0 r1 zc rv kv zv vv nd h0 n0 v U'.heap L ∧ FrameEnd U o U' L ({ frames := 3, cells := 1, slots := 64, locals := 49 } : Room).cells ({ frames := 3, cells := 1, slots := 64, locals := 49 } : Room).slots) := by
  refine MetFree.of_bodySF (plainFor_of_name pn_0) hisR ?_
  intro p e s m args below meth c s₁ Bd hml0 hP hK
  obtain ⟨rfl, hZ, hh⟩ := hP
  have hx := Bd.exec
  have hby := Bd.bytes
  have hml : c.maxLocals = 5 := hml0
  have hown : s.vm.findClass "java/lang/String" = some m.cls := findClass_of_methodNamed Bd.named
  have hnm := (name_of_methodNamed Bd.named Bd.method).1
  have X0 : Stand p l e ({ frames := 3, cells := 1, slots := 64, locals := 49 } : Room) s m #[(.ref r0), (.ref r1), .null] below meth c s₁ [] 0 0 := Stand.of_body Bd
  have e0 : s₁.heap = h0 := by rw [← hh, Bd.state]; rfl
  have N0 := Fr.nil n0
  have pre0 : ∀ t, Steps p.tables e below (s₁.setTop (mkF m 0 #[vr r0, vr r1, .val .null, uu, uu] [])) t → Steps p.tables e below (s₁.setTop (entryFrame m #[(.ref r0), (.ref r1), .null] 5)) t := fun t k => castTop (ef_19 m r0 r1) k
  obtain ⟨T1, X1, e1, st1⟩ := initO X0 hx hZ hown (wd hw 143 rfl) (wd hw 19 rfl) (wd hw 20 rfl) e0 (g := (mkF m 1 #[vr r0, vr r1, .val .null, uu, uu] [(.ref r0)])) rfl (by rw [hml]; rfl) rfl (hb hby d25_1) (by decide) (W := 0) (by show 2 * 0 + _ ≤ _; exact Nat.le_of_eq rfl) (by decide)
  obtain ⟨cq2, kq2, q2a, q2b, q2c⟩ := isOf hZ e1 uE
  obtain ⟨_, _, ⟨T2, Lw2, kw2, nw2⟩, -, X2, ⟨Lc2, hQ2, lq2, yq2, zq2⟩, st2⟩ := X1.virtualBack hx (y := M8) (z := M8) hown (mvT hZ (wd hw 144 rfl)) (mvT hZ (wd hw 145 rfl)) (notFace_of_selects (args := #[]) (mvT hZ (wd hw 147 rfl))) (mvT hZ (wd hw 147 rfl)) (mvT hZ (wd hw 146 rfl)) (by decide) (backOf (W := 0) (rmGV l Z a0 hw [] r1 rv h0 n0 Z0 uv) hZ (wd hw 148 rfl) (wd hw 16 rfl) (by decide) (by decide)) q2a q2c (g := (mkF m 5 #[vr r0, vr r1, .val .null, uu, uu] [(.ref r1)])) rfl (by rw [hml]; rfl) (Steps.refl _) (argsL := []) (rest := []) (lenOf pd_10 rfl) rfl (by show 2 * 0 + _ ≤ _; exact Nat.le_of_eq rfl) (hb hby d25_5) (fun _ _ => ⟨rfl, e1, (by decide : 0 + 0 ≤ _), (by decide : 0 + 0 ≤ _)⟩)
  dsimp only [Pt.U, Pt.locs, Pt.cells, Pt.slots] at X2 lq2 yq2 zq2 st2 hQ2
  have X2 := own_reb X2 lq2 yq2 zq2
  obtain ⟨rfl, Nq2, eh2⟩ := hQ2
  have N2 := Fr.app N0 Nq2
  obtain ⟨cq3, kq3, q3a, q3b, q3c⟩ := isOf hZ eh2 uE
  obtain ⟨_, _, ⟨T3, Lw3, kw3, nw3⟩, -, X3, ⟨Lc3, hQ3, lq3, yq3, zq3⟩, st3⟩ := X2.virtualBack hx (y := M9) (z := M10) hown (mvT hZ (wd hw 149 rfl)) (mvT hZ (wd hw 150 rfl)) (own_face (args := #[]) (mvT hZ (wd hw 62 rfl)) rfl) (mvT hZ (wd hw 152 rfl)) (mvT hZ (wd hw 153 rfl)) (by decide) (backOf (W := 0) (rmSL l Z a0 hw [] r1 nd h0 n0 Z0 uE uk) hZ (wd hw 154 rfl) (wd hw 8 rfl) (by decide) (by decide)) q3a q3c (g := (mkF m 10 #[vr r0, vr r1, .val .null, vr rv, uu] [(.ref r1)])) rfl (by rw [hml]; rfl) (Steps.refl _) (argsL := []) (rest := []) (lenOf pd_2 rfl) rfl (by show 2 * 0 + _ ≤ _; exact Nat.le_of_eq rfl) (hb hby d25_10) (fun _ _ => ⟨rfl, eh2, (by decide : 0 + 0 ≤ _), (by decide : 0 + 0 ≤ _)⟩)
  dsimp only [Pt.U, Pt.locs, Pt.cells, Pt.slots] at X3 lq3 yq3 zq3 st3 hQ3
  have X3 := own_reb X3 lq3 yq3 zq3
  obtain ⟨rfl, Nq3, eh3⟩ := hQ3
  have N3 := Fr.app N2 Nq3
  obtain ⟨cq4, kq4, q4a, q4b, q4c⟩ := isOf hZ eh3 uE
  obtain ⟨_, _, ⟨T4, Lw4, kw4, nw4⟩, -, X4, ⟨Lc4, hQ4, lq4, yq4, zq4⟩, st4⟩ := X3.virtualBack hx (y := M4) (z := M4) hown (mvT hZ (wd hw 157 rfl)) (mvT hZ (wd hw 121 rfl)) (notFace_of_selects (args := #[]) (mvT hZ (wd hw 123 rfl))) (mvT hZ (wd hw 123 rfl)) (mvT hZ (wd hw 122 rfl)) (by decide) (backOf (W := 0) (rmIL l Z a0 hw [] r1 zc h0 n0 Z0 uO uS uP uc) hZ (wd hw 124 rfl) (wd hw 16 rfl) (by decide) (by decide)) q4a q4c (g := (mkF m 16 #[vr r0, vr r1, .val .null, vr rv, vi nd] [(.ref r1)])) rfl (by rw [hml]; rfl) (Steps.refl _) (argsL := []) (rest := []) (lenOf pd_11 rfl) rfl (by show 2 * 0 + _ ≤ _; exact Nat.le_of_eq rfl) (hb hby d25_16) (fun _ _ => ⟨rfl, eh3, (by decide : 0 + 0 ≤ _), (by decide : 0 + 0 ≤ _)⟩)
  dsimp only [Pt.U, Pt.locs, Pt.cells, Pt.slots] at X4 lq4 yq4 zq4 st4 hQ4
  have X4 := own_reb X4 lq4 yq4 zq4
  obtain ⟨rfl, Nq4, eh4⟩ := hQ4
  have N4 := Fr.app N3 Nq4
  obtain ⟨T5, h5, X5, e5, W5, st5⟩ := putFN X4 hx hZ hown (wd hw 56 rfl) Via.refl eh4 usc us (Or.inr ⟨(wd hw 31 rfl), rfl, hnm⟩) (wd hw 29 rfl) (ty := .byte) (v' := z0) (by decide) rfl rfl (g := (mkF m 24 #[vr r0, vr r1, .val .null, vr rv, vi nd] [z0, (.ref r0)])) rfl rfl (hb hby d25_24)
  have Fw5 := usc.same W5
  have N5 := Fr.snoc X5 N4 ug
  have K5 : Keep h0 h5 [r0] := (Keep.refl h0 [r0]).wr W5 (Or.inl (List.mem_of_getElem? (i := 0) rfl))
  have Z5 : n0 ≤ h5.size := by rw [W5.size]; exact Z0
  have c7 := (uV.other W5 (Ne.symm (Exa.neArv us uV (wd hw 29 rfl))))
  obtain ⟨_, _, ⟨T6, Lw6, kw6, nw6⟩, -, X6, ⟨Lc6, hQ6, lq6, yq6, zq6⟩, st6⟩ := Jvm.LawKit.callS X5 hx (y := M18) hown (mvT hZ (wd hw 158 rfl)) (mvT hZ (wd hw 159 rfl)) (mvT hZ (wd hw 81 rfl)) (mvT hZ (wd hw 160 rfl)) (by decide) (backOf (W := 1) (rg_cor l Z a0 hw [] rv nd kv zv vv h5 n0 Z5 c7 un0 ult uS2 uC) hZ (wd hw 160 rfl) (wd hw 81 rfl) (by decide) (by decide)) (g := (mkF m 32 #[vr r0, vr r1, .val .null, vr rv, vi nd] [(.int nd), z0, (.ref rv), (.ref r0)])) rfl (by rw [hml]; rfl) (argsL := [(.ref rv), z0, (.int nd)]) (rest := [(.ref r0)]) (lenOf pd_9 rfl) rfl (by show 2 * 0 + _ ≤ _; exact Nat.le_of_eq rfl) (hb hby d25_32) (fun _ _ => ⟨rfl, e5, (by decide : 0 + 1 ≤ _), (by decide : 0 + 64 ≤ _)⟩)
  dsimp only [Pt.U, Pt.locs, Pt.cells, Pt.slots] at X6 lq6 yq6 zq6 st6 hQ6
  have X6 := own_reb X6 lq6 yq6 zq6
  obtain ⟨nb_6, nk_6, rfl, Nq6, Kq6, f6_0, f6_1, f6_2⟩ := hQ6
  have N6 := Fr.app N5 Nq6
  have c8 := (us.wr W5)
  have ne_r0_nb_6 : r0 ≠ nb_6 := Nat.ne_of_lt (Nat.lt_of_lt_of_le c8.lt f6_0)
  have c9 := (uE.wr W5)
  have ne_r1_nb_6 : r1 ≠ nb_6 := Nat.ne_of_lt (Nat.lt_of_lt_of_le c9.lt f6_0)
  have ne_rv_nb_6 : rv ≠ nb_6 := Nat.ne_of_lt (Nat.lt_of_lt_of_le c7.lt f6_0)
  have g_nb_6 : n0 ≤ nb_6 := Nat.le_trans Z5 f6_0
  have sz_nb_6 : h0.size ≤ nb_6 := Nat.le_trans K5.1 f6_0
  have K6 : Keep h0 T6.heap [r0] := K5.trans Kq6 all0
  have Z6 : n0 ≤ T6.heap.size := Nat.le_trans Z5 Kq6.1
  have c11 := ((us.wr W5).keep Kq6)
  have c12 := ((usv.other W5 (Or.inr (slot_ne (Or.inr (wd hw 30 rfl)) (Or.inr (wd hw 31 rfl)) (by decide) (t := (.array .byte)) (t' := .byte) (by decide) (by decide)))).keep Kq6 nin0)
  obtain ⟨T10, h10, X10, e10, W10, st10⟩ := putF X6 hx hZ hown (host := "") (Or.inl (wd hw 49 rfl)) Via.refl rfl c12 c11 (Or.inr ⟨(wd hw 30 rfl), rfl, hnm⟩) (wd hw 29 rfl) (ty := (.array .byte)) (by decide) rfl rfl (g := (mkF m 35 #[vr r0, vr r1, .val .null, vr rv, vi nd] [(.ref nb_6), (.ref r0)])) rfl rfl (hb hby d25_35)
  have Fw10 := c12.same W10
  have N10 := Fr.snoc X10 N6 ug
  have K10 : Keep h0 h10 [r0] := K6.wr W10 (Or.inl (List.mem_of_getElem? (i := 0) rfl))
  have Z10 : n0 ≤ h10.size := by rw [W10.size]; exact Z6
  have c13 := ((Fw5.keep Kq6 nin0).other W10 (Or.inr (slot_ne (Or.inr (wd hw 31 rfl)) (Or.inr (wd hw 30 rfl)) (by decide) (t := .byte) (t' := (.array .byte)) (by decide) (by decide))))
  have c14 := (f6_2.other W10 (Ne.symm ne_r0_nb_6))
  obtain ⟨fs, hr, hrun, hended, hW, hsame⟩ := X10.leave (v := none) (fun _ => rfl)
  refine ⟨_, _, pre0 _ ?_, hrun, hended, _, _, rfl, ?_, ⟨_, rfl⟩, hW, hsame.mono (by decide) (by decide)⟩
  · show SS p e below s₁ (mkF m 0 #[vr r0, vr r1, .val .null, uu, uu] []) _
    refine XS.aloadN X0.here hx rfl (hb hby d25_0) rfl rfl ?_
    show SS p e below s₁ (mkF m 1 #[vr r0, vr r1, .val .null, uu, uu] [(.ref r0)]) _
    refine st1 _ ?_
    refine XS.aloadN X1.here hx rfl (hb hby d25_4) rfl rfl ?_
    show SS p e below T1 (mkF m 5 #[vr r0, vr r1, .val .null, uu, uu] [(.ref r1)]) _
    refine st2.trans ?_
    refine XS.astoreN X2.here hx rfl (hb hby d25_8) rfl rfl (l' := #[vr r0, vr r1, .val .null, vr rv, uu]) rfl ?_
    refine XS.aloadN X2.here hx rfl (hb hby d25_9) rfl rfl ?_
    show SS p e below T2 (mkF m 10 #[vr r0, vr r1, .val .null, vr rv, uu] [(.ref r1)]) _
    refine st3.trans ?_
    refine XS.istore X3.here hx rfl (hb hby d25_13) rfl (l' := #[vr r0, vr r1, .val .null, vr rv, vi nd]) rfl ?_
    refine XS.aloadN X3.here hx rfl (hb hby d25_15) rfl rfl ?_
    show SS p e below T3 (mkF m 16 #[vr r0, vr r1, .val .null, vr rv, vi nd] [(.ref r1)]) _
    refine st4.trans ?_
    show SS p e below T4 (mkF m 19 #[vr r0, vr r1, .val .null, vr rv, vi nd] [(vI 1)]) _
    refine XS.ifNo X4.here hx rfl (hb hby d25_19) rfl ((if0 _ _).trans (feq (by decide : ¬ ((1 : Int32) = (0 : Int32)))).1) ?_
    refine XS.aloadN X4.here hx rfl (hb hby d25_22) rfl rfl ?_
    refine XS.iconst X4.here hx rfl (hb hby d25_23) ?_
    refine st5 _ ?_
    refine XS.aloadN X5.here hx rfl (hb hby d25_27) rfl rfl ?_
    refine XS.aloadN X5.here hx rfl (hb hby d25_28) rfl rfl ?_
    refine XS.iconst X5.here hx rfl (hb hby d25_29) ?_
    refine XS.iload X5.here hx rfl (hb hby d25_30) rfl ?_
    show SS p e below T5 (mkF m 32 #[vr r0, vr r1, .val .null, vr rv, vi nd] [(.int nd), z0, (.ref rv), (.ref r0)]) _
    refine st6 _ ?_
    refine st10 _ ?_
    refine XS.goto X10.here hx rfl (pc0 := 38) (pc' := 97) rfl (hb hby d25_38) (by decide) (by decide) ?_
    exact X10.returnOut hx Bd.returns (hb hby d25_97) hr
  · show Q_rg_si2 Z r0 r1 zc rv kv zv vv nd h0 n0 _ T10.heap _
    rw [e10]
    exact ⟨nb_6, nk_6, rfl, N10, K10, c13, Fw10, sz_nb_6, c14⟩
theorem ef_20 (m : MethodId) (x0 : Addr) (x1 : Addr) : entryFrame m #[(.ref x0), (.ref x1)] 2 = mkF m 0 #[vr x0, vr x1] [] := by first | (simp [entryFrame, mkF, argsToLocals, Value.category]; done) | rfl
theorem d24_0 : decode jdk_42_method_53_code 0 = .ok (.aload_n 0, 1) := by decide +kernel
theorem d24_1 : decode jdk_42_method_53_code 1 = .ok (.aload_n 1, 1) := by decide +kernel
theorem d24_2 : decode jdk_42_method_53_code 2 = .ok (.aconst_null, 1) := by decide +kernel
theorem d24_3 : decode jdk_42_method_53_code 3 = .ok (.invokespecial 489, 3) := by decide +kernel
theorem pd_12 : parseMethodDescriptor "(Ljava/lang/AbstractStringBuilder;Ljava/lang/Void;)V" = some ⟨[(.object "java/lang/AbstractStringBuilder"), (.object "java/lang/Void")], none⟩ := by decide +kernel
theorem d24_6 : decode jdk_42_method_53_code 6 = .ok (.return_, 1) := by decide +kernel
def Q_rg_si1 (Z : State) (r0 : Addr) (r1 : Addr) (zc : Int32) (rv : Addr) (kv : ClassId) (zv : Int32) (vv : List Value) (nd : Int32) (h0 : Heap) (n0 : Nat) (v : Option Value) (h : Heap) (L : List Loc) : Prop := ∃ (nb : Addr), ∃ (nk : ClassId), (v = none ∧ Fr n0 L ∧ Keep h0 h [r0] ∧ Fld Z h r0 "java/lang/String" "coder" "B" z0 ∧ Fld Z h r0 "java/lang/String" "value" "[B" (.ref nb) ∧ h0.size ≤ nb ∧ Arv Z h nb nk .byte nd (own_cut nd.toNatClampNeg vv) z0)
set_option maxRecDepth 65536 in
set_option maxHeartbeats 40000000 in
theorem rg_si1 (l : Launch) (Z : State) (a0 : Array Value) (hw : ∀ d ∈ tables_1, d.before a0 Z = true) (ws : List Jvm.Cond) (r0 : Addr) (r1 : Addr) (zc : Int32) (rv : Addr) (kv : ClassId) (zv : Int32) (vv : List Value) (nd : Int32) (h0 : Heap) (n0 : Nat) (Z0 : n0 ≤ h0.size) (uO : Old Z n0 h0) (uS : Sta Z Z.heap "java/lang/String" "COMPACT_STRINGS" "Z" (.int zc)) (uP : ¬ zc = 0) (us : Exa Z h0 r0 "java/lang/String") (usv : Fld Z h0 r0 "java/lang/String" "value" "[B" .null) (usc : Fld Z h0 r0 "java/lang/String" "coder" "B" z0) (ug : n0 ≤ r0) (uE : Exa Z h0 r1 "java/lang/StringBuilder") (uv : Fld Z h0 r1 "java/lang/AbstractStringBuilder" "value" "[B" (.ref rv)) (uc : Fld Z h0 r1 "java/lang/AbstractStringBuilder" "coder" "B" z0) (uV : Arv Z h0 rv kv .byte zv vv z0) (uk : Fld Z h0 r1 "java/lang/AbstractStringBuilder" "count" "I" (.int nd)) (un0 : ¬ nd < 0) (ult : nd < zv) (uS2 : nd.toNatClampNeg ≤ zv.toNatClampNeg) (uC : nd.toNatClampNeg ≤ 64) :
    MetFree l M20 (head1 (Jvm.Cond.code M20 jdk_42_method_53_code 2 none :: ws) ({ frames := 4, cells := 1, slots := 64, locals := 65 } : Room)) (fun a U => a = #[(.ref r0), (.ref r1)] ∧ Z.Warmed39 U.vm ∧ U.heap = h0) (fun _ _ _ _ _ => True) (fun _ U o U' => ∃ v L, o = .returned v ∧ Q_rg_si1 Z r0 r1 zc rv kv zv vv nd h0 n0 v U'.heap L ∧ FrameEnd U o U' L ({ frames := 4, cells := 1, slots := 64, locals := 65 } : Room).cells ({ frames := 4, cells := 1, slots := 64, locals := 65 } : Room).slots) := by
  refine MetFree.of_bodySF (plainFor_of_name pn_0) hisR ?_
  intro p e s m args below meth c s₁ Bd hml0 hP hK
  obtain ⟨rfl, hZ, hh⟩ := hP
  have hx := Bd.exec
  have hby := Bd.bytes
  have hml : c.maxLocals = 2 := hml0
  have hown : s.vm.findClass "java/lang/String" = some m.cls := findClass_of_methodNamed Bd.named
  have hnm := (name_of_methodNamed Bd.named Bd.method).1
  have X0 : Stand p l e ({ frames := 4, cells := 1, slots := 64, locals := 65 } : Room) s m #[(.ref r0), (.ref r1)] below meth c s₁ [] 0 0 := Stand.of_body Bd
  have e0 : s₁.heap = h0 := by rw [← hh, Bd.state]; rfl
  have N0 := Fr.nil n0
  have pre0 : ∀ t, Steps p.tables e below (s₁.setTop (mkF m 0 #[vr r0, vr r1] [])) t → Steps p.tables e below (s₁.setTop (entryFrame m #[(.ref r0), (.ref r1)] 2)) t := fun t k => castTop (ef_20 m r0 r1) k
  obtain ⟨_, _, ⟨T1, Lw1, kw1, nw1⟩, -, X1, ⟨Lc1, hQ1, lq1, yq1, zq1⟩, st1⟩ := X0.specialBack hx (y := M19) rfl hown (mvT hZ (wd hw 140 rfl)) (mvT hZ (wd hw 141 rfl)) (mvT hZ (wd hw 142 rfl)) (by decide) (backOf (W := 0) (rg_si2 l Z a0 hw [] r0 r1 zc rv kv zv vv nd h0 n0 Z0 uO uS uP us usv usc ug uE uv uc uV uk un0 ult uS2 uC) hZ (wd hw 142 rfl) (wd hw 22 rfl) (by decide) (by decide)) (g := (mkF m 3 #[vr r0, vr r1] [.null, (.ref r1), (.ref r0)])) rfl (by rw [hml]; rfl) (Steps.refl _) (a := r0) (argsL := [(.ref r1), .null]) (rest := []) (lenOf pd_12 rfl) rfl (by show 2 * 0 + _ ≤ _; exact Nat.le_of_eq rfl) (hb hby d24_3) (fun _ _ => ⟨rfl, e0, (by decide : 0 + 1 ≤ _), (by decide : 0 + 64 ≤ _)⟩)
  dsimp only [Pt.U, Pt.locs, Pt.cells, Pt.slots] at X1 lq1 yq1 zq1 st1 hQ1
  have X1 := own_reb X1 lq1 yq1 zq1
  obtain ⟨nb_1, nk_1, rfl, Nq1, Kq1, f1_0, f1_1, f1_2, f1_3⟩ := hQ1
  have N1 := Fr.app N0 Nq1
  have ne_r0_nb_1 : r0 ≠ nb_1 := Nat.ne_of_lt (Nat.lt_of_lt_of_le us.lt f1_2)
  have ne_r1_nb_1 : r1 ≠ nb_1 := Nat.ne_of_lt (Nat.lt_of_lt_of_le uE.lt f1_2)
  have ne_rv_nb_1 : rv ≠ nb_1 := Nat.ne_of_lt (Nat.lt_of_lt_of_le uV.lt f1_2)
  have g_nb_1 : n0 ≤ nb_1 := Nat.le_trans Z0 f1_2
  have sz_nb_1 : h0.size ≤ nb_1 := Nat.le_trans (Keep.refl h0 [r0]).1 f1_2
  have K1 : Keep h0 T1.heap [r0] := (Keep.refl h0 [r0]).trans Kq1 (allS (Or.inl (List.mem_of_getElem? (i := 0) rfl)) all0)
  have Z1 : n0 ≤ T1.heap.size := Nat.le_trans Z0 Kq1.1
  obtain ⟨fs, hr, hrun, hended, hW, hsame⟩ := X1.leave (v := none) (fun _ => rfl)
  refine ⟨_, _, pre0 _ ?_, hrun, hended, _, _, rfl, ?_, ⟨_, rfl⟩, hW, hsame.mono (by decide) (by decide)⟩
  · show SS p e below s₁ (mkF m 0 #[vr r0, vr r1] []) _
    refine XS.aloadN X0.here hx rfl (hb hby d24_0) rfl rfl ?_
    refine XS.aloadN X0.here hx rfl (hb hby d24_1) rfl rfl ?_
    refine XS.aconstNull X0.here hx rfl (hb hby d24_2) ?_
    show SS p e below s₁ (mkF m 3 #[vr r0, vr r1] [.null, (.ref r1), (.ref r0)]) _
    refine st1.trans ?_
    exact X1.returnOut hx Bd.returns (hb hby d24_6) hr
  · show Q_rg_si1 Z r0 r1 zc rv kv zv vv nd h0 n0 _ T1.heap _
    exact ⟨nb_1, nk_1, rfl, N1, K1, f1_0, f1_1, sz_nb_1, f1_3⟩
theorem ef_21 (m : MethodId) (x0 : Addr) : entryFrame m #[(.ref x0)] 1 = mkF m 0 #[vr x0] [] := by first | (simp [entryFrame, mkF, argsToLocals, Value.category]; done) | rfl
theorem d23_0 : decode jdk_67_method_42_code 0 = .ok (.new 18, 3) := by decide +kernel
theorem d23_3 : decode jdk_67_method_42_code 3 = .ok (.dup, 1) := by decide +kernel
theorem d23_4 : decode jdk_67_method_42_code 4 = .ok (.aload_n 0, 1) := by decide +kernel
theorem d23_5 : decode jdk_67_method_42_code 5 = .ok (.invokespecial 137, 3) := by decide +kernel
theorem pd_13 : parseMethodDescriptor "(Ljava/lang/StringBuilder;)V" = some ⟨[(.object "java/lang/StringBuilder")], none⟩ := by decide +kernel
theorem d23_8 : decode jdk_67_method_42_code 8 = .ok (.areturn, 1) := by decide +kernel
def Q_rg_tos (Z : State) (r0 : Addr) (zc : Int32) (rv : Addr) (kv : ClassId) (zv : Int32) (vv : List Value) (nd : Int32) (h0 : Heap) (n0 : Nat) (v : Option Value) (h : Heap) (L : List Loc) : Prop := ∃ (nx : Addr), ∃ (nb : Addr), ∃ (nk : ClassId), (v = some (.ref nx) ∧ Fr n0 L ∧ Keep h0 h [] ∧ h0.size ≤ nx ∧ Exa Z h nx "java/lang/String" ∧ Fld Z h nx "java/lang/String" "coder" "B" z0 ∧ Fld Z h nx "java/lang/String" "value" "[B" (.ref nb) ∧ h0.size ≤ nb ∧ Arv Z h nb nk .byte nd (own_cut nd.toNatClampNeg vv) z0)
set_option maxRecDepth 65536 in
set_option maxHeartbeats 40000000 in
theorem rg_tos (l : Launch) (Z : State) (a0 : Array Value) (hw : ∀ d ∈ tables_1, d.before a0 Z = true) (ws : List Jvm.Cond) (r0 : Addr) (zc : Int32) (rv : Addr) (kv : ClassId) (zv : Int32) (vv : List Value) (nd : Int32) (h0 : Heap) (n0 : Nat) (Z0 : n0 ≤ h0.size) (uO : Old Z n0 h0) (uS : Sta Z Z.heap "java/lang/String" "COMPACT_STRINGS" "Z" (.int zc)) (uP : ¬ zc = 0) (uE : Exa Z h0 r0 "java/lang/StringBuilder") (uv : Fld Z h0 r0 "java/lang/AbstractStringBuilder" "value" "[B" (.ref rv)) (uc : Fld Z h0 r0 "java/lang/AbstractStringBuilder" "coder" "B" z0) (uV : Arv Z h0 rv kv .byte zv vv z0) (uk : Fld Z h0 r0 "java/lang/AbstractStringBuilder" "count" "I" (.int nd)) (un0 : ¬ nd < 0) (ult : nd < zv) (uS2 : nd.toNatClampNeg ≤ zv.toNatClampNeg) (uC : nd.toNatClampNeg ≤ 64) :
    MetFree l M21 (head1 (Jvm.Cond.code M21 jdk_67_method_42_code 1 (some (.object "java/lang/String")) :: ws) ({ frames := 5, cells := 2, slots := 68, locals := 79 } : Room)) (fun a U => a = #[(.ref r0)] ∧ Z.Warmed39 U.vm ∧ U.heap = h0) (fun _ _ _ _ _ => True) (fun _ U o U' => ∃ v L, o = .returned v ∧ Q_rg_tos Z r0 zc rv kv zv vv nd h0 n0 v U'.heap L ∧ FrameEnd U o U' L ({ frames := 5, cells := 2, slots := 68, locals := 79 } : Room).cells ({ frames := 5, cells := 2, slots := 68, locals := 79 } : Room).slots) := by
  refine MetFree.of_bodySF (plainFor_of_name pn_2) hisR ?_
  intro p e s m args below meth c s₁ Bd hml0 hP hK
  obtain ⟨rfl, hZ, hh⟩ := hP
  have hx := Bd.exec
  have hby := Bd.bytes
  have hml : c.maxLocals = 1 := hml0
  have hown : s.vm.findClass "java/lang/StringBuilder" = some m.cls := findClass_of_methodNamed Bd.named
  have hnm := (name_of_methodNamed Bd.named Bd.method).1
  have X0 : Stand p l e ({ frames := 5, cells := 2, slots := 68, locals := 79 } : Room) s m #[(.ref r0)] below meth c s₁ [] 0 0 := Stand.of_body Bd
  have e0 : s₁.heap = h0 := by rw [← hh, Bd.state]; rfl
  have N0 := Fr.nil n0
  have pre0 : ∀ t, Steps p.tables e below (s₁.setTop (mkF m 0 #[vr r0] [])) t → Steps p.tables e below (s₁.setTop (entryFrame m #[(.ref r0)] 1)) t := fun t k => castTop (ef_21 m r0) k
  obtain ⟨T1, h1, X1, e1, E1, A1, D1, Un1, st1⟩ := newO X0 hx hZ hown (wd hw 135 rfl) (wd hw 29 rfl) (wd hw 22 rfl) e0 (g := (mkF m 0 #[vr r0] [])) rfl (hb hby d23_0) (by decide) (by decide)
  obtain ⟨b1, g1⟩ : ∃ z, z = h0.size := ⟨_, rfl⟩
  rw [← g1] at A1 D1 Un1 st1
  have ne_r0_b1 : r0 ≠ b1 := Nat.ne_of_lt (Nat.lt_of_lt_of_le uE.lt (Nat.le_of_eq g1.symm))
  have ne_rv_b1 : rv ≠ b1 := Nat.ne_of_lt (Nat.lt_of_lt_of_le uV.lt (Nat.le_of_eq g1.symm))
  have F1_value : Fld Z h1 b1 "java/lang/String" "value" "[B" .null := D1 (Or.inr (wd hw 30 rfl)) (ty := (.array .byte)) (by decide)
  have F1_coder : Fld Z h1 b1 "java/lang/String" "coder" "B" z0 := D1 (Or.inr (wd hw 31 rfl)) (ty := .byte) (by decide)
  have g_b1 : n0 ≤ b1 := Nat.le_trans Z0 (Nat.le_of_eq g1.symm)
  have sz_b1 : h0.size ≤ b1 := Nat.le_trans (Keep.refl h0 []).1 (Nat.le_of_eq g1.symm)
  have K1 : Keep h0 h1 [] := (Keep.refl h0 []).ext E1
  have Z1 : n0 ≤ h1.size := Nat.le_trans Z0 E1.1
  have c3 := (uO.ext E1)
  have c4 := (uE.ext E1)
  have c5 := (uv.ext E1)
  have c6 := (uc.ext E1)
  have c7 := (uV.ext E1)
  have c8 := (uk.ext E1)
  obtain ⟨_, _, ⟨T2, Lw2, kw2, nw2⟩, -, X2, ⟨Lc2, hQ2, lq2, yq2, zq2⟩, st2⟩ := X1.specialBack hx (y := M20) rfl hown (mvT hZ (wd hw 136 rfl)) (mvT hZ (wd hw 137 rfl)) (mvT hZ (wd hw 139 rfl)) (by decide) (backOf (W := 1) (rg_si1 l Z a0 hw [] b1 r0 zc rv kv zv vv nd h1 n0 Z1 c3 uS uP A1 F1_value F1_coder g_b1 c4 c5 c6 c7 c8 un0 ult uS2 uC) hZ (wd hw 139 rfl) (wd hw 22 rfl) (by decide) (by decide)) (g := (mkF m 5 #[vr r0] [(.ref r0), (.ref b1), (.ref b1)])) rfl (by rw [hml]; rfl) (Steps.refl _) (a := b1) (argsL := [(.ref r0)]) (rest := [(.ref b1)]) (lenOf pd_13 rfl) rfl (by show 2 * 0 + _ ≤ _; exact Nat.le_of_eq rfl) (hb hby d23_5) (fun _ _ => ⟨rfl, e1, (by decide : 1 + 1 ≤ _), (by decide : 4 + 64 ≤ _)⟩)
  dsimp only [Pt.U, Pt.locs, Pt.cells, Pt.slots] at X2 lq2 yq2 zq2 st2 hQ2
  have X2 := own_reb X2 lq2 yq2 zq2
  obtain ⟨nb_2, nk_2, rfl, Nq2, Kq2, f2_0, f2_1, f2_2, f2_3⟩ := hQ2
  have N2 := Fr.app N0 Nq2
  have ne_r0_nb_2 : r0 ≠ nb_2 := Nat.ne_of_lt (Nat.lt_of_lt_of_le c4.lt f2_2)
  have ne_rv_nb_2 : rv ≠ nb_2 := Nat.ne_of_lt (Nat.lt_of_lt_of_le c7.lt f2_2)
  have ne_b1_nb_2 : b1 ≠ nb_2 := Nat.ne_of_lt (Nat.lt_of_lt_of_le A1.lt f2_2)
  have g_nb_2 : n0 ≤ nb_2 := Nat.le_trans Z1 f2_2
  have sz_nb_2 : h0.size ≤ nb_2 := Nat.le_trans K1.1 f2_2
  have K2 : Keep h0 T2.heap [] := K1.trans Kq2 (allS (Or.inr sz_b1) all0)
  have Z2 : n0 ≤ T2.heap.size := Nat.le_trans Z1 Kq2.1
  have c9 := (A1.keep Kq2)
  obtain ⟨fs, hr, hrun, hended, hW, hsame⟩ := X2.leave (v := some (.ref b1)) (fun h => by rw [Bd.returns] at h; cases h)
  refine ⟨_, _, pre0 _ ?_, hrun, hended, _, _, rfl, ?_, ⟨_, rfl⟩, hW, hsame.mono (by decide) (by decide)⟩
  · show SS p e below s₁ (mkF m 0 #[vr r0] []) _
    refine st1 _ ?_
    refine XS.dup X1.here hx rfl (hb hby d23_3) rfl rfl ?_
    refine XS.aloadN X1.here hx rfl (hb hby d23_4) rfl rfl ?_
    show SS p e below T1 (mkF m 5 #[vr r0] [(.ref r0), (.ref b1), (.ref b1)]) _
    refine st2.trans ?_
    exact retOut X2 hx Bd.returns rfl (Or.inr (Or.inr (Or.inr (Or.inr ⟨rfl, rfl, rfl⟩)))) (hb hby d23_8) hr
  · show Q_rg_tos Z r0 zc rv kv zv vv nd h0 n0 _ T2.heap _
    exact ⟨b1, nb_2, nk_2, rfl, N2, K2, sz_b1, c9, f2_0, f2_1, sz_nb_2, f2_3⟩
theorem ef_22 (m : MethodId) (x1 : Int32) : entryFrame m #[(vI 34), (.int x1), (vI 36)] 4 = mkF m 0 #[vi (34 : Int32), vi x1, vi (36 : Int32), uu] [] := by first | (simp [entryFrame, mkF, argsToLocals, Value.category]; done) | rfl
theorem pn_4 : plainName "jdk/internal/util/ArraysSupport" = true := by first | (simp [plainName, overriddenIn]; done) | decide +kernel
theorem d11_0 : decode jdk_48_method_27_code 0 = .ok (.iload_n 0, 1) := by decide +kernel
theorem d11_1 : decode jdk_48_method_27_code 1 = .ok (.iload_n 1, 1) := by decide +kernel
theorem d11_2 : decode jdk_48_method_27_code 2 = .ok (.iload_n 2, 1) := by decide +kernel
theorem d11_3 : decode jdk_48_method_27_code 3 = .ok (.invokestatic 194, 3) := by decide +kernel
theorem d11_6 : decode jdk_48_method_27_code 6 = .ok (.iadd, 1) := by decide +kernel
theorem d11_7 : decode jdk_48_method_27_code 7 = .ok (.istore_n 3, 1) := by decide +kernel
theorem d11_8 : decode jdk_48_method_27_code 8 = .ok (.iconst 0, 1) := by decide +kernel
theorem d11_9 : decode jdk_48_method_27_code 9 = .ok (.iload_n 3, 1) := by decide +kernel
theorem d11_10 : decode jdk_48_method_27_code 10 = .ok (.if_icmp .ge 11, 3) := by decide +kernel
theorem d11_13 : decode jdk_48_method_27_code 13 = .ok (.iload_n 3, 1) := by decide +kernel
theorem d11_14 : decode jdk_48_method_27_code 14 = .ok (.ldc 200, 2) := by decide +kernel
theorem d11_16 : decode jdk_48_method_27_code 16 = .ok (.if_icmp .gt 5, 3) := by decide +kernel
theorem d11_19 : decode jdk_48_method_27_code 19 = .ok (.iload_n 3, 1) := by decide +kernel
theorem d11_20 : decode jdk_48_method_27_code 20 = .ok (.ireturn, 1) := by decide +kernel
def Q_rs_nl (Z : State) (p1 : Int32) (h0 : Heap) (n0 : Nat) (v : Option Value) (h : Heap) (L : List Loc) : Prop := (v = some (vI 70) ∧ Fr n0 L ∧ h = h0)
set_option maxRecDepth 65536 in
set_option maxHeartbeats 40000000 in
theorem rs_nl (l : Launch) (Z : State) (a0 : Array Value) (hw : ∀ d ∈ tables_1, d.before a0 Z = true) (ws : List Jvm.Cond) (p1 : Int32) (h0 : Heap) (n0 : Nat) (Z0 : n0 ≤ h0.size) (u36 : p1 < (36 : Int32)) :
    MetFree l M22 (head1 (Jvm.Cond.code M22 jdk_48_method_27_code 4 (some .int) :: ws) ({ frames := 1, cells := 0, slots := 0, locals := 14 } : Room)) (fun a U => a = #[(vI 34), (.int p1), (vI 36)] ∧ Z.Warmed39 U.vm ∧ U.heap = h0) (fun _ _ _ _ _ => True) (fun _ U o U' => ∃ v L, o = .returned v ∧ Q_rs_nl Z p1 h0 n0 v U'.heap L ∧ FrameEnd U o U' L ({ frames := 1, cells := 0, slots := 0, locals := 14 } : Room).cells ({ frames := 1, cells := 0, slots := 0, locals := 14 } : Room).slots) := by
  refine MetFree.of_bodySF (plainFor_of_name pn_4) hisR ?_
  intro p e s m args below meth c s₁ Bd hml0 hP hK
  obtain ⟨rfl, hZ, hh⟩ := hP
  have hx := Bd.exec
  have hby := Bd.bytes
  have hml : c.maxLocals = 4 := hml0
  have hown : s.vm.findClass "jdk/internal/util/ArraysSupport" = some m.cls := findClass_of_methodNamed Bd.named
  have hnm := (name_of_methodNamed Bd.named Bd.method).1
  have X0 : Stand p l e ({ frames := 1, cells := 0, slots := 0, locals := 14 } : Room) s m #[(vI 34), (.int p1), (vI 36)] below meth c s₁ [] 0 0 := Stand.of_body Bd
  have e0 : s₁.heap = h0 := by rw [← hh, Bd.state]; rfl
  have N0 := Fr.nil n0
  have pre0 : ∀ t, Steps p.tables e below (s₁.setTop (mkF m 0 #[vi (34 : Int32), vi p1, vi (36 : Int32), uu] [])) t → Steps p.tables e below (s₁.setTop (entryFrame m #[(vI 34), (.int p1), (vI 36)] 4)) t := fun t k => castTop (ef_22 m p1) k
  obtain ⟨_, _, ⟨T1, Lw1, kw1, nw1⟩, -, X1, ⟨Lc1, hQ1, lq1, yq1, zq1⟩, st1⟩ := Jvm.LawKit.callS X0 hx (y := M0) hown (mvT hZ (wd hw 73 rfl)) (mvT hZ (wd hw 74 rfl)) (mvT hZ (wd hw 75 rfl)) (mvT hZ (wd hw 76 rfl)) (by decide) (backOf (W := 1) (rmMax l Z a0 hw [] p1 (36 : Int32) h0 n0 Z0) hZ (wd hw 76 rfl) (wd hw 75 rfl) (by decide) (by decide)) (g := (mkF m 3 #[vi (34 : Int32), vi p1, vi (36 : Int32), uu] [(vI 36), (.int p1), (vI 34)])) rfl (by rw [hml]; rfl) (argsL := [(.int p1), (vI 36)]) (rest := [(vI 34)]) (lenOf pd_8 rfl) rfl (by show 2 * 0 + _ ≤ _; exact Nat.le_of_eq rfl) (hb hby d11_3) (fun _ _ => ⟨rfl, e0, (by decide : 0 + 0 ≤ _), (by decide : 0 + 0 ≤ _)⟩)
  dsimp only [Pt.U, Pt.locs, Pt.cells, Pt.slots] at X1 lq1 yq1 zq1 st1 hQ1
  have X1 := own_reb X1 lq1 yq1 zq1
  obtain ⟨rfl, Nq1, eh1⟩ := hQ1
  have N1 := Fr.app N0 Nq1
  obtain ⟨fs, hr, hrun, hended, hW, hsame⟩ := X1.leave (v := some (vI 70)) (fun h => by rw [Bd.returns] at h; cases h)
  refine ⟨_, _, pre0 _ ?_, hrun, hended, _, _, rfl, ?_, ⟨_, rfl⟩, hW, hsame.mono (by decide) (by decide)⟩
  · show SS p e below s₁ (mkF m 0 #[vi (34 : Int32), vi p1, vi (36 : Int32), uu] []) _
    refine XS.iloadN X0.here hx rfl (hb hby d11_0) rfl ?_
    refine XS.iloadN X0.here hx rfl (hb hby d11_1) rfl ?_
    refine XS.iloadN X0.here hx rfl (hb hby d11_2) rfl ?_
    show SS p e below s₁ (mkF m 3 #[vi (34 : Int32), vi p1, vi (36 : Int32), uu] [(vI 36), (.int p1), (vI 34)]) _
    refine st1 _ ?_
    rw [if_pos u36]
    refine XS.iadd X1.here hx rfl (hb hby d11_6) rfl ?_
    show SS p e below T1 (mkF m 7 #[vi (34 : Int32), vi p1, vi (36 : Int32), uu] [(.int ((34 : Int32) + (36 : Int32)))]) _
    rw [(show ((34 : Int32) + (36 : Int32)) = (70 : Int32) from by decide)]
    refine XS.istoreN X1.here hx rfl (hb hby d11_7) rfl (l' := #[vi (34 : Int32), vi p1, vi (36 : Int32), vi (70 : Int32)]) rfl ?_
    refine XS.iconst X1.here hx rfl (hb hby d11_8) ?_
    refine XS.iloadN X1.here hx rfl (hb hby d11_9) rfl ?_
    show SS p e below T1 (mkF m 10 #[vi (34 : Int32), vi p1, vi (36 : Int32), vi (70 : Int32)] [(vI 70), z0]) _
    refine XS.icmpNo X1.here hx rfl (hb hby d11_10) rfl (tlt (by decide : (0 : Int32) < (70 : Int32))).2.1 ?_
    refine XS.iloadN X1.here hx rfl (hb hby d11_13) rfl ?_
    show SS p e below T1 (mkF m 14 #[vi (34 : Int32), vi p1, vi (36 : Int32), vi (70 : Int32)] [(vI 70)]) _
    refine X1.ldcInt hx hown (mvT hZ (wd hw 77 rfl)) (g := (mkF m 14 #[vi (34 : Int32), vi p1, vi (36 : Int32), vi (70 : Int32)] [(vI 70)])) rfl (hb hby d11_14) _ ?_
    show SS p e below T1 (mkF m 16 #[vi (34 : Int32), vi p1, vi (36 : Int32), vi (70 : Int32)] [(vI 2147483639), (vI 70)]) _
    refine XS.icmpNo X1.here hx rfl (hb hby d11_16) rfl (flt (by decide : ¬ ((2147483639 : Int32) < (70 : Int32)))).2.2.1 ?_
    refine XS.iloadN X1.here hx rfl (hb hby d11_19) rfl ?_
    exact retI X1 hx Bd.returns (hb hby d11_20) hr
  · show Q_rs_nl Z p1 h0 n0 _ T1.heap _
    rw [eh1]
    exact ⟨rfl, N1, rfl⟩
theorem ef_23 (m : MethodId) (x0 : Addr) (x1 : Int32) : entryFrame m #[(.ref x0), (.int x1)] 6 = mkF m 0 #[vr x0, vi x1, uu, uu, uu, uu] [] := by first | (simp [entryFrame, mkF, argsToLocals, Value.category]; done) | rfl
theorem d10_0 : decode jdk_68_method_10_code 0 = .ok (.aload_n 0, 1) := by decide +kernel
theorem d10_1 : decode jdk_68_method_10_code 1 = .ok (.getfield 15, 3) := by decide +kernel
theorem d10_4 : decode jdk_68_method_10_code 4 = .ok (.arraylength, 1) := by decide +kernel
theorem d10_5 : decode jdk_68_method_10_code 5 = .ok (.istore_n 2, 1) := by decide +kernel
theorem d10_6 : decode jdk_68_method_10_code 6 = .ok (.iload_n 1, 1) := by decide +kernel
theorem d10_7 : decode jdk_68_method_10_code 7 = .ok (.aload_n 0, 1) := by decide +kernel
theorem d10_8 : decode jdk_68_method_10_code 8 = .ok (.getfield 22, 3) := by decide +kernel
theorem d10_11 : decode jdk_68_method_10_code 11 = .ok (.ishl, 1) := by decide +kernel
theorem d10_12 : decode jdk_68_method_10_code 12 = .ok (.istore_n 3, 1) := by decide +kernel
theorem d10_13 : decode jdk_68_method_10_code 13 = .ok (.iload_n 3, 1) := by decide +kernel
theorem d10_14 : decode jdk_68_method_10_code 14 = .ok (.iload_n 2, 1) := by decide +kernel
theorem d10_15 : decode jdk_68_method_10_code 15 = .ok (.isub, 1) := by decide +kernel
theorem d10_16 : decode jdk_68_method_10_code 16 = .ok (.istore 4, 2) := by decide +kernel
theorem d10_18 : decode jdk_68_method_10_code 18 = .ok (.iload_n 2, 1) := by decide +kernel
theorem d10_19 : decode jdk_68_method_10_code 19 = .ok (.iload 4, 2) := by decide +kernel
theorem d10_21 : decode jdk_68_method_10_code 21 = .ok (.iload_n 2, 1) := by decide +kernel
theorem d10_22 : decode jdk_68_method_10_code 22 = .ok (.iconst 2, 1) := by decide +kernel
theorem d10_23 : decode jdk_68_method_10_code 23 = .ok (.aload_n 0, 1) := by decide +kernel
theorem d10_24 : decode jdk_68_method_10_code 24 = .ok (.getfield 22, 3) := by decide +kernel
theorem d10_27 : decode jdk_68_method_10_code 27 = .ok (.ishl, 1) := by decide +kernel
theorem d10_28 : decode jdk_68_method_10_code 28 = .ok (.iadd, 1) := by decide +kernel
theorem d10_29 : decode jdk_68_method_10_code 29 = .ok (.invokestatic 114, 3) := by decide +kernel
theorem pd_14 : parseMethodDescriptor "(III)I" = some ⟨[.int, .int, .int], some .int⟩ := by decide +kernel
theorem d10_32 : decode jdk_68_method_10_code 32 = .ok (.istore 5, 2) := by decide +kernel
theorem d10_34 : decode jdk_68_method_10_code 34 = .ok (.iload 5, 2) := by decide +kernel
theorem d10_36 : decode jdk_68_method_10_code 36 = .ok (.ldc 39, 2) := by decide +kernel
theorem d10_38 : decode jdk_68_method_10_code 38 = .ok (.if_icmp .ne 13, 3) := by decide +kernel
theorem d10_51 : decode jdk_68_method_10_code 51 = .ok (.iload 5, 2) := by decide +kernel
theorem d10_53 : decode jdk_68_method_10_code 53 = .ok (.aload_n 0, 1) := by decide +kernel
theorem d10_54 : decode jdk_68_method_10_code 54 = .ok (.getfield 22, 3) := by decide +kernel
theorem d10_57 : decode jdk_68_method_10_code 57 = .ok (.ishr, 1) := by decide +kernel
theorem d10_58 : decode jdk_68_method_10_code 58 = .ok (.ireturn, 1) := by decide +kernel
def Q_rs_nc (Z : State) (r0 : Addr) (p1 : Int32) (rv : Addr) (kv : ClassId) (vv : List Value) (h0 : Heap) (n0 : Nat) (v : Option Value) (h : Heap) (L : List Loc) : Prop := (v = some (vI 70) ∧ Fr n0 L ∧ h = h0)
set_option maxRecDepth 65536 in
set_option maxHeartbeats 40000000 in
theorem rs_nc (l : Launch) (Z : State) (a0 : Array Value) (hw : ∀ d ∈ tables_1, d.before a0 Z = true) (ws : List Jvm.Cond) (r0 : Addr) (p1 : Int32) (rv : Addr) (kv : ClassId) (vv : List Value) (h0 : Heap) (n0 : Nat) (Z0 : n0 ≤ h0.size) (uE : Exa Z h0 r0 "java/lang/StringBuilder") (uv : Fld Z h0 r0 "java/lang/AbstractStringBuilder" "value" "[B" (.ref rv)) (uc : Fld Z h0 r0 "java/lang/AbstractStringBuilder" "coder" "B" z0) (uV : Arv Z h0 rv kv .byte (34 : Int32) vv z0) (uG2 : (p1 - (34 : Int32)) < (36 : Int32)) :
    MetFree l M23 (head1 (Jvm.Cond.code M23 jdk_68_method_10_code 6 (some .int) :: ws) ({ frames := 2, cells := 0, slots := 0, locals := 29 } : Room)) (fun a U => a = #[(.ref r0), (.int p1)] ∧ Z.Warmed39 U.vm ∧ U.heap = h0) (fun _ _ _ _ _ => True) (fun _ U o U' => ∃ v L, o = .returned v ∧ Q_rs_nc Z r0 p1 rv kv vv h0 n0 v U'.heap L ∧ FrameEnd U o U' L ({ frames := 2, cells := 0, slots := 0, locals := 29 } : Room).cells ({ frames := 2, cells := 0, slots := 0, locals := 29 } : Room).slots) := by
  refine MetFree.of_bodySF (plainFor_of_name pn_1) hisR ?_
  intro p e s m args below meth c s₁ Bd hml0 hP hK
  obtain ⟨rfl, hZ, hh⟩ := hP
  have hx := Bd.exec
  have hby := Bd.bytes
  have hml : c.maxLocals = 6 := hml0
  have hown : s.vm.findClass "java/lang/AbstractStringBuilder" = some m.cls := findClass_of_methodNamed Bd.named
  have hnm := (name_of_methodNamed Bd.named Bd.method).1
  have X0 : Stand p l e ({ frames := 2, cells := 0, slots := 0, locals := 29 } : Room) s m #[(.ref r0), (.int p1)] below meth c s₁ [] 0 0 := Stand.of_body Bd
  have e0 : s₁.heap = h0 := by rw [← hh, Bd.state]; rfl
  have N0 := Fr.nil n0
  have pre0 : ∀ t, Steps p.tables e below (s₁.setTop (mkF m 0 #[vr r0, vi p1, uu, uu, uu, uu] [])) t → Steps p.tables e below (s₁.setTop (entryFrame m #[(.ref r0), (.int p1)] 6)) t := fun t k => castTop (ef_23 m r0 p1) k
  obtain ⟨T1, X1, e1, st1⟩ := getF X0 hx hZ hown (host := "") (Or.inl (wd hw 24 rfl)) Via.refl e0 uv (g := (mkF m 1 #[vr r0, vi p1, uu, uu, uu, uu] [(.ref r0)])) rfl rfl (hb hby d10_1)
  obtain ⟨cl2, Ar2, q2, S2, Nn2, H2, G2⟩ := (id uV)
  obtain ⟨T3, X3, e3, st3⟩ := getF X1 hx hZ hown (host := "") (Or.inl (wd hw 26 rfl)) Via.refl e1 uc (g := (mkF m 8 #[vr r0, vi p1, vi (34 : Int32), uu, uu, uu] [(.ref r0), (.int p1)])) rfl rfl (hb hby d10_8)
  obtain ⟨T4, X4, e4, st4⟩ := getF X3 hx hZ hown (host := "") (Or.inl (wd hw 26 rfl)) Via.refl e3 uc (g := (mkF m 24 #[vr r0, vi p1, vi (34 : Int32), vi p1, vi (p1 - (34 : Int32)), uu] [(.ref r0), (vI 2), (vI 34), (.int (p1 - (34 : Int32))), (vI 34)])) rfl rfl (hb hby d10_24)
  obtain ⟨_, _, ⟨T5, Lw5, kw5, nw5⟩, -, X5, ⟨Lc5, hQ5, lq5, yq5, zq5⟩, st5⟩ := Jvm.LawKit.callS X4 hx (y := M22) hown (mvT hZ (wd hw 69 rfl)) (mvT hZ (wd hw 70 rfl)) (mvT hZ (wd hw 71 rfl)) (mvT hZ (wd hw 72 rfl)) (by decide) (backOf (W := 0) (rs_nl l Z a0 hw [] (p1 - (34 : Int32)) h0 n0 Z0 uG2) hZ (wd hw 72 rfl) (wd hw 71 rfl) (by decide) (by decide)) (g := (mkF m 29 #[vr r0, vi p1, vi (34 : Int32), vi p1, vi (p1 - (34 : Int32)), uu] [(vI 36), (.int (p1 - (34 : Int32))), (vI 34)])) rfl (by rw [hml]; rfl) (argsL := [(vI 34), (.int (p1 - (34 : Int32))), (vI 36)]) (rest := []) (lenOf pd_14 rfl) rfl (by show 2 * 0 + _ ≤ _; exact Nat.le_of_eq rfl) (hb hby d10_29) (fun _ _ => ⟨rfl, e4, (by decide : 0 + 0 ≤ _), (by decide : 0 + 0 ≤ _)⟩)
  dsimp only [Pt.U, Pt.locs, Pt.cells, Pt.slots] at X5 lq5 yq5 zq5 st5 hQ5
  have X5 := own_reb X5 lq5 yq5 zq5
  obtain ⟨rfl, Nq5, eh5⟩ := hQ5
  have N5 := Fr.app N0 Nq5
  obtain ⟨T6, X6, e6, st6⟩ := getF X5 hx hZ hown (host := "") (Or.inl (wd hw 26 rfl)) Via.refl eh5 uc (g := (mkF m 54 #[vr r0, vi p1, vi (34 : Int32), vi p1, vi (p1 - (34 : Int32)), vi (70 : Int32)] [(.ref r0), (vI 70)])) rfl rfl (hb hby d10_54)
  obtain ⟨fs, hr, hrun, hended, hW, hsame⟩ := X6.leave (v := some (vI 70)) (fun h => by rw [Bd.returns] at h; cases h)
  refine ⟨_, _, pre0 _ ?_, hrun, hended, _, _, rfl, ?_, ⟨_, rfl⟩, hW, hsame.mono (by decide) (by decide)⟩
  · show SS p e below s₁ (mkF m 0 #[vr r0, vi p1, uu, uu, uu, uu] []) _
    refine XS.aloadN X0.here hx rfl (hb hby d10_0) rfl rfl ?_
    refine st1 _ ?_
    show SS p e below T1 (mkF m 4 #[vr r0, vi p1, uu, uu, uu, uu] [(.ref rv)]) _
    refine X1.arraylength hx (own_at e1 Ar2.1) (State.isArrayOf_alike hZ.alike Ar2.2.1) (g := (mkF m 4 #[vr r0, vi p1, uu, uu, uu, uu] [(.ref rv)])) rfl rfl (hb hby d10_4) _ ?_
    rw [len_of S2 Nn2]
    refine XS.istoreN X1.here hx rfl (hb hby d10_5) rfl (l' := #[vr r0, vi p1, vi (34 : Int32), uu, uu, uu]) rfl ?_
    refine XS.iloadN X1.here hx rfl (hb hby d10_6) rfl ?_
    refine XS.aloadN X1.here hx rfl (hb hby d10_7) rfl rfl ?_
    refine st3 _ ?_
    show SS p e below T3 (mkF m 11 #[vr r0, vi p1, vi (34 : Int32), uu, uu, uu] [z0, (.int p1)]) _
    refine XS.ishl X3.here hx rfl (hb hby d10_11) rfl ?_
    show SS p e below T3 (mkF m 12 #[vr r0, vi p1, vi (34 : Int32), uu, uu, uu] [(.int (p1 <<< ((0 : Int32) &&& 31)))]) _
    rw [own_shl0 _]
    refine XS.istoreN X3.here hx rfl (hb hby d10_12) rfl (l' := #[vr r0, vi p1, vi (34 : Int32), vi p1, uu, uu]) rfl ?_
    refine XS.iloadN X3.here hx rfl (hb hby d10_13) rfl ?_
    refine XS.iloadN X3.here hx rfl (hb hby d10_14) rfl ?_
    refine XS.isub X3.here hx rfl (hb hby d10_15) rfl ?_
    refine XS.istore X3.here hx rfl (hb hby d10_16) rfl (l' := #[vr r0, vi p1, vi (34 : Int32), vi p1, vi (p1 - (34 : Int32)), uu]) rfl ?_
    refine XS.iloadN X3.here hx rfl (hb hby d10_18) rfl ?_
    refine XS.iload X3.here hx rfl (hb hby d10_19) rfl ?_
    refine XS.iloadN X3.here hx rfl (hb hby d10_21) rfl ?_
    refine XS.iconst X3.here hx rfl (hb hby d10_22) ?_
    refine XS.aloadN X3.here hx rfl (hb hby d10_23) rfl rfl ?_
    refine st4 _ ?_
    show SS p e below T4 (mkF m 27 #[vr r0, vi p1, vi (34 : Int32), vi p1, vi (p1 - (34 : Int32)), uu] [z0, (vI 2), (vI 34), (.int (p1 - (34 : Int32))), (vI 34)]) _
    refine XS.ishl X4.here hx rfl (hb hby d10_27) rfl ?_
    show SS p e below T4 (mkF m 28 #[vr r0, vi p1, vi (34 : Int32), vi p1, vi (p1 - (34 : Int32)), uu] [(.int ((2 : Int32) <<< ((0 : Int32) &&& 31))), (vI 34), (.int (p1 - (34 : Int32))), (vI 34)]) _
    rw [(show ((2 : Int32) <<< ((0 : Int32) &&& 31)) = (2 : Int32) from by decide)]
    refine XS.iadd X4.here hx rfl (hb hby d10_28) rfl ?_
    show SS p e below T4 (mkF m 29 #[vr r0, vi p1, vi (34 : Int32), vi p1, vi (p1 - (34 : Int32)), uu] [(.int ((34 : Int32) + (2 : Int32))), (.int (p1 - (34 : Int32))), (vI 34)]) _
    rw [(show ((34 : Int32) + (2 : Int32)) = (36 : Int32) from by decide)]
    show SS p e below T4 (mkF m 29 #[vr r0, vi p1, vi (34 : Int32), vi p1, vi (p1 - (34 : Int32)), uu] [(vI 36), (.int (p1 - (34 : Int32))), (vI 34)]) _
    refine st5 _ ?_
    refine XS.istore X5.here hx rfl (hb hby d10_32) rfl (l' := #[vr r0, vi p1, vi (34 : Int32), vi p1, vi (p1 - (34 : Int32)), vi (70 : Int32)]) rfl ?_
    refine XS.iload X5.here hx rfl (hb hby d10_34) rfl ?_
    show SS p e below T5 (mkF m 36 #[vr r0, vi p1, vi (34 : Int32), vi p1, vi (p1 - (34 : Int32)), vi (70 : Int32)] [(vI 70)]) _
    refine X5.ldcInt hx hown (mvT hZ (wd hw 78 rfl)) (g := (mkF m 36 #[vr r0, vi p1, vi (34 : Int32), vi p1, vi (p1 - (34 : Int32)), vi (70 : Int32)] [(vI 70)])) rfl (hb hby d10_36) _ ?_
    show SS p e below T5 (mkF m 38 #[vr r0, vi p1, vi (34 : Int32), vi p1, vi (p1 - (34 : Int32)), vi (70 : Int32)] [(vI 2147483647), (vI 70)]) _
    refine XS.icmpYes X5.here hx rfl (pc0 := 38) (pc' := 51) rfl (hb hby d10_38) rfl (feq (by decide : ¬ ((70 : Int32) = (2147483647 : Int32)))).2 (by decide) (by decide) ?_
    refine XS.iload X5.here hx rfl (hb hby d10_51) rfl ?_
    refine XS.aloadN X5.here hx rfl (hb hby d10_53) rfl rfl ?_
    refine st6 _ ?_
    show SS p e below T6 (mkF m 57 #[vr r0, vi p1, vi (34 : Int32), vi p1, vi (p1 - (34 : Int32)), vi (70 : Int32)] [z0, (vI 70)]) _
    refine XS.ishr X6.here hx rfl (hb hby d10_57) rfl ?_
    show SS p e below T6 (mkF m 58 #[vr r0, vi p1, vi (34 : Int32), vi p1, vi (p1 - (34 : Int32)), vi (70 : Int32)] [(.int ((70 : Int32) >>> ((0 : Int32) &&& 31)))]) _
    rw [own_shr0 _]
    exact retI X6 hx Bd.returns (hb hby d10_58) hr
  · show Q_rs_nc Z r0 p1 rv kv vv h0 n0 _ T6.heap _
    rw [e6]
    exact ⟨rfl, N5, rfl⟩
theorem ef_24 (m : MethodId) (x0 : Addr) : entryFrame m #[(.ref x0), (vI 70)] 3 = mkF m 0 #[vr x0, vi (70 : Int32), uu] [] := by first | (simp [entryFrame, mkF, argsToLocals, Value.category]; done) | rfl
theorem d13_0 : decode jdk_65_method_121_code 0 = .ok (.iload_n 1, 1) := by decide +kernel
theorem d13_1 : decode jdk_65_method_121_code 1 = .ok (.aload_n 0, 1) := by decide +kernel
theorem d13_2 : decode jdk_65_method_121_code 2 = .ok (.arraylength, 1) := by decide +kernel
theorem d13_3 : decode jdk_65_method_121_code 3 = .ok (.if_icmp .ne 11, 3) := by decide +kernel
theorem d13_14 : decode jdk_65_method_121_code 14 = .ok (.iload_n 1, 1) := by decide +kernel
theorem d13_15 : decode jdk_65_method_121_code 15 = .ok (.newarray .byte, 2) := by decide +kernel
theorem d13_17 : decode jdk_65_method_121_code 17 = .ok (.astore_n 2, 1) := by decide +kernel
theorem d13_18 : decode jdk_65_method_121_code 18 = .ok (.aload_n 0, 1) := by decide +kernel
theorem d13_19 : decode jdk_65_method_121_code 19 = .ok (.iconst 0, 1) := by decide +kernel
theorem d13_20 : decode jdk_65_method_121_code 20 = .ok (.aload_n 2, 1) := by decide +kernel
theorem d13_21 : decode jdk_65_method_121_code 21 = .ok (.iconst 0, 1) := by decide +kernel
theorem d13_22 : decode jdk_65_method_121_code 22 = .ok (.aload_n 0, 1) := by decide +kernel
theorem d13_23 : decode jdk_65_method_121_code 23 = .ok (.arraylength, 1) := by decide +kernel
theorem d13_24 : decode jdk_65_method_121_code 24 = .ok (.iload_n 1, 1) := by decide +kernel
theorem d13_25 : decode jdk_65_method_121_code 25 = .ok (.invokestatic 304, 3) := by decide +kernel
theorem d13_28 : decode jdk_65_method_121_code 28 = .ok (.invokestatic 150, 3) := by decide +kernel
theorem d13_31 : decode jdk_65_method_121_code 31 = .ok (.aload_n 2, 1) := by decide +kernel
theorem d13_32 : decode jdk_65_method_121_code 32 = .ok (.areturn, 1) := by decide +kernel
def Q_rm_co_34_70 (Z : State) (r0 : Addr) (kv : ClassId) (vv : List Value) (h0 : Heap) (n0 : Nat) (v : Option Value) (h : Heap) (L : List Loc) : Prop := ∃ (nb : Addr), ∃ (nk : ClassId), ∃ (nv : List Value), (v = some (.ref nb) ∧ Fr n0 L ∧ Keep h0 h [] ∧ h0.size ≤ nb ∧ Exa Z h nb "[B" ∧ Arv Z h nb nk .byte (70 : Int32) nv z0 ∧ nv.length = 70 ∧ nv = own_grow 34 70 vv)
set_option maxRecDepth 65536 in
set_option maxHeartbeats 40000000 in
theorem rm_co_34_70 (l : Launch) (Z : State) (a0 : Array Value) (hw : ∀ d ∈ tables_1, d.before a0 Z = true) (ws : List Jvm.Cond) (r0 : Addr) (kv : ClassId) (vv : List Value) (h0 : Heap) (n0 : Nat) (Z0 : n0 ≤ h0.size) (uV : Arv Z h0 r0 kv .byte (34 : Int32) vv z0) :
    MetFree l M24 (head1 (Jvm.Cond.code M24 jdk_65_method_121_code 3 (some (.array .byte)) :: ws) ({ frames := 1, cells := 1, slots := 70, locals := 18 } : Room)) (fun a U => a = #[(.ref r0), (vI 70)] ∧ Z.Warmed39 U.vm ∧ U.heap = h0) (fun _ _ _ _ _ => True) (fun _ U o U' => ∃ v L, o = .returned v ∧ Q_rm_co_34_70 Z r0 kv vv h0 n0 v U'.heap L ∧ FrameEnd U o U' L ({ frames := 1, cells := 1, slots := 70, locals := 18 } : Room).cells ({ frames := 1, cells := 1, slots := 70, locals := 18 } : Room).slots) := by
  refine MetFree.of_bodySF (plainFor_of_name pn_3) hisR ?_
  intro p e s m args below meth c s₁ Bd hml0 hP hK
  obtain ⟨rfl, hZ, hh⟩ := hP
  have hx := Bd.exec
  have hby := Bd.bytes
  have hml : c.maxLocals = 3 := hml0
  have hown : s.vm.findClass "java/util/Arrays" = some m.cls := findClass_of_methodNamed Bd.named
  have hnm := (name_of_methodNamed Bd.named Bd.method).1
  have X0 : Stand p l e ({ frames := 1, cells := 1, slots := 70, locals := 18 } : Room) s m #[(.ref r0), (vI 70)] below meth c s₁ [] 0 0 := Stand.of_body Bd
  have e0 : s₁.heap = h0 := by rw [← hh, Bd.state]; rfl
  have N0 := Fr.nil n0
  have pre0 : ∀ t, Steps p.tables e below (s₁.setTop (mkF m 0 #[vr r0, vi (70 : Int32), uu] [])) t → Steps p.tables e below (s₁.setTop (entryFrame m #[(.ref r0), (vI 70)] 3)) t := fun t k => castTop (ef_24 m r0) k
  obtain ⟨cl1, Ar1, q1, S1, Nn1, H1, G1⟩ := (id uV)
  obtain ⟨T2, h2, k2, X2, e2, E2, A2, AX2, st2⟩ := newPE X0 hx hZ (wd hw 23 rfl) e0 (g := (mkF m 15 #[vr r0, vi (70 : Int32), uu] [(vI 70)])) rfl (hb hby d13_15) rfl (by decide) (cap := 70) (by decide) (by decide) (by decide) (by decide) (ad := "[B") (by decide)
  obtain ⟨b2, g2⟩ : ∃ z, z = h0.size := ⟨_, rfl⟩
  rw [← g2] at A2 AX2 st2
  have ne_r0_b2 : r0 ≠ b2 := Nat.ne_of_lt (Nat.lt_of_lt_of_le uV.lt (Nat.le_of_eq g2.symm))
  have V2 : Arv Z h2 b2 k2 .byte (70 : Int32) [z0, z0, z0, z0, z0, z0, z0, z0, z0, z0, z0, z0, z0, z0, z0, z0, z0, z0, z0, z0, z0, z0, z0, z0, z0, z0, z0, z0, z0, z0, z0, z0, z0, z0, z0, z0, z0, z0, z0, z0, z0, z0, z0, z0, z0, z0, z0, z0, z0, z0, z0, z0, z0, z0, z0, z0, z0, z0, z0, z0, z0, z0, z0, z0, z0, z0, z0, z0, z0, z0] z0 := (Arv.new A2 (by decide)).pad (pad_rep [] z0 70)
  have g_b2 : n0 ≤ b2 := Nat.le_trans Z0 (Nat.le_of_eq g2.symm)
  have sz_b2 : h0.size ≤ b2 := Nat.le_trans (Keep.refl h0 []).1 (Nat.le_of_eq g2.symm)
  have K2 : Keep h0 h2 [] := (Keep.refl h0 []).ext E2
  have Z2 : n0 ≤ h2.size := Nat.le_trans Z0 E2.1
  have c4 := (uV.ext E2)
  obtain ⟨cl3, Ar3, q3, S3, Nn3, H3, G3⟩ := (id c4)
  obtain ⟨_, _, ⟨T5, Lw5, kw5, nw5⟩, -, X5, ⟨Lc5, hQ5, lq5, yq5, zq5⟩, st5⟩ := Jvm.LawKit.callS X2 hx (y := M1) hown (mvT hZ (wd hw 83 rfl)) (mvT hZ (wd hw 84 rfl)) (mvT hZ (wd hw 75 rfl)) (mvT hZ (wd hw 85 rfl)) (by decide) (backOf (W := 4) (rmMin l Z a0 hw [] (34 : Int32) (70 : Int32) h2 n0 Z2) hZ (wd hw 85 rfl) (wd hw 75 rfl) (by decide) (by decide)) (g := (mkF m 25 #[vr r0, vi (70 : Int32), vr b2] [(vI 70), (vI 34), z0, (.ref b2), z0, (.ref r0)])) rfl (by rw [hml]; rfl) (argsL := [(vI 34), (vI 70)]) (rest := [z0, (.ref b2), z0, (.ref r0)]) (lenOf pd_8 rfl) rfl (by show 2 * 0 + _ ≤ _; exact Nat.le_of_eq rfl) (hb hby d13_25) (fun _ _ => ⟨rfl, e2, (by decide : 1 + 0 ≤ _), (by decide : 70 + 0 ≤ _)⟩)
  dsimp only [Pt.U, Pt.locs, Pt.cells, Pt.slots] at X5 lq5 yq5 zq5 st5 hQ5
  have X5 := own_reb X5 lq5 yq5 zq5
  obtain ⟨rfl, Nq5, eh5⟩ := hQ5
  have N5 := Fr.app N0 Nq5
  obtain ⟨T6, h6, L6, X6, e6, N6, Kq6, V6, st6⟩ := cpA X5 hx hZ hown (wd hw 86 rfl) (wd hw 89 rfl) (wd hw 87 rfl) (wd hw 88 rfl) eh5 (us := ((List.range ((34 : Int32)).toNatClampNeg).map fun i => List.getD vv (((0 : Int32)).toNatClampNeg + i) z0)) c4 V2 (Or.inl ⟨rfl, rfl⟩) (by decide) (by decide) (by decide) (by decide) (by decide) rfl (by decide) N5 g_b2 (g := (mkF m 28 #[vr r0, vi (70 : Int32), vr b2] [(vI 34), z0, (.ref b2), z0, (.ref r0)])) rfl (by rw [hml]; rfl) rfl (hb hby d13_28) (by decide) (W := 0) (by show 2 * 0 + _ ≤ _; exact Nat.le_of_eq rfl) (by decide)
  have K6 : Keep h0 h6 [] := K2.trans Kq6 (allS (Or.inr sz_b2) all0)
  have Z6 : n0 ≤ h6.size := Nat.le_trans Z2 Kq6.1
  have c7 := (AX2.keep Kq6)
  obtain ⟨fs, hr, hrun, hended, hW, hsame⟩ := X6.leave (v := some (.ref b2)) (fun h => by rw [Bd.returns] at h; cases h)
  refine ⟨_, _, pre0 _ ?_, hrun, hended, _, _, rfl, ?_, ⟨_, rfl⟩, hW, hsame.mono (by decide) (by decide)⟩
  · show SS p e below s₁ (mkF m 0 #[vr r0, vi (70 : Int32), uu] []) _
    refine XS.iloadN X0.here hx rfl (hb hby d13_0) rfl ?_
    refine XS.aloadN X0.here hx rfl (hb hby d13_1) rfl rfl ?_
    show SS p e below s₁ (mkF m 2 #[vr r0, vi (70 : Int32), uu] [(.ref r0), (vI 70)]) _
    refine X0.arraylength hx (own_at e0 Ar1.1) (State.isArrayOf_alike hZ.alike Ar1.2.1) (g := (mkF m 2 #[vr r0, vi (70 : Int32), uu] [(.ref r0), (vI 70)])) rfl rfl (hb hby d13_2) _ ?_
    rw [len_of S1 Nn1]
    show SS p e below s₁ (mkF m 3 #[vr r0, vi (70 : Int32), uu] [(vI 34), (vI 70)]) _
    refine XS.icmpYes X0.here hx rfl (pc0 := 3) (pc' := 14) rfl (hb hby d13_3) rfl (feq (by decide : ¬ ((70 : Int32) = (34 : Int32)))).2 (by decide) (by decide) ?_
    refine XS.iloadN X0.here hx rfl (hb hby d13_14) rfl ?_
    refine st2 _ ?_
    refine XS.astoreN X2.here hx rfl (hb hby d13_17) rfl rfl (l' := #[vr r0, vi (70 : Int32), vr b2]) rfl ?_
    refine XS.aloadN X2.here hx rfl (hb hby d13_18) rfl rfl ?_
    refine XS.iconst X2.here hx rfl (hb hby d13_19) ?_
    refine XS.aloadN X2.here hx rfl (hb hby d13_20) rfl rfl ?_
    refine XS.iconst X2.here hx rfl (hb hby d13_21) ?_
    refine XS.aloadN X2.here hx rfl (hb hby d13_22) rfl rfl ?_
    show SS p e below T2 (mkF m 23 #[vr r0, vi (70 : Int32), vr b2] [(.ref r0), z0, (.ref b2), z0, (.ref r0)]) _
    refine X2.arraylength hx (own_at e2 Ar3.1) (State.isArrayOf_alike hZ.alike Ar3.2.1) (g := (mkF m 23 #[vr r0, vi (70 : Int32), vr b2] [(.ref r0), z0, (.ref b2), z0, (.ref r0)])) rfl rfl (hb hby d13_23) _ ?_
    rw [len_of S3 Nn3]
    refine XS.iloadN X2.here hx rfl (hb hby d13_24) rfl ?_
    show SS p e below T2 (mkF m 25 #[vr r0, vi (70 : Int32), vr b2] [(vI 70), (vI 34), z0, (.ref b2), z0, (.ref r0)]) _
    refine st5 _ ?_
    rw [(show (if (70 : Int32) < (34 : Int32) then (70 : Int32) else (34 : Int32)) = (34 : Int32) from by decide)]
    show SS p e below T5 (mkF m 28 #[vr r0, vi (70 : Int32), vr b2] [(vI 34), z0, (.ref b2), z0, (.ref r0)]) _
    refine st6 _ ?_
    refine XS.aloadN X6.here hx rfl (hb hby d13_31) rfl rfl ?_
    exact retOut X6 hx Bd.returns rfl (Or.inr (Or.inr (Or.inr (Or.inr ⟨rfl, rfl, rfl⟩)))) (hb hby d13_32) hr
  · show Q_rm_co_34_70 Z r0 kv vv h0 n0 _ T6.heap _
    rw [e6]
    exact ⟨b2, k2, (List.take ((0 : Int32)).toNatClampNeg [z0, z0, z0, z0, z0, z0, z0, z0, z0, z0, z0, z0, z0, z0, z0, z0, z0, z0, z0, z0, z0, z0, z0, z0, z0, z0, z0, z0, z0, z0, z0, z0, z0, z0, z0, z0, z0, z0, z0, z0, z0, z0, z0, z0, z0, z0, z0, z0, z0, z0, z0, z0, z0, z0, z0, z0, z0, z0, z0, z0, z0, z0, z0, z0, z0, z0, z0, z0, z0, z0] ++ ((List.range ((34 : Int32)).toNatClampNeg).map fun i => List.getD vv (((0 : Int32)).toNatClampNeg + i) z0) ++ List.drop (((0 : Int32)).toNatClampNeg + ((34 : Int32)).toNatClampNeg) [z0, z0, z0, z0, z0, z0, z0, z0, z0, z0, z0, z0, z0, z0, z0, z0, z0, z0, z0, z0, z0, z0, z0, z0, z0, z0, z0, z0, z0, z0, z0, z0, z0, z0, z0, z0, z0, z0, z0, z0, z0, z0, z0, z0, z0, z0, z0, z0, z0, z0, z0, z0, z0, z0, z0, z0, z0, z0, z0, z0, z0, z0, z0, z0, z0, z0, z0, z0, z0, z0]), rfl, N6, K6, sz_b2, c7, V6, (own_len3 (n := 70) rfl (by simp only [List.length_map, List.length_range]) (by decide)), rfl⟩
theorem d9_17 : decode jdk_68_method_9_code 17 = .ok (.aload_n 0, 1) := by decide +kernel
theorem d9_18 : decode jdk_68_method_9_code 18 = .ok (.aload_n 0, 1) := by decide +kernel
theorem d9_19 : decode jdk_68_method_9_code 19 = .ok (.getfield 15, 3) := by decide +kernel
theorem d9_22 : decode jdk_68_method_9_code 22 = .ok (.aload_n 0, 1) := by decide +kernel
theorem d9_23 : decode jdk_68_method_9_code 23 = .ok (.iload_n 1, 1) := by decide +kernel
theorem d9_24 : decode jdk_68_method_9_code 24 = .ok (.invokevirtual 104, 3) := by decide +kernel
theorem pd_15 : parseMethodDescriptor "(I)I" = some ⟨[.int], some .int⟩ := by decide +kernel
theorem d9_27 : decode jdk_68_method_9_code 27 = .ok (.aload_n 0, 1) := by decide +kernel
theorem d9_28 : decode jdk_68_method_9_code 28 = .ok (.getfield 22, 3) := by decide +kernel
theorem d9_31 : decode jdk_68_method_9_code 31 = .ok (.ishl, 1) := by decide +kernel
theorem d9_32 : decode jdk_68_method_9_code 32 = .ok (.invokestatic 108, 3) := by decide +kernel
theorem pd_16 : parseMethodDescriptor "([BI)[B" = some ⟨[(.array .byte), .int], some (.array .byte)⟩ := by decide +kernel
theorem d9_35 : decode jdk_68_method_9_code 35 = .ok (.putfield 15, 3) := by decide +kernel
def Q_rs_ensG (Z : State) (r0 : Addr) (p1 : Int32) (rv : Addr) (kv : ClassId) (vv : List Value) (cn : Int32) (h0 : Heap) (n0 : Nat) (v : Option Value) (h : Heap) (L : List Loc) : Prop := ∃ (nb : Addr), ∃ (nk : ClassId), ∃ (nv : List Value), (v = none ∧ Fr n0 L ∧ Keep h0 h [r0] ∧ Fld Z h r0 "java/lang/AbstractStringBuilder" "value" "[B" (.ref nb) ∧ Fld Z h r0 "java/lang/AbstractStringBuilder" "coder" "B" z0 ∧ Fld Z h r0 "java/lang/AbstractStringBuilder" "count" "I" (.int cn) ∧ h0.size ≤ nb ∧ Exa Z h nb "[B" ∧ Arv Z h nb nk .byte (70 : Int32) nv z0 ∧ nv.length = 70 ∧ nv = own_grow 34 70 vv)
set_option maxRecDepth 65536 in
set_option maxHeartbeats 40000000 in
theorem rs_ensG (l : Launch) (Z : State) (a0 : Array Value) (hw : ∀ d ∈ tables_1, d.before a0 Z = true) (ws : List Jvm.Cond) (r0 : Addr) (p1 : Int32) (rv : Addr) (kv : ClassId) (vv : List Value) (cn : Int32) (h0 : Heap) (n0 : Nat) (Z0 : n0 ≤ h0.size) (uE : Exa Z h0 r0 "java/lang/StringBuilder") (uv : Fld Z h0 r0 "java/lang/AbstractStringBuilder" "value" "[B" (.ref rv)) (uc : Fld Z h0 r0 "java/lang/AbstractStringBuilder" "coder" "B" z0) (uV : Arv Z h0 rv kv .byte (34 : Int32) vv z0) (uk : Fld Z h0 r0 "java/lang/AbstractStringBuilder" "count" "I" (.int cn)) (ug : n0 ≤ r0) (uG1 : (0 : Int32) < (p1 - (34 : Int32))) (uG2 : (p1 - (34 : Int32)) < (36 : Int32)) :
    MetFree l M12 (head1 (Jvm.Cond.code M12 jdk_68_method_9_code 3 none :: ws) ({ frames := 3, cells := 1, slots := 70, locals := 48 } : Room)) (fun a U => a = #[(.ref r0), (.int p1)] ∧ Z.Warmed39 U.vm ∧ U.heap = h0) (fun _ _ _ _ _ => True) (fun _ U o U' => ∃ v L, o = .returned v ∧ Q_rs_ensG Z r0 p1 rv kv vv cn h0 n0 v U'.heap L ∧ FrameEnd U o U' L ({ frames := 3, cells := 1, slots := 70, locals := 48 } : Room).cells ({ frames := 3, cells := 1, slots := 70, locals := 48 } : Room).slots) := by
  refine MetFree.of_bodySF (plainFor_of_name pn_1) hisR ?_
  intro p e s m args below meth c s₁ Bd hml0 hP hK
  obtain ⟨rfl, hZ, hh⟩ := hP
  have hx := Bd.exec
  have hby := Bd.bytes
  have hml : c.maxLocals = 3 := hml0
  have hown : s.vm.findClass "java/lang/AbstractStringBuilder" = some m.cls := findClass_of_methodNamed Bd.named
  have hnm := (name_of_methodNamed Bd.named Bd.method).1
  have X0 : Stand p l e ({ frames := 3, cells := 1, slots := 70, locals := 48 } : Room) s m #[(.ref r0), (.int p1)] below meth c s₁ [] 0 0 := Stand.of_body Bd
  have e0 : s₁.heap = h0 := by rw [← hh, Bd.state]; rfl
  have N0 := Fr.nil n0
  have pre0 : ∀ t, Steps p.tables e below (s₁.setTop (mkF m 0 #[vr r0, vi p1, uu] [])) t → Steps p.tables e below (s₁.setTop (entryFrame m #[(.ref r0), (.int p1)] 3)) t := fun t k => castTop (ef_12 m r0 p1) k
  obtain ⟨T1, X1, e1, st1⟩ := getF X0 hx hZ hown (host := "") (Or.inl (wd hw 24 rfl)) Via.refl e0 uv (g := (mkF m 1 #[vr r0, vi p1, uu] [(.ref r0)])) rfl rfl (hb hby d9_1)
  obtain ⟨cl2, Ar2, q2, S2, Nn2, H2, G2⟩ := (id uV)
  obtain ⟨T3, X3, e3, st3⟩ := getF X1 hx hZ hown (host := "") (Or.inl (wd hw 26 rfl)) Via.refl e1 uc (g := (mkF m 6 #[vr r0, vi p1, uu] [(.ref r0), (vI 34)])) rfl rfl (hb hby d9_6)
  obtain ⟨T4, X4, e4, st4⟩ := getF X3 hx hZ hown (host := "") (Or.inl (wd hw 24 rfl)) Via.refl e3 uv (g := (mkF m 19 #[vr r0, vi p1, vi (34 : Int32)] [(.ref r0), (.ref r0)])) rfl rfl (hb hby d9_19)
  obtain ⟨cq5, kq5, q5a, q5b, q5c⟩ := isOf hZ e4 uE
  obtain ⟨_, _, ⟨T5, Lw5, kw5, nw5⟩, -, X5, ⟨Lc5, hQ5, lq5, yq5, zq5⟩, st5⟩ := X4.virtualBack hx (y := M23) (z := M23) hown (mvT hZ (wd hw 64 rfl)) (mvT hZ (own_decl (wd hw 65 rfl) (wd hw 68 rfl))) (notFace_of_selects (args := #[]) (mvT hZ (wd hw 67 rfl))) (mvT hZ (wd hw 67 rfl)) (mvT hZ (wd hw 65 rfl)) (by decide) (backOf (W := 2) (rs_nc l Z a0 hw [] r0 p1 rv kv vv h0 n0 Z0 uE uv uc uV uG2) hZ (wd hw 68 rfl) (wd hw 16 rfl) (by decide) (by decide)) q5a q5c (g := (mkF m 24 #[vr r0, vi p1, vi (34 : Int32)] [(.int p1), (.ref r0), (.ref rv), (.ref r0)])) rfl (by rw [hml]; rfl) (Steps.refl _) (argsL := [(.int p1)]) (rest := [(.ref rv), (.ref r0)]) (lenOf pd_15 rfl) rfl (by show 2 * 0 + _ ≤ _; exact Nat.le_of_eq rfl) (hb hby d9_24) (fun _ _ => ⟨rfl, e4, (by decide : 0 + 0 ≤ _), (by decide : 0 + 0 ≤ _)⟩)
  dsimp only [Pt.U, Pt.locs, Pt.cells, Pt.slots] at X5 lq5 yq5 zq5 st5 hQ5
  have X5 := own_reb X5 lq5 yq5 zq5
  obtain ⟨rfl, Nq5, eh5⟩ := hQ5
  have N5 := Fr.app N0 Nq5
  obtain ⟨T6, X6, e6, st6⟩ := getF X5 hx hZ hown (host := "") (Or.inl (wd hw 26 rfl)) Via.refl eh5 uc (g := (mkF m 28 #[vr r0, vi p1, vi (34 : Int32)] [(.ref r0), (vI 70), (.ref rv), (.ref r0)])) rfl rfl (hb hby d9_28)
  obtain ⟨_, _, ⟨T7, Lw7, kw7, nw7⟩, -, X7, ⟨Lc7, hQ7, lq7, yq7, zq7⟩, st7⟩ := Jvm.LawKit.callS X6 hx (y := M24) hown (mvT hZ (wd hw 79 rfl)) (mvT hZ (wd hw 80 rfl)) (mvT hZ (wd hw 81 rfl)) (mvT hZ (wd hw 82 rfl)) (by decide) (backOf (W := 1) (rm_co_34_70 l Z a0 hw [] rv kv vv h0 n0 Z0 uV) hZ (wd hw 82 rfl) (wd hw 81 rfl) (by decide) (by decide)) (g := (mkF m 32 #[vr r0, vi p1, vi (34 : Int32)] [(vI 70), (.ref rv), (.ref r0)])) rfl (by rw [hml]; rfl) (argsL := [(.ref rv), (vI 70)]) (rest := [(.ref r0)]) (lenOf pd_16 rfl) rfl (by show 2 * 0 + _ ≤ _; exact Nat.le_of_eq rfl) (hb hby d9_32) (fun _ _ => ⟨rfl, e6, (by decide : 0 + 1 ≤ _), (by decide : 0 + 70 ≤ _)⟩)
  dsimp only [Pt.U, Pt.locs, Pt.cells, Pt.slots] at X7 lq7 yq7 zq7 st7 hQ7
  have X7 := own_reb X7 lq7 yq7 zq7
  obtain ⟨nb_7, nk_7, nv_7, rfl, Nq7, Kq7, f7_0, f7_1, f7_2, f7_3, f7_4⟩ := hQ7
  have N7 := Fr.app N5 Nq7
  have ne_r0_nb_7 : r0 ≠ nb_7 := Nat.ne_of_lt (Nat.lt_of_lt_of_le uE.lt f7_0)
  have ne_rv_nb_7 : rv ≠ nb_7 := Nat.ne_of_lt (Nat.lt_of_lt_of_le uV.lt f7_0)
  have g_nb_7 : n0 ≤ nb_7 := Nat.le_trans Z0 f7_0
  have sz_nb_7 : h0.size ≤ nb_7 := Nat.le_trans (Keep.refl h0 [r0]).1 f7_0
  have K7 : Keep h0 T7.heap [r0] := (Keep.refl h0 [r0]).trans Kq7 all0
  have Z7 : n0 ≤ T7.heap.size := Nat.le_trans Z0 Kq7.1
  have c9 := (uE.keep Kq7)
  have c10 := (uv.keep Kq7 nin0)
  obtain ⟨T8, h8, X8, e8, W8, st8⟩ := putF X7 hx hZ hown (host := "") (Or.inl (wd hw 24 rfl)) Via.refl rfl c10 c9 (Or.inl (wd hw 25 rfl)) (wd hw 7 rfl) (ty := (.array .byte)) (by decide) rfl rfl (g := (mkF m 35 #[vr r0, vi p1, vi (34 : Int32)] [(.ref nb_7), (.ref r0)])) rfl rfl (hb hby d9_35)
  have Fw8 := c10.same W8
  have N8 := Fr.snoc X8 N7 ug
  have K8 : Keep h0 h8 [r0] := K7.wr W8 (Or.inl (List.mem_of_getElem? (i := 0) rfl))
  have Z8 : n0 ≤ h8.size := by rw [W8.size]; exact Z7
  have c11 := ((uc.keep Kq7 nin0).other W8 (Or.inr (slot_ne (Or.inl (wd hw 27 rfl)) (Or.inl (wd hw 25 rfl)) (by decide) (t := .byte) (t' := (.array .byte)) (by decide) (by decide))))
  have c12 := ((uk.keep Kq7 nin0).other W8 (Or.inr (slot_ne (Or.inl (wd hw 58 rfl)) (Or.inl (wd hw 25 rfl)) (by decide) (t := .int) (t' := (.array .byte)) (by decide) (by decide))))
  have c13 := (f7_1.wr W8)
  have c14 := (f7_2.other W8 (Ne.symm ne_r0_nb_7))
  obtain ⟨fs, hr, hrun, hended, hW, hsame⟩ := X8.leave (v := none) (fun _ => rfl)
  refine ⟨_, _, pre0 _ ?_, hrun, hended, _, _, rfl, ?_, ⟨_, rfl⟩, hW, hsame.mono (by decide) (by decide)⟩
  · show SS p e below s₁ (mkF m 0 #[vr r0, vi p1, uu] []) _
    refine XS.aloadN X0.here hx rfl (hb hby d9_0) rfl rfl ?_
    refine st1 _ ?_
    show SS p e below T1 (mkF m 4 #[vr r0, vi p1, uu] [(.ref rv)]) _
    refine X1.arraylength hx (own_at e1 Ar2.1) (State.isArrayOf_alike hZ.alike Ar2.2.1) (g := (mkF m 4 #[vr r0, vi p1, uu] [(.ref rv)])) rfl rfl (hb hby d9_4) _ ?_
    rw [len_of S2 Nn2]
    refine XS.aloadN X1.here hx rfl (hb hby d9_5) rfl rfl ?_
    refine st3 _ ?_
    show SS p e below T3 (mkF m 9 #[vr r0, vi p1, uu] [z0, (vI 34)]) _
    refine XS.ishr X3.here hx rfl (hb hby d9_9) rfl ?_
    show SS p e below T3 (mkF m 10 #[vr r0, vi p1, uu] [(.int ((34 : Int32) >>> ((0 : Int32) &&& 31)))]) _
    rw [own_shr0 _]
    refine XS.istoreN X3.here hx rfl (hb hby d9_10) rfl (l' := #[vr r0, vi p1, vi (34 : Int32)]) rfl ?_
    refine XS.iloadN X3.here hx rfl (hb hby d9_11) rfl ?_
    refine XS.iloadN X3.here hx rfl (hb hby d9_12) rfl ?_
    refine XS.isub X3.here hx rfl (hb hby d9_13) rfl ?_
    show SS p e below T3 (mkF m 14 #[vr r0, vi p1, vi (34 : Int32)] [(.int (p1 - (34 : Int32)))]) _
    refine XS.ifNo X3.here hx rfl (hb hby d9_14) rfl ((if0 _ _).trans (tlt (uG1 : (0 : Int32) < (p1 - (34 : Int32)))).2.2.2) ?_
    refine XS.aloadN X3.here hx rfl (hb hby d9_17) rfl rfl ?_
    refine XS.aloadN X3.here hx rfl (hb hby d9_18) rfl rfl ?_
    refine st4 _ ?_
    refine XS.aloadN X4.here hx rfl (hb hby d9_22) rfl rfl ?_
    refine XS.iloadN X4.here hx rfl (hb hby d9_23) rfl ?_
    show SS p e below T4 (mkF m 24 #[vr r0, vi p1, vi (34 : Int32)] [(.int p1), (.ref r0), (.ref rv), (.ref r0)]) _
    refine st5.trans ?_
    refine XS.aloadN X5.here hx rfl (hb hby d9_27) rfl rfl ?_
    refine st6 _ ?_
    show SS p e below T6 (mkF m 31 #[vr r0, vi p1, vi (34 : Int32)] [z0, (vI 70), (.ref rv), (.ref r0)]) _
    refine XS.ishl X6.here hx rfl (hb hby d9_31) rfl ?_
    show SS p e below T6 (mkF m 32 #[vr r0, vi p1, vi (34 : Int32)] [(.int ((70 : Int32) <<< ((0 : Int32) &&& 31))), (.ref rv), (.ref r0)]) _
    rw [(show ((70 : Int32) <<< ((0 : Int32) &&& 31)) = (70 : Int32) from by decide)]
    show SS p e below T6 (mkF m 32 #[vr r0, vi p1, vi (34 : Int32)] [(vI 70), (.ref rv), (.ref r0)]) _
    refine st7 _ ?_
    refine st8 _ ?_
    exact X8.returnOut hx Bd.returns (hb hby d9_38) hr
  · show Q_rs_ensG Z r0 p1 rv kv vv cn h0 n0 _ T8.heap _
    rw [e8]
    exact ⟨nb_7, nk_7, nv_7, rfl, N8, K8, Fw8, c11, c12, sz_nb_7, c13, c14, f7_3, f7_4⟩
theorem ef_25 (m : MethodId) (x0 : Addr) (x1 : Int32) : entryFrame m #[(.ref x0), (.int x1)] 4 = mkF m 0 #[vr x0, vi x1, uu, uu] [] := by first | (simp [entryFrame, mkF, argsToLocals, Value.category]; done) | rfl
theorem d19_0 : decode jdk_68_method_32_code 0 = .ok (.aload_n 0, 1) := by decide +kernel
theorem d19_1 : decode jdk_68_method_32_code 1 = .ok (.getfield 79, 3) := by decide +kernel
theorem d19_4 : decode jdk_68_method_32_code 4 = .ok (.istore_n 2, 1) := by decide +kernel
theorem d19_5 : decode jdk_68_method_32_code 5 = .ok (.iload_n 2, 1) := by decide +kernel
theorem d19_6 : decode jdk_68_method_32_code 6 = .ok (.iload_n 1, 1) := by decide +kernel
theorem d19_7 : decode jdk_68_method_32_code 7 = .ok (.invokestatic 245, 3) := by decide +kernel
theorem d19_10 : decode jdk_68_method_32_code 10 = .ok (.iadd, 1) := by decide +kernel
theorem d19_11 : decode jdk_68_method_32_code 11 = .ok (.istore_n 3, 1) := by decide +kernel
theorem d19_12 : decode jdk_68_method_32_code 12 = .ok (.aload_n 0, 1) := by decide +kernel
theorem d19_13 : decode jdk_68_method_32_code 13 = .ok (.iload_n 3, 1) := by decide +kernel
theorem d19_14 : decode jdk_68_method_32_code 14 = .ok (.invokevirtual 100, 3) := by decide +kernel
theorem d19_17 : decode jdk_68_method_32_code 17 = .ok (.aload_n 0, 1) := by decide +kernel
theorem d19_18 : decode jdk_68_method_32_code 18 = .ok (.invokevirtual 83, 3) := by decide +kernel
theorem d19_21 : decode jdk_68_method_32_code 21 = .ok (.ifCond .eq 16, 3) := by decide +kernel
theorem d19_24 : decode jdk_68_method_32_code 24 = .ok (.iload_n 1, 1) := by decide +kernel
theorem d19_25 : decode jdk_68_method_32_code 25 = .ok (.iload_n 3, 1) := by decide +kernel
theorem d19_26 : decode jdk_68_method_32_code 26 = .ok (.aload_n 0, 1) := by decide +kernel
theorem d19_27 : decode jdk_68_method_32_code 27 = .ok (.getfield 15, 3) := by decide +kernel
theorem d19_30 : decode jdk_68_method_32_code 30 = .ok (.invokestatic 248, 3) := by decide +kernel
theorem pd_17 : parseMethodDescriptor "(II[B)I" = some ⟨[.int, .int, (.array .byte)], some .int⟩ := by decide +kernel
theorem d19_33 : decode jdk_68_method_32_code 33 = .ok (.pop, 1) := by decide +kernel
theorem d19_34 : decode jdk_68_method_32_code 34 = .ok (.goto 14, 3) := by decide +kernel
theorem d19_48 : decode jdk_68_method_32_code 48 = .ok (.aload_n 0, 1) := by decide +kernel
theorem d19_49 : decode jdk_68_method_32_code 49 = .ok (.iload_n 3, 1) := by decide +kernel
theorem d19_50 : decode jdk_68_method_32_code 50 = .ok (.putfield 79, 3) := by decide +kernel
theorem d19_53 : decode jdk_68_method_32_code 53 = .ok (.aload_n 0, 1) := by decide +kernel
theorem d19_54 : decode jdk_68_method_32_code 54 = .ok (.areturn, 1) := by decide +kernel
def Q_rs_appIk (Z : State) (r0 : Addr) (p1 : Int32) (zc : Int32) (dg1 : Addr) (dg2 : Addr) (kd1 : ClassId) (kd2 : ClassId) (N : Nat) (sg : Nat) (d : Nat) (zs : Int32) (n1 : Int32) (rv : Addr) (kv : ClassId) (vv : List Value) (h0 : Heap) (n0 : Nat) (v : Option Value) (h : Heap) (L : List Loc) : Prop := ∃ (nv : List Value), (v = some (.ref r0) ∧ Fr n0 L ∧ Keep h0 h [r0, rv] ∧ Fld Z h r0 "java/lang/AbstractStringBuilder" "value" "[B" (.ref rv) ∧ Fld Z h r0 "java/lang/AbstractStringBuilder" "coder" "B" z0 ∧ Fld Z h r0 "java/lang/AbstractStringBuilder" "count" "I" (.int n1) ∧ Arv Z h rv kv .byte (34 : Int32) nv z0 ∧ nv.length = (34 : Int32).toNatClampNeg ∧ (∀ j, j < 27 → nv.getD j z0 = vv.getD j z0) ∧ own_dgs N sg d nv)
set_option maxRecDepth 65536 in
set_option maxHeartbeats 40000000 in
theorem rs_appIk (l : Launch) (Z : State) (a0 : Array Value) (hw : ∀ d ∈ tables_1, d.before a0 Z = true) (ws : List Jvm.Cond) (r0 : Addr) (p1 : Int32) (zc : Int32) (dg1 : Addr) (dg2 : Addr) (kd1 : ClassId) (kd2 : ClassId) (N : Nat) (sg : Nat) (d : Nat) (zs : Int32) (n1 : Int32) (rv : Addr) (kv : ClassId) (vv : List Value) (h0 : Heap) (n0 : Nat) (Z0 : n0 ≤ h0.size) (uO : Old Z n0 h0) (uS : Sta Z Z.heap "java/lang/String" "COMPACT_STRINGS" "Z" (.int zc)) (uP : ¬ zc = 0) (uD : Sta Z Z.heap "java/lang/Integer" "DigitOnes" "[B" (.ref dg1)) (uDV : Arv Z Z.heap dg1 kd1 .byte (100 : Int32) own_ones z0) (uT : Sta Z Z.heap "java/lang/Integer" "DigitTens" "[B" (.ref dg2)) (uTV : Arv Z Z.heap dg2 kd2 .byte (100 : Int32) own_tens z0) (uL1 : (Jvm.Cond.laysStatic "java/lang/Integer" "DigitOnes" "[B").before a0 Z = true) (uL2 : (Jvm.Cond.laysStatic "java/lang/Integer" "DigitTens" "[B").before a0 Z = true) (uN : (if p1 < 0 then p1 else -p1) = Jvm.Free.SBG.negI N) (uNb : N ≤ 2 ^ 31) (usg : Jvm.Free.SBG.GetChars.sgn p1 = sg) (ud : Jvm.Free.SBG.digits N = d) (uSz : Jvm.Free.SBG.strSizeOf p1 = zs) (uN1 : ((27 : Int32) + zs) = n1) (ui : Int32.ofNat (27 + (d + sg)) = n1) (uR : 27 + (d + sg) ≤ (34 : Int32).toNatClampNeg) (uK : ¬ ((0 : Int32) < (n1 - (34 : Int32)))) (uE : Exa Z h0 r0 "java/lang/StringBuilder") (uv : Fld Z h0 r0 "java/lang/AbstractStringBuilder" "value" "[B" (.ref rv)) (uc : Fld Z h0 r0 "java/lang/AbstractStringBuilder" "coder" "B" z0) (uV : Arv Z h0 rv kv .byte (34 : Int32) vv z0) (uk : Fld Z h0 r0 "java/lang/AbstractStringBuilder" "count" "I" (vI 27)) (ug : n0 ≤ r0) (ugv : n0 ≤ rv) :
    MetFree l M25 (head1 (Jvm.Cond.code M25 jdk_68_method_32_code 4 (some (.object "java/lang/AbstractStringBuilder")) :: ws) ({ frames := 2, cells := 0, slots := 0, locals := 78 } : Room)) (fun a U => a = #[(.ref r0), (.int p1)] ∧ Z.Warmed39 U.vm ∧ U.heap = h0) (fun _ _ _ _ _ => True) (fun _ U o U' => ∃ v L, o = .returned v ∧ Q_rs_appIk Z r0 p1 zc dg1 dg2 kd1 kd2 N sg d zs n1 rv kv vv h0 n0 v U'.heap L ∧ FrameEnd U o U' L ({ frames := 2, cells := 0, slots := 0, locals := 78 } : Room).cells ({ frames := 2, cells := 0, slots := 0, locals := 78 } : Room).slots) := by
  refine MetFree.of_bodySF (plainFor_of_name pn_1) hisR ?_
  intro p e s m args below meth c s₁ Bd hml0 hP hK
  obtain ⟨rfl, hZ, hh⟩ := hP
  have hx := Bd.exec
  have hby := Bd.bytes
  have hml : c.maxLocals = 4 := hml0
  have hown : s.vm.findClass "java/lang/AbstractStringBuilder" = some m.cls := findClass_of_methodNamed Bd.named
  have hnm := (name_of_methodNamed Bd.named Bd.method).1
  have X0 : Stand p l e ({ frames := 2, cells := 0, slots := 0, locals := 78 } : Room) s m #[(.ref r0), (.int p1)] below meth c s₁ [] 0 0 := Stand.of_body Bd
  have e0 : s₁.heap = h0 := by rw [← hh, Bd.state]; rfl
  have N0 := Fr.nil n0
  have pre0 : ∀ t, Steps p.tables e below (s₁.setTop (mkF m 0 #[vr r0, vi p1, uu, uu] [])) t → Steps p.tables e below (s₁.setTop (entryFrame m #[(.ref r0), (.int p1)] 4)) t := fun t k => castTop (ef_25 m r0 p1) k
  obtain ⟨T1, X1, e1, st1⟩ := getF X0 hx hZ hown (host := "") (Or.inl (wd hw 57 rfl)) Via.refl e0 uk (g := (mkF m 1 #[vr r0, vi p1, uu, uu] [(.ref r0)])) rfl rfl (hb hby d19_1)
  obtain ⟨_, _, ⟨T2, Lw2, kw2, nw2⟩, -, X2, ⟨Lc2, hQ2, lq2, yq2, zq2⟩, st2⟩ := Jvm.LawKit.callS X1 hx (y := M26) hown (mvT hZ (wd hw 116 rfl)) (mvT hZ (wd hw 117 rfl)) (mvT hZ (wd hw 118 rfl)) (mvT hZ (wd hw 119 rfl)) (by decide) (own_ssB (W := 1) l Z a0 hw p1 zs h0 n0 Z0 uSz hZ (wd hw 119 rfl) (wd hw 118 rfl) (by decide) (by decide)) (g := (mkF m 7 #[vr r0, vi p1, vi (27 : Int32), uu] [(.int p1), (vI 27)])) rfl (by rw [hml]; rfl) (argsL := [(.int p1)]) (rest := [(vI 27)]) (lenOf pd_15 rfl) rfl (by show 2 * 0 + _ ≤ _; exact Nat.le_of_eq rfl) (hb hby d19_7) (fun _ _ => ⟨rfl, e1, (by decide : 0 + 0 ≤ _), (by decide : 0 + 0 ≤ _)⟩)
  dsimp only [Pt.U, Pt.locs, Pt.cells, Pt.slots] at X2 lq2 yq2 zq2 st2 hQ2
  have X2 := own_reb X2 lq2 yq2 zq2
  obtain ⟨rfl, Nq2, eh2⟩ := hQ2
  have N2 := Fr.app N0 Nq2
  obtain ⟨cq3, kq3, q3a, q3b, q3c⟩ := isOf hZ eh2 uE
  obtain ⟨_, _, ⟨T3, Lw3, kw3, nw3⟩, -, X3, ⟨Lc3, hQ3, lq3, yq3, zq3⟩, st3⟩ := X2.virtualBack hx (y := M12) (z := M12) hown (mvT hZ (wd hw 59 rfl)) (mvT hZ (own_decl (wd hw 60 rfl) (wd hw 63 rfl))) (notFace_of_selects (args := #[]) (mvT hZ (wd hw 62 rfl))) (mvT hZ (wd hw 62 rfl)) (mvT hZ (wd hw 60 rfl)) (by decide) (backOf (W := 0) (rg_ensK l Z a0 hw [] r0 n1 rv kv (34 : Int32) vv h0 n0 Z0 uE uv uc uV uK) hZ (wd hw 63 rfl) (wd hw 16 rfl) (by decide) (by decide)) q3a q3c (g := (mkF m 14 #[vr r0, vi p1, vi (27 : Int32), vi n1] [(.int n1), (.ref r0)])) rfl (by rw [hml]; rfl) (Steps.refl _) (argsL := [(.int n1)]) (rest := []) (lenOf pd_1 rfl) rfl (by show 2 * 0 + _ ≤ _; exact Nat.le_of_eq rfl) (hb hby d19_14) (fun _ _ => ⟨rfl, eh2, (by decide : 0 + 0 ≤ _), (by decide : 0 + 0 ≤ _)⟩)
  dsimp only [Pt.U, Pt.locs, Pt.cells, Pt.slots] at X3 lq3 yq3 zq3 st3 hQ3
  have X3 := own_reb X3 lq3 yq3 zq3
  obtain ⟨rfl, Nq3, eh3⟩ := hQ3
  have N3 := Fr.app N2 Nq3
  obtain ⟨cq4, kq4, q4a, q4b, q4c⟩ := isOf hZ eh3 uE
  obtain ⟨_, _, ⟨T4, Lw4, kw4, nw4⟩, -, X4, ⟨Lc4, hQ4, lq4, yq4, zq4⟩, st4⟩ := X3.virtualBack hx (y := M4) (z := M4) hown (mvT hZ (wd hw 120 rfl)) (mvT hZ (wd hw 121 rfl)) (notFace_of_selects (args := #[]) (mvT hZ (wd hw 123 rfl))) (mvT hZ (wd hw 123 rfl)) (mvT hZ (wd hw 122 rfl)) (by decide) (backOf (W := 0) (rmIL l Z a0 hw [] r0 zc h0 n0 Z0 uO uS uP uc) hZ (wd hw 124 rfl) (wd hw 16 rfl) (by decide) (by decide)) q4a q4c (g := (mkF m 18 #[vr r0, vi p1, vi (27 : Int32), vi n1] [(.ref r0)])) rfl (by rw [hml]; rfl) (Steps.refl _) (argsL := []) (rest := []) (lenOf pd_11 rfl) rfl (by show 2 * 0 + _ ≤ _; exact Nat.le_of_eq rfl) (hb hby d19_18) (fun _ _ => ⟨rfl, eh3, (by decide : 0 + 0 ≤ _), (by decide : 0 + 0 ≤ _)⟩)
  dsimp only [Pt.U, Pt.locs, Pt.cells, Pt.slots] at X4 lq4 yq4 zq4 st4 hQ4
  have X4 := own_reb X4 lq4 yq4 zq4
  obtain ⟨rfl, Nq4, eh4⟩ := hQ4
  have N4 := Fr.app N3 Nq4
  obtain ⟨T5, X5, e5, st5⟩ := getF X4 hx hZ hown (host := "") (Or.inl (wd hw 24 rfl)) Via.refl eh4 uv (g := (mkF m 27 #[vr r0, vi p1, vi (27 : Int32), vi n1] [(.ref r0), (.int n1), (.int p1)])) rfl rfl (hb hby d19_27)
  obtain ⟨_, _, ⟨T6, Lw6, kw6, nw6⟩, -, X6, ⟨Lc6, hQ6, lq6, yq6, zq6⟩, st6⟩ := Jvm.LawKit.callS X5 hx (y := M27) hown (mvT hZ (wd hw 125 rfl)) (mvT hZ (wd hw 126 rfl)) (mvT hZ (wd hw 118 rfl)) (mvT hZ (wd hw 127 rfl)) (by decide) (own_gcB (W := 0) l Z a0 hw p1 n1 rv kv (34 : Int32) vv dg1 dg2 kd1 kd2 N sg d h0 n0 Z0 uO uD uDV uT uTV uL1 uL2 uN uNb usg ud ui uV uR ugv hZ (wd hw 127 rfl) (wd hw 118 rfl) (wd hw 128 rfl) (wd hw 318 rfl) (by decide) (by decide)) (g := (mkF m 30 #[vr r0, vi p1, vi (27 : Int32), vi n1] [(.ref rv), (.int n1), (.int p1)])) rfl (by rw [hml]; rfl) (argsL := [(.int p1), (.int n1), (.ref rv)]) (rest := []) (lenOf pd_17 rfl) rfl (by show 2 * 0 + _ ≤ _; exact Nat.le_of_eq rfl) (hb hby d19_30) (fun _ _ => ⟨rfl, e5, (by decide : 0 + 0 ≤ _), (by decide : 0 + 0 ≤ _)⟩)
  dsimp only [Pt.U, Pt.locs, Pt.cells, Pt.slots] at X6 lq6 yq6 zq6 st6 hQ6
  have X6 := own_reb X6 lq6 yq6 zq6
  obtain ⟨nv_6, rfl, Nq6, Kq6, f6_0, f6_1, f6_2, f6_3⟩ := hQ6
  have N6 := Fr.app N4 Nq6
  have K6 : Keep h0 T6.heap [r0, rv] := (Keep.refl h0 [r0, rv]).trans Kq6 (allS (Or.inl (List.mem_of_getElem? (i := 1) rfl)) all0)
  have Z6 : n0 ≤ T6.heap.size := Nat.le_trans Z0 Kq6.1
  have c8 := (uE.keep Kq6)
  have c9 := (uk.keep Kq6 (ninS (Exa.neArv uE uV (wd hw 7 rfl)) nin0))
  obtain ⟨T7, h7, X7, e7, W7, st7⟩ := putF X6 hx hZ hown (host := "") (Or.inl (wd hw 57 rfl)) Via.refl rfl c9 c8 (Or.inl (wd hw 58 rfl)) (wd hw 7 rfl) (ty := .int) (by decide) rfl rfl (g := (mkF m 50 #[vr r0, vi p1, vi (27 : Int32), vi n1] [(.int n1), (.ref r0)])) rfl rfl (hb hby d19_50)
  have Fw7 := c9.same W7
  have N7 := Fr.snoc X7 N6 ug
  have K7 : Keep h0 h7 [r0, rv] := K6.wr W7 (Or.inl (List.mem_of_getElem? (i := 0) rfl))
  have Z7 : n0 ≤ h7.size := by rw [W7.size]; exact Z6
  have c10 := ((uv.keep Kq6 (ninS (Exa.neArv uE uV (wd hw 7 rfl)) nin0)).other W7 (Or.inr (slot_ne (Or.inl (wd hw 25 rfl)) (Or.inl (wd hw 58 rfl)) (by decide) (t := (.array .byte)) (t' := .int) (by decide) (by decide))))
  have c11 := ((uc.keep Kq6 (ninS (Exa.neArv uE uV (wd hw 7 rfl)) nin0)).other W7 (Or.inr (slot_ne (Or.inl (wd hw 27 rfl)) (Or.inl (wd hw 58 rfl)) (by decide) (t := .byte) (t' := .int) (by decide) (by decide))))
  have c12 := (f6_0.other W7 (Ne.symm (Exa.neArv uE uV (wd hw 7 rfl))))
  obtain ⟨fs, hr, hrun, hended, hW, hsame⟩ := X7.leave (v := some (.ref r0)) (fun h => by rw [Bd.returns] at h; cases h)
  refine ⟨_, _, pre0 _ ?_, hrun, hended, _, _, rfl, ?_, ⟨_, rfl⟩, hW, hsame.mono (by decide) (by decide)⟩
  · show SS p e below s₁ (mkF m 0 #[vr r0, vi p1, uu, uu] []) _
    refine XS.aloadN X0.here hx rfl (hb hby d19_0) rfl rfl ?_
    refine st1 _ ?_
    refine XS.istoreN X1.here hx rfl (hb hby d19_4) rfl (l' := #[vr r0, vi p1, vi (27 : Int32), uu]) rfl ?_
    refine XS.iloadN X1.here hx rfl (hb hby d19_5) rfl ?_
    refine XS.iloadN X1.here hx rfl (hb hby d19_6) rfl ?_
    show SS p e below T1 (mkF m 7 #[vr r0, vi p1, vi (27 : Int32), uu] [(.int p1), (vI 27)]) _
    refine st2 _ ?_
    refine XS.iadd X2.here hx rfl (hb hby d19_10) rfl ?_
    show SS p e below T2 (mkF m 11 #[vr r0, vi p1, vi (27 : Int32), uu] [(.int ((27 : Int32) + zs))]) _
    rw [uN1]
    refine XS.istoreN X2.here hx rfl (hb hby d19_11) rfl (l' := #[vr r0, vi p1, vi (27 : Int32), vi n1]) rfl ?_
    refine XS.aloadN X2.here hx rfl (hb hby d19_12) rfl rfl ?_
    refine XS.iloadN X2.here hx rfl (hb hby d19_13) rfl ?_
    show SS p e below T2 (mkF m 14 #[vr r0, vi p1, vi (27 : Int32), vi n1] [(.int n1), (.ref r0)]) _
    refine st3.trans ?_
    refine XS.aloadN X3.here hx rfl (hb hby d19_17) rfl rfl ?_
    show SS p e below T3 (mkF m 18 #[vr r0, vi p1, vi (27 : Int32), vi n1] [(.ref r0)]) _
    refine st4.trans ?_
    show SS p e below T4 (mkF m 21 #[vr r0, vi p1, vi (27 : Int32), vi n1] [(vI 1)]) _
    refine XS.ifNo X4.here hx rfl (hb hby d19_21) rfl ((if0 _ _).trans (feq (by decide : ¬ ((1 : Int32) = (0 : Int32)))).1) ?_
    refine XS.iloadN X4.here hx rfl (hb hby d19_24) rfl ?_
    refine XS.iloadN X4.here hx rfl (hb hby d19_25) rfl ?_
    refine XS.aloadN X4.here hx rfl (hb hby d19_26) rfl rfl ?_
    refine st5 _ ?_
    show SS p e below T5 (mkF m 30 #[vr r0, vi p1, vi (27 : Int32), vi n1] [(.ref rv), (.int n1), (.int p1)]) _
    refine st6 _ ?_
    refine XS.pop X6.here hx rfl (hb hby d19_33) rfl rfl ?_
    refine XS.goto X6.here hx rfl (pc0 := 34) (pc' := 48) rfl (hb hby d19_34) (by decide) (by decide) ?_
    refine XS.aloadN X6.here hx rfl (hb hby d19_48) rfl rfl ?_
    refine XS.iloadN X6.here hx rfl (hb hby d19_49) rfl ?_
    refine st7 _ ?_
    refine XS.aloadN X7.here hx rfl (hb hby d19_53) rfl rfl ?_
    exact retOut X7 hx Bd.returns rfl (Or.inr (Or.inr (Or.inr (Or.inr ⟨rfl, rfl, rfl⟩)))) (hb hby d19_54) hr
  · show Q_rs_appIk Z r0 p1 zc dg1 dg2 kd1 kd2 N sg d zs n1 rv kv vv h0 n0 _ T7.heap _
    rw [e7]
    exact ⟨nv_6, rfl, N7, K7, c10, c11, Fw7, c12, f6_1, f6_2, f6_3⟩
theorem ef_26 (m : MethodId) (x0 : Addr) (x1 : Int32) : entryFrame m #[(.ref x0), (.int x1)] 2 = mkF m 0 #[vr x0, vi x1] [] := by first | (simp [entryFrame, mkF, argsToLocals, Value.category]; done) | rfl
theorem d18_0 : decode jdk_67_method_15_code 0 = .ok (.aload_n 0, 1) := by decide +kernel
theorem d18_1 : decode jdk_67_method_15_code 1 = .ok (.iload_n 1, 1) := by decide +kernel
theorem d18_2 : decode jdk_67_method_15_code 2 = .ok (.invokespecial 53, 3) := by decide +kernel
theorem pd_18 : parseMethodDescriptor "(I)Ljava/lang/AbstractStringBuilder;" = some ⟨[.int], some (.object "java/lang/AbstractStringBuilder")⟩ := by decide +kernel
theorem d18_5 : decode jdk_67_method_15_code 5 = .ok (.pop, 1) := by decide +kernel
theorem d18_6 : decode jdk_67_method_15_code 6 = .ok (.aload_n 0, 1) := by decide +kernel
theorem d18_7 : decode jdk_67_method_15_code 7 = .ok (.areturn, 1) := by decide +kernel
def Q_rs_appIks (Z : State) (r0 : Addr) (p1 : Int32) (zc : Int32) (dg1 : Addr) (dg2 : Addr) (kd1 : ClassId) (kd2 : ClassId) (N : Nat) (sg : Nat) (d : Nat) (zs : Int32) (n1 : Int32) (rv : Addr) (kv : ClassId) (vv : List Value) (h0 : Heap) (n0 : Nat) (v : Option Value) (h : Heap) (L : List Loc) : Prop := ∃ (nv : List Value), (v = some (.ref r0) ∧ Fr n0 L ∧ Keep h0 h [r0, rv] ∧ Fld Z h r0 "java/lang/AbstractStringBuilder" "value" "[B" (.ref rv) ∧ Fld Z h r0 "java/lang/AbstractStringBuilder" "coder" "B" z0 ∧ Fld Z h r0 "java/lang/AbstractStringBuilder" "count" "I" (.int n1) ∧ Arv Z h rv kv .byte (34 : Int32) nv z0 ∧ nv.length = (34 : Int32).toNatClampNeg ∧ (∀ j, j < 27 → nv.getD j z0 = vv.getD j z0) ∧ own_dgs N sg d nv)
set_option maxRecDepth 65536 in
set_option maxHeartbeats 40000000 in
theorem rs_appIks (l : Launch) (Z : State) (a0 : Array Value) (hw : ∀ d ∈ tables_1, d.before a0 Z = true) (ws : List Jvm.Cond) (r0 : Addr) (p1 : Int32) (zc : Int32) (dg1 : Addr) (dg2 : Addr) (kd1 : ClassId) (kd2 : ClassId) (N : Nat) (sg : Nat) (d : Nat) (zs : Int32) (n1 : Int32) (rv : Addr) (kv : ClassId) (vv : List Value) (h0 : Heap) (n0 : Nat) (Z0 : n0 ≤ h0.size) (uO : Old Z n0 h0) (uS : Sta Z Z.heap "java/lang/String" "COMPACT_STRINGS" "Z" (.int zc)) (uP : ¬ zc = 0) (uD : Sta Z Z.heap "java/lang/Integer" "DigitOnes" "[B" (.ref dg1)) (uDV : Arv Z Z.heap dg1 kd1 .byte (100 : Int32) own_ones z0) (uT : Sta Z Z.heap "java/lang/Integer" "DigitTens" "[B" (.ref dg2)) (uTV : Arv Z Z.heap dg2 kd2 .byte (100 : Int32) own_tens z0) (uL1 : (Jvm.Cond.laysStatic "java/lang/Integer" "DigitOnes" "[B").before a0 Z = true) (uL2 : (Jvm.Cond.laysStatic "java/lang/Integer" "DigitTens" "[B").before a0 Z = true) (uN : (if p1 < 0 then p1 else -p1) = Jvm.Free.SBG.negI N) (uNb : N ≤ 2 ^ 31) (usg : Jvm.Free.SBG.GetChars.sgn p1 = sg) (ud : Jvm.Free.SBG.digits N = d) (uSz : Jvm.Free.SBG.strSizeOf p1 = zs) (uN1 : ((27 : Int32) + zs) = n1) (ui : Int32.ofNat (27 + (d + sg)) = n1) (uR : 27 + (d + sg) ≤ (34 : Int32).toNatClampNeg) (uK : ¬ ((0 : Int32) < (n1 - (34 : Int32)))) (uE : Exa Z h0 r0 "java/lang/StringBuilder") (uv : Fld Z h0 r0 "java/lang/AbstractStringBuilder" "value" "[B" (.ref rv)) (uc : Fld Z h0 r0 "java/lang/AbstractStringBuilder" "coder" "B" z0) (uV : Arv Z h0 rv kv .byte (34 : Int32) vv z0) (uk : Fld Z h0 r0 "java/lang/AbstractStringBuilder" "count" "I" (vI 27)) (ug : n0 ≤ r0) (ugv : n0 ≤ rv) :
    MetFree l M28 (head1 (Jvm.Cond.code M28 jdk_67_method_15_code 2 (some (.object "java/lang/StringBuilder")) :: ws) ({ frames := 3, cells := 0, slots := 0, locals := 93 } : Room)) (fun a U => a = #[(.ref r0), (.int p1)] ∧ Z.Warmed39 U.vm ∧ U.heap = h0) (fun _ _ _ _ _ => True) (fun _ U o U' => ∃ v L, o = .returned v ∧ Q_rs_appIks Z r0 p1 zc dg1 dg2 kd1 kd2 N sg d zs n1 rv kv vv h0 n0 v U'.heap L ∧ FrameEnd U o U' L ({ frames := 3, cells := 0, slots := 0, locals := 93 } : Room).cells ({ frames := 3, cells := 0, slots := 0, locals := 93 } : Room).slots) := by
  refine MetFree.of_bodySF (plainFor_of_name pn_2) hisR ?_
  intro p e s m args below meth c s₁ Bd hml0 hP hK
  obtain ⟨rfl, hZ, hh⟩ := hP
  have hx := Bd.exec
  have hby := Bd.bytes
  have hml : c.maxLocals = 2 := hml0
  have hown : s.vm.findClass "java/lang/StringBuilder" = some m.cls := findClass_of_methodNamed Bd.named
  have hnm := (name_of_methodNamed Bd.named Bd.method).1
  have X0 : Stand p l e ({ frames := 3, cells := 0, slots := 0, locals := 93 } : Room) s m #[(.ref r0), (.int p1)] below meth c s₁ [] 0 0 := Stand.of_body Bd
  have e0 : s₁.heap = h0 := by rw [← hh, Bd.state]; rfl
  have N0 := Fr.nil n0
  have pre0 : ∀ t, Steps p.tables e below (s₁.setTop (mkF m 0 #[vr r0, vi p1] [])) t → Steps p.tables e below (s₁.setTop (entryFrame m #[(.ref r0), (.int p1)] 2)) t := fun t k => castTop (ef_26 m r0 p1) k
  obtain ⟨_, _, ⟨T1, Lw1, kw1, nw1⟩, -, X1, ⟨Lc1, hQ1, lq1, yq1, zq1⟩, st1⟩ := superBack X0 hx hZ (y := M25) hown (wd hw 112 rfl) (own_same (wd hw 113 rfl) (own_face (wd hw 62 rfl) rfl) (by decide)) (wd hw 113 rfl) (wd hw 41 rfl) (by decide) (backOf (W := 0) (rs_appIk l Z a0 hw [] r0 p1 zc dg1 dg2 kd1 kd2 N sg d zs n1 rv kv vv h0 n0 Z0 uO uS uP uD uDV uT uTV uL1 uL2 uN uNb usg ud uSz uN1 ui uR uK uE uv uc uV uk ug ugv) hZ (wd hw 115 rfl) (wd hw 16 rfl) (by decide) (by decide)) e0 (Ins.self uE) (g := (mkF m 2 #[vr r0, vi p1] [(.int p1), (.ref r0)])) rfl (by rw [hml]; rfl) (wd hw 115 rfl) (argsL := [(.int p1)]) (rest := []) (lenOf pd_18 rfl) rfl (by show 2 * 0 + _ ≤ _; exact Nat.le_of_eq rfl) (hb hby d18_2) (fun _ _ => ⟨rfl, e0, (by decide : 0 + 0 ≤ _), (by decide : 0 + 0 ≤ _)⟩)
  dsimp only [Pt.U, Pt.locs, Pt.cells, Pt.slots] at X1 lq1 yq1 zq1 st1 hQ1
  have X1 := own_reb X1 lq1 yq1 zq1
  obtain ⟨nv_1, rfl, Nq1, Kq1, f1_0, f1_1, f1_2, f1_3, f1_4, f1_5, f1_6⟩ := hQ1
  have N1 := Fr.app N0 Nq1
  have K1 : Keep h0 T1.heap [r0, rv] := (Keep.refl h0 [r0, rv]).trans Kq1 (allS (Or.inl (List.mem_of_getElem? (i := 0) rfl)) (allS (Or.inl (List.mem_of_getElem? (i := 1) rfl)) all0))
  have Z1 : n0 ≤ T1.heap.size := Nat.le_trans Z0 Kq1.1
  obtain ⟨fs, hr, hrun, hended, hW, hsame⟩ := X1.leave (v := some (.ref r0)) (fun h => by rw [Bd.returns] at h; cases h)
  refine ⟨_, _, pre0 _ ?_, hrun, hended, _, _, rfl, ?_, ⟨_, rfl⟩, hW, hsame.mono (by decide) (by decide)⟩
  · show SS p e below s₁ (mkF m 0 #[vr r0, vi p1] []) _
    refine XS.aloadN X0.here hx rfl (hb hby d18_0) rfl rfl ?_
    refine XS.iloadN X0.here hx rfl (hb hby d18_1) rfl ?_
    show SS p e below s₁ (mkF m 2 #[vr r0, vi p1] [(.int p1), (.ref r0)]) _
    refine st1.trans ?_
    refine XS.pop X1.here hx rfl (hb hby d18_5) rfl rfl ?_
    refine XS.aloadN X1.here hx rfl (hb hby d18_6) rfl rfl ?_
    exact retOut X1 hx Bd.returns rfl (Or.inr (Or.inr (Or.inr (Or.inr ⟨rfl, rfl, rfl⟩)))) (hb hby d18_7) hr
  · show Q_rs_appIks Z r0 p1 zc dg1 dg2 kd1 kd2 N sg d zs n1 rv kv vv h0 n0 _ T1.heap _
    exact ⟨nv_1, rfl, N1, K1, f1_0, f1_1, f1_2, f1_3, f1_4, f1_5, f1_6⟩
def Q_rs_appIg (Z : State) (r0 : Addr) (p1 : Int32) (zc : Int32) (dg1 : Addr) (dg2 : Addr) (kd1 : ClassId) (kd2 : ClassId) (N : Nat) (sg : Nat) (d : Nat) (zs : Int32) (n1 : Int32) (rv : Addr) (kv : ClassId) (vv : List Value) (h0 : Heap) (n0 : Nat) (v : Option Value) (h : Heap) (L : List Loc) : Prop := ∃ (nb : Addr), ∃ (nk : ClassId), ∃ (nv : List Value), (v = some (.ref r0) ∧ Fr n0 L ∧ Keep h0 h [r0] ∧ Fld Z h r0 "java/lang/AbstractStringBuilder" "value" "[B" (.ref nb) ∧ Fld Z h r0 "java/lang/AbstractStringBuilder" "coder" "B" z0 ∧ Fld Z h r0 "java/lang/AbstractStringBuilder" "count" "I" (.int n1) ∧ h0.size ≤ nb ∧ Exa Z h nb "[B" ∧ Arv Z h nb nk .byte (70 : Int32) nv z0 ∧ nv.length = (70 : Int32).toNatClampNeg ∧ (∀ j, j < 27 → nv.getD j z0 = (own_grow 34 70 vv).getD j z0) ∧ own_dgs N sg d nv)
set_option maxRecDepth 65536 in
set_option maxHeartbeats 40000000 in
theorem rs_appIg (l : Launch) (Z : State) (a0 : Array Value) (hw : ∀ d ∈ tables_1, d.before a0 Z = true) (ws : List Jvm.Cond) (r0 : Addr) (p1 : Int32) (zc : Int32) (dg1 : Addr) (dg2 : Addr) (kd1 : ClassId) (kd2 : ClassId) (N : Nat) (sg : Nat) (d : Nat) (zs : Int32) (n1 : Int32) (rv : Addr) (kv : ClassId) (vv : List Value) (h0 : Heap) (n0 : Nat) (Z0 : n0 ≤ h0.size) (uO : Old Z n0 h0) (uS : Sta Z Z.heap "java/lang/String" "COMPACT_STRINGS" "Z" (.int zc)) (uP : ¬ zc = 0) (uD : Sta Z Z.heap "java/lang/Integer" "DigitOnes" "[B" (.ref dg1)) (uDV : Arv Z Z.heap dg1 kd1 .byte (100 : Int32) own_ones z0) (uT : Sta Z Z.heap "java/lang/Integer" "DigitTens" "[B" (.ref dg2)) (uTV : Arv Z Z.heap dg2 kd2 .byte (100 : Int32) own_tens z0) (uL1 : (Jvm.Cond.laysStatic "java/lang/Integer" "DigitOnes" "[B").before a0 Z = true) (uL2 : (Jvm.Cond.laysStatic "java/lang/Integer" "DigitTens" "[B").before a0 Z = true) (uN : (if p1 < 0 then p1 else -p1) = Jvm.Free.SBG.negI N) (uNb : N ≤ 2 ^ 31) (usg : Jvm.Free.SBG.GetChars.sgn p1 = sg) (ud : Jvm.Free.SBG.digits N = d) (uSz : Jvm.Free.SBG.strSizeOf p1 = zs) (uN1 : ((27 : Int32) + zs) = n1) (ui : Int32.ofNat (27 + (d + sg)) = n1) (uR : 27 + (d + sg) ≤ (70 : Int32).toNatClampNeg) (uG1 : (0 : Int32) < (n1 - (34 : Int32))) (uG2 : (n1 - (34 : Int32)) < (36 : Int32)) (uE : Exa Z h0 r0 "java/lang/StringBuilder") (uv : Fld Z h0 r0 "java/lang/AbstractStringBuilder" "value" "[B" (.ref rv)) (uc : Fld Z h0 r0 "java/lang/AbstractStringBuilder" "coder" "B" z0) (uV : Arv Z h0 rv kv .byte (34 : Int32) vv z0) (uk : Fld Z h0 r0 "java/lang/AbstractStringBuilder" "count" "I" (vI 27)) (ug : n0 ≤ r0) (ugv : n0 ≤ rv) :
    MetFree l M25 (head1 (Jvm.Cond.code M25 jdk_68_method_32_code 4 (some (.object "java/lang/AbstractStringBuilder")) :: ws) ({ frames := 4, cells := 1, slots := 70, locals := 78 } : Room)) (fun a U => a = #[(.ref r0), (.int p1)] ∧ Z.Warmed39 U.vm ∧ U.heap = h0) (fun _ _ _ _ _ => True) (fun _ U o U' => ∃ v L, o = .returned v ∧ Q_rs_appIg Z r0 p1 zc dg1 dg2 kd1 kd2 N sg d zs n1 rv kv vv h0 n0 v U'.heap L ∧ FrameEnd U o U' L ({ frames := 4, cells := 1, slots := 70, locals := 78 } : Room).cells ({ frames := 4, cells := 1, slots := 70, locals := 78 } : Room).slots) := by
  refine MetFree.of_bodySF (plainFor_of_name pn_1) hisR ?_
  intro p e s m args below meth c s₁ Bd hml0 hP hK
  obtain ⟨rfl, hZ, hh⟩ := hP
  have hx := Bd.exec
  have hby := Bd.bytes
  have hml : c.maxLocals = 4 := hml0
  have hown : s.vm.findClass "java/lang/AbstractStringBuilder" = some m.cls := findClass_of_methodNamed Bd.named
  have hnm := (name_of_methodNamed Bd.named Bd.method).1
  have X0 : Stand p l e ({ frames := 4, cells := 1, slots := 70, locals := 78 } : Room) s m #[(.ref r0), (.int p1)] below meth c s₁ [] 0 0 := Stand.of_body Bd
  have e0 : s₁.heap = h0 := by rw [← hh, Bd.state]; rfl
  have N0 := Fr.nil n0
  have pre0 : ∀ t, Steps p.tables e below (s₁.setTop (mkF m 0 #[vr r0, vi p1, uu, uu] [])) t → Steps p.tables e below (s₁.setTop (entryFrame m #[(.ref r0), (.int p1)] 4)) t := fun t k => castTop (ef_25 m r0 p1) k
  obtain ⟨T1, X1, e1, st1⟩ := getF X0 hx hZ hown (host := "") (Or.inl (wd hw 57 rfl)) Via.refl e0 uk (g := (mkF m 1 #[vr r0, vi p1, uu, uu] [(.ref r0)])) rfl rfl (hb hby d19_1)
  obtain ⟨_, _, ⟨T2, Lw2, kw2, nw2⟩, -, X2, ⟨Lc2, hQ2, lq2, yq2, zq2⟩, st2⟩ := Jvm.LawKit.callS X1 hx (y := M26) hown (mvT hZ (wd hw 116 rfl)) (mvT hZ (wd hw 117 rfl)) (mvT hZ (wd hw 118 rfl)) (mvT hZ (wd hw 119 rfl)) (by decide) (own_ssB (W := 1) l Z a0 hw p1 zs h0 n0 Z0 uSz hZ (wd hw 119 rfl) (wd hw 118 rfl) (by decide) (by decide)) (g := (mkF m 7 #[vr r0, vi p1, vi (27 : Int32), uu] [(.int p1), (vI 27)])) rfl (by rw [hml]; rfl) (argsL := [(.int p1)]) (rest := [(vI 27)]) (lenOf pd_15 rfl) rfl (by show 2 * 0 + _ ≤ _; exact Nat.le_of_eq rfl) (hb hby d19_7) (fun _ _ => ⟨rfl, e1, (by decide : 0 + 0 ≤ _), (by decide : 0 + 0 ≤ _)⟩)
  dsimp only [Pt.U, Pt.locs, Pt.cells, Pt.slots] at X2 lq2 yq2 zq2 st2 hQ2
  have X2 := own_reb X2 lq2 yq2 zq2
  obtain ⟨rfl, Nq2, eh2⟩ := hQ2
  have N2 := Fr.app N0 Nq2
  obtain ⟨cq3, kq3, q3a, q3b, q3c⟩ := isOf hZ eh2 uE
  obtain ⟨_, _, ⟨T3, Lw3, kw3, nw3⟩, -, X3, ⟨Lc3, hQ3, lq3, yq3, zq3⟩, st3⟩ := X2.virtualBack hx (y := M12) (z := M12) hown (mvT hZ (wd hw 59 rfl)) (mvT hZ (own_decl (wd hw 60 rfl) (wd hw 63 rfl))) (notFace_of_selects (args := #[]) (mvT hZ (wd hw 62 rfl))) (mvT hZ (wd hw 62 rfl)) (mvT hZ (wd hw 60 rfl)) (by decide) (backOf (W := 0) (rs_ensG l Z a0 hw [] r0 n1 rv kv vv (27 : Int32) h0 n0 Z0 uE uv uc uV uk ug uG1 uG2) hZ (wd hw 63 rfl) (wd hw 16 rfl) (by decide) (by decide)) q3a q3c (g := (mkF m 14 #[vr r0, vi p1, vi (27 : Int32), vi n1] [(.int n1), (.ref r0)])) rfl (by rw [hml]; rfl) (Steps.refl _) (argsL := [(.int n1)]) (rest := []) (lenOf pd_1 rfl) rfl (by show 2 * 0 + _ ≤ _; exact Nat.le_of_eq rfl) (hb hby d19_14) (fun _ _ => ⟨rfl, eh2, (by decide : 0 + 1 ≤ _), (by decide : 0 + 70 ≤ _)⟩)
  dsimp only [Pt.U, Pt.locs, Pt.cells, Pt.slots] at X3 lq3 yq3 zq3 st3 hQ3
  have X3 := own_reb X3 lq3 yq3 zq3
  obtain ⟨nb_3, nk_3, nv_3, rfl, Nq3, Kq3, f3_0, f3_1, f3_2, f3_3, f3_4, f3_5, f3_6, f3_7⟩ := hQ3
  have N3 := Fr.app N2 Nq3
  have ne_r0_nb_3 : r0 ≠ nb_3 := Nat.ne_of_lt (Nat.lt_of_lt_of_le uE.lt f3_3)
  have ne_rv_nb_3 : rv ≠ nb_3 := Nat.ne_of_lt (Nat.lt_of_lt_of_le uV.lt f3_3)
  have g_nb_3 : n0 ≤ nb_3 := Nat.le_trans Z0 f3_3
  have sz_nb_3 : h0.size ≤ nb_3 := Nat.le_trans (Keep.refl h0 [r0]).1 f3_3
  have K3 : Keep h0 T3.heap [r0] := (Keep.refl h0 [r0]).trans Kq3 (allS (Or.inl (List.mem_of_getElem? (i := 0) rfl)) all0)
  have Z3 : n0 ≤ T3.heap.size := Nat.le_trans Z0 Kq3.1
  have c5 := (uO.keep Kq3 (allS ug all0))
  have c6 := (uE.keep Kq3)
  obtain ⟨cq4, kq4, q4a, q4b, q4c⟩ := isOf hZ rfl c6
  obtain ⟨_, _, ⟨T4, Lw4, kw4, nw4⟩, -, X4, ⟨Lc4, hQ4, lq4, yq4, zq4⟩, st4⟩ := X3.virtualBack hx (y := M4) (z := M4) hown (mvT hZ (wd hw 120 rfl)) (mvT hZ (wd hw 121 rfl)) (notFace_of_selects (args := #[]) (mvT hZ (wd hw 123 rfl))) (mvT hZ (wd hw 123 rfl)) (mvT hZ (wd hw 122 rfl)) (by decide) (backOf (W := 0) (rmIL l Z a0 hw [] r0 zc T3.heap n0 Z3 c5 uS uP f3_1) hZ (wd hw 124 rfl) (wd hw 16 rfl) (by decide) (by decide)) q4a q4c (g := (mkF m 18 #[vr r0, vi p1, vi (27 : Int32), vi n1] [(.ref r0)])) rfl (by rw [hml]; rfl) (Steps.refl _) (argsL := []) (rest := []) (lenOf pd_11 rfl) rfl (by show 2 * 0 + _ ≤ _; exact Nat.le_of_eq rfl) (hb hby d19_18) (fun _ _ => ⟨rfl, rfl, (by decide : 1 + 0 ≤ _), (by decide : 70 + 0 ≤ _)⟩)
  dsimp only [Pt.U, Pt.locs, Pt.cells, Pt.slots] at X4 lq4 yq4 zq4 st4 hQ4
  have X4 := own_reb X4 lq4 yq4 zq4
  obtain ⟨rfl, Nq4, eh4⟩ := hQ4
  have N4 := Fr.app N3 Nq4
  obtain ⟨T7, X7, e7, st7⟩ := getF X4 hx hZ hown (host := "") (Or.inl (wd hw 24 rfl)) Via.refl eh4 f3_0 (g := (mkF m 27 #[vr r0, vi p1, vi (27 : Int32), vi n1] [(.ref r0), (.int n1), (.int p1)])) rfl rfl (hb hby d19_27)
  obtain ⟨_, _, ⟨T8, Lw8, kw8, nw8⟩, -, X8, ⟨Lc8, hQ8, lq8, yq8, zq8⟩, st8⟩ := Jvm.LawKit.callS X7 hx (y := M27) hown (mvT hZ (wd hw 125 rfl)) (mvT hZ (wd hw 126 rfl)) (mvT hZ (wd hw 118 rfl)) (mvT hZ (wd hw 127 rfl)) (by decide) (own_gcB (W := 0) l Z a0 hw p1 n1 nb_3 nk_3 (70 : Int32) nv_3 dg1 dg2 kd1 kd2 N sg d T3.heap n0 Z3 c5 uD uDV uT uTV uL1 uL2 uN uNb usg ud ui f3_5 uR g_nb_3 hZ (wd hw 127 rfl) (wd hw 118 rfl) (wd hw 128 rfl) (wd hw 318 rfl) (by decide) (by decide)) (g := (mkF m 30 #[vr r0, vi p1, vi (27 : Int32), vi n1] [(.ref nb_3), (.int n1), (.int p1)])) rfl (by rw [hml]; rfl) (argsL := [(.int p1), (.int n1), (.ref nb_3)]) (rest := []) (lenOf pd_17 rfl) rfl (by show 2 * 0 + _ ≤ _; exact Nat.le_of_eq rfl) (hb hby d19_30) (fun _ _ => ⟨rfl, e7, (by decide : 1 + 0 ≤ _), (by decide : 70 + 0 ≤ _)⟩)
  dsimp only [Pt.U, Pt.locs, Pt.cells, Pt.slots] at X8 lq8 yq8 zq8 st8 hQ8
  have X8 := own_reb X8 lq8 yq8 zq8
  obtain ⟨nv_8, rfl, Nq8, Kq8, f8_0, f8_1, f8_2, f8_3⟩ := hQ8
  have N8 := Fr.app N4 Nq8
  have K8 : Keep h0 T8.heap [r0] := K3.trans Kq8 (allS (Or.inr sz_nb_3) all0)
  have Z8 : n0 ≤ T8.heap.size := Nat.le_trans Z3 Kq8.1
  have c10 := (c6.keep Kq8)
  have c11 := (f3_2.keep Kq8 (ninS ne_r0_nb_3 nin0))
  obtain ⟨T9, h9, X9, e9, W9, st9⟩ := putF X8 hx hZ hown (host := "") (Or.inl (wd hw 57 rfl)) Via.refl rfl c11 c10 (Or.inl (wd hw 58 rfl)) (wd hw 7 rfl) (ty := .int) (by decide) rfl rfl (g := (mkF m 50 #[vr r0, vi p1, vi (27 : Int32), vi n1] [(.int n1), (.ref r0)])) rfl rfl (hb hby d19_50)
  have Fw9 := c11.same W9
  have N9 := Fr.snoc X9 N8 ug
  have K9 : Keep h0 h9 [r0] := K8.wr W9 (Or.inl (List.mem_of_getElem? (i := 0) rfl))
  have Z9 : n0 ≤ h9.size := by rw [W9.size]; exact Z8
  have c12 := ((f3_0.keep Kq8 (ninS ne_r0_nb_3 nin0)).other W9 (Or.inr (slot_ne (Or.inl (wd hw 25 rfl)) (Or.inl (wd hw 58 rfl)) (by decide) (t := (.array .byte)) (t' := .int) (by decide) (by decide))))
  have c13 := ((f3_1.keep Kq8 (ninS ne_r0_nb_3 nin0)).other W9 (Or.inr (slot_ne (Or.inl (wd hw 27 rfl)) (Or.inl (wd hw 58 rfl)) (by decide) (t := .byte) (t' := .int) (by decide) (by decide))))
  have c14 := ((f3_4.keep Kq8).wr W9)
  have c15 := (f8_0.other W9 (Ne.symm ne_r0_nb_3))
  obtain ⟨fs, hr, hrun, hended, hW, hsame⟩ := X9.leave (v := some (.ref r0)) (fun h => by rw [Bd.returns] at h; cases h)
  refine ⟨_, _, pre0 _ ?_, hrun, hended, _, _, rfl, ?_, ⟨_, rfl⟩, hW, hsame.mono (by decide) (by decide)⟩
  · show SS p e below s₁ (mkF m 0 #[vr r0, vi p1, uu, uu] []) _
    refine XS.aloadN X0.here hx rfl (hb hby d19_0) rfl rfl ?_
    refine st1 _ ?_
    refine XS.istoreN X1.here hx rfl (hb hby d19_4) rfl (l' := #[vr r0, vi p1, vi (27 : Int32), uu]) rfl ?_
    refine XS.iloadN X1.here hx rfl (hb hby d19_5) rfl ?_
    refine XS.iloadN X1.here hx rfl (hb hby d19_6) rfl ?_
    show SS p e below T1 (mkF m 7 #[vr r0, vi p1, vi (27 : Int32), uu] [(.int p1), (vI 27)]) _
    refine st2 _ ?_
    refine XS.iadd X2.here hx rfl (hb hby d19_10) rfl ?_
    show SS p e below T2 (mkF m 11 #[vr r0, vi p1, vi (27 : Int32), uu] [(.int ((27 : Int32) + zs))]) _
    rw [uN1]
    refine XS.istoreN X2.here hx rfl (hb hby d19_11) rfl (l' := #[vr r0, vi p1, vi (27 : Int32), vi n1]) rfl ?_
    refine XS.aloadN X2.here hx rfl (hb hby d19_12) rfl rfl ?_
    refine XS.iloadN X2.here hx rfl (hb hby d19_13) rfl ?_
    show SS p e below T2 (mkF m 14 #[vr r0, vi p1, vi (27 : Int32), vi n1] [(.int n1), (.ref r0)]) _
    refine st3.trans ?_
    refine XS.aloadN X3.here hx rfl (hb hby d19_17) rfl rfl ?_
    show SS p e below T3 (mkF m 18 #[vr r0, vi p1, vi (27 : Int32), vi n1] [(.ref r0)]) _
    refine st4.trans ?_
    show SS p e below T4 (mkF m 21 #[vr r0, vi p1, vi (27 : Int32), vi n1] [(vI 1)]) _
    refine XS.ifNo X4.here hx rfl (hb hby d19_21) rfl ((if0 _ _).trans (feq (by decide : ¬ ((1 : Int32) = (0 : Int32)))).1) ?_
    refine XS.iloadN X4.here hx rfl (hb hby d19_24) rfl ?_
    refine XS.iloadN X4.here hx rfl (hb hby d19_25) rfl ?_
    refine XS.aloadN X4.here hx rfl (hb hby d19_26) rfl rfl ?_
    refine st7 _ ?_
    show SS p e below T7 (mkF m 30 #[vr r0, vi p1, vi (27 : Int32), vi n1] [(.ref nb_3), (.int n1), (.int p1)]) _
    refine st8 _ ?_
    refine XS.pop X8.here hx rfl (hb hby d19_33) rfl rfl ?_
    refine XS.goto X8.here hx rfl (pc0 := 34) (pc' := 48) rfl (hb hby d19_34) (by decide) (by decide) ?_
    refine XS.aloadN X8.here hx rfl (hb hby d19_48) rfl rfl ?_
    refine XS.iloadN X8.here hx rfl (hb hby d19_49) rfl ?_
    refine st9 _ ?_
    refine XS.aloadN X9.here hx rfl (hb hby d19_53) rfl rfl ?_
    exact retOut X9 hx Bd.returns rfl (Or.inr (Or.inr (Or.inr (Or.inr ⟨rfl, rfl, rfl⟩)))) (hb hby d19_54) hr
  · show Q_rs_appIg Z r0 p1 zc dg1 dg2 kd1 kd2 N sg d zs n1 rv kv vv h0 n0 _ T9.heap _
    rw [e9]
    exact ⟨nb_3, nk_3, nv_8, rfl, N9, K9, c12, c13, Fw9, sz_nb_3, c14, c15, f8_1, (fun j hj => (f8_2 j hj).trans (by rw [f3_7])), f8_3⟩
def Q_rs_appIgs (Z : State) (r0 : Addr) (p1 : Int32) (zc : Int32) (dg1 : Addr) (dg2 : Addr) (kd1 : ClassId) (kd2 : ClassId) (N : Nat) (sg : Nat) (d : Nat) (zs : Int32) (n1 : Int32) (rv : Addr) (kv : ClassId) (vv : List Value) (h0 : Heap) (n0 : Nat) (v : Option Value) (h : Heap) (L : List Loc) : Prop := ∃ (nb : Addr), ∃ (nk : ClassId), ∃ (nv : List Value), (v = some (.ref r0) ∧ Fr n0 L ∧ Keep h0 h [r0] ∧ Fld Z h r0 "java/lang/AbstractStringBuilder" "value" "[B" (.ref nb) ∧ Fld Z h r0 "java/lang/AbstractStringBuilder" "coder" "B" z0 ∧ Fld Z h r0 "java/lang/AbstractStringBuilder" "count" "I" (.int n1) ∧ h0.size ≤ nb ∧ Exa Z h nb "[B" ∧ Arv Z h nb nk .byte (70 : Int32) nv z0 ∧ nv.length = (70 : Int32).toNatClampNeg ∧ (∀ j, j < 27 → nv.getD j z0 = (own_grow 34 70 vv).getD j z0) ∧ own_dgs N sg d nv)
set_option maxRecDepth 65536 in
set_option maxHeartbeats 40000000 in
theorem rs_appIgs (l : Launch) (Z : State) (a0 : Array Value) (hw : ∀ d ∈ tables_1, d.before a0 Z = true) (ws : List Jvm.Cond) (r0 : Addr) (p1 : Int32) (zc : Int32) (dg1 : Addr) (dg2 : Addr) (kd1 : ClassId) (kd2 : ClassId) (N : Nat) (sg : Nat) (d : Nat) (zs : Int32) (n1 : Int32) (rv : Addr) (kv : ClassId) (vv : List Value) (h0 : Heap) (n0 : Nat) (Z0 : n0 ≤ h0.size) (uO : Old Z n0 h0) (uS : Sta Z Z.heap "java/lang/String" "COMPACT_STRINGS" "Z" (.int zc)) (uP : ¬ zc = 0) (uD : Sta Z Z.heap "java/lang/Integer" "DigitOnes" "[B" (.ref dg1)) (uDV : Arv Z Z.heap dg1 kd1 .byte (100 : Int32) own_ones z0) (uT : Sta Z Z.heap "java/lang/Integer" "DigitTens" "[B" (.ref dg2)) (uTV : Arv Z Z.heap dg2 kd2 .byte (100 : Int32) own_tens z0) (uL1 : (Jvm.Cond.laysStatic "java/lang/Integer" "DigitOnes" "[B").before a0 Z = true) (uL2 : (Jvm.Cond.laysStatic "java/lang/Integer" "DigitTens" "[B").before a0 Z = true) (uN : (if p1 < 0 then p1 else -p1) = Jvm.Free.SBG.negI N) (uNb : N ≤ 2 ^ 31) (usg : Jvm.Free.SBG.GetChars.sgn p1 = sg) (ud : Jvm.Free.SBG.digits N = d) (uSz : Jvm.Free.SBG.strSizeOf p1 = zs) (uN1 : ((27 : Int32) + zs) = n1) (ui : Int32.ofNat (27 + (d + sg)) = n1) (uR : 27 + (d + sg) ≤ (70 : Int32).toNatClampNeg) (uG1 : (0 : Int32) < (n1 - (34 : Int32))) (uG2 : (n1 - (34 : Int32)) < (36 : Int32)) (uE : Exa Z h0 r0 "java/lang/StringBuilder") (uv : Fld Z h0 r0 "java/lang/AbstractStringBuilder" "value" "[B" (.ref rv)) (uc : Fld Z h0 r0 "java/lang/AbstractStringBuilder" "coder" "B" z0) (uV : Arv Z h0 rv kv .byte (34 : Int32) vv z0) (uk : Fld Z h0 r0 "java/lang/AbstractStringBuilder" "count" "I" (vI 27)) (ug : n0 ≤ r0) (ugv : n0 ≤ rv) :
    MetFree l M28 (head1 (Jvm.Cond.code M28 jdk_67_method_15_code 2 (some (.object "java/lang/StringBuilder")) :: ws) ({ frames := 5, cells := 1, slots := 70, locals := 93 } : Room)) (fun a U => a = #[(.ref r0), (.int p1)] ∧ Z.Warmed39 U.vm ∧ U.heap = h0) (fun _ _ _ _ _ => True) (fun _ U o U' => ∃ v L, o = .returned v ∧ Q_rs_appIgs Z r0 p1 zc dg1 dg2 kd1 kd2 N sg d zs n1 rv kv vv h0 n0 v U'.heap L ∧ FrameEnd U o U' L ({ frames := 5, cells := 1, slots := 70, locals := 93 } : Room).cells ({ frames := 5, cells := 1, slots := 70, locals := 93 } : Room).slots) := by
  refine MetFree.of_bodySF (plainFor_of_name pn_2) hisR ?_
  intro p e s m args below meth c s₁ Bd hml0 hP hK
  obtain ⟨rfl, hZ, hh⟩ := hP
  have hx := Bd.exec
  have hby := Bd.bytes
  have hml : c.maxLocals = 2 := hml0
  have hown : s.vm.findClass "java/lang/StringBuilder" = some m.cls := findClass_of_methodNamed Bd.named
  have hnm := (name_of_methodNamed Bd.named Bd.method).1
  have X0 : Stand p l e ({ frames := 5, cells := 1, slots := 70, locals := 93 } : Room) s m #[(.ref r0), (.int p1)] below meth c s₁ [] 0 0 := Stand.of_body Bd
  have e0 : s₁.heap = h0 := by rw [← hh, Bd.state]; rfl
  have N0 := Fr.nil n0
  have pre0 : ∀ t, Steps p.tables e below (s₁.setTop (mkF m 0 #[vr r0, vi p1] [])) t → Steps p.tables e below (s₁.setTop (entryFrame m #[(.ref r0), (.int p1)] 2)) t := fun t k => castTop (ef_26 m r0 p1) k
  obtain ⟨_, _, ⟨T1, Lw1, kw1, nw1⟩, -, X1, ⟨Lc1, hQ1, lq1, yq1, zq1⟩, st1⟩ := superBack X0 hx hZ (y := M25) hown (wd hw 112 rfl) (own_same (wd hw 113 rfl) (own_face (wd hw 62 rfl) rfl) (by decide)) (wd hw 113 rfl) (wd hw 41 rfl) (by decide) (backOf (W := 0) (rs_appIg l Z a0 hw [] r0 p1 zc dg1 dg2 kd1 kd2 N sg d zs n1 rv kv vv h0 n0 Z0 uO uS uP uD uDV uT uTV uL1 uL2 uN uNb usg ud uSz uN1 ui uR uG1 uG2 uE uv uc uV uk ug ugv) hZ (wd hw 115 rfl) (wd hw 16 rfl) (by decide) (by decide)) e0 (Ins.self uE) (g := (mkF m 2 #[vr r0, vi p1] [(.int p1), (.ref r0)])) rfl (by rw [hml]; rfl) (wd hw 115 rfl) (argsL := [(.int p1)]) (rest := []) (lenOf pd_18 rfl) rfl (by show 2 * 0 + _ ≤ _; exact Nat.le_of_eq rfl) (hb hby d18_2) (fun _ _ => ⟨rfl, e0, (by decide : 0 + 1 ≤ _), (by decide : 0 + 70 ≤ _)⟩)
  dsimp only [Pt.U, Pt.locs, Pt.cells, Pt.slots] at X1 lq1 yq1 zq1 st1 hQ1
  have X1 := own_reb X1 lq1 yq1 zq1
  obtain ⟨nb_1, nk_1, nv_1, rfl, Nq1, Kq1, f1_0, f1_1, f1_2, f1_3, f1_4, f1_5, f1_6, f1_7, f1_8⟩ := hQ1
  have N1 := Fr.app N0 Nq1
  have ne_r0_nb_1 : r0 ≠ nb_1 := Nat.ne_of_lt (Nat.lt_of_lt_of_le uE.lt f1_3)
  have ne_rv_nb_1 : rv ≠ nb_1 := Nat.ne_of_lt (Nat.lt_of_lt_of_le uV.lt f1_3)
  have g_nb_1 : n0 ≤ nb_1 := Nat.le_trans Z0 f1_3
  have sz_nb_1 : h0.size ≤ nb_1 := Nat.le_trans (Keep.refl h0 [r0]).1 f1_3
  have K1 : Keep h0 T1.heap [r0] := (Keep.refl h0 [r0]).trans Kq1 (allS (Or.inl (List.mem_of_getElem? (i := 0) rfl)) all0)
  have Z1 : n0 ≤ T1.heap.size := Nat.le_trans Z0 Kq1.1
  obtain ⟨fs, hr, hrun, hended, hW, hsame⟩ := X1.leave (v := some (.ref r0)) (fun h => by rw [Bd.returns] at h; cases h)
  refine ⟨_, _, pre0 _ ?_, hrun, hended, _, _, rfl, ?_, ⟨_, rfl⟩, hW, hsame.mono (by decide) (by decide)⟩
  · show SS p e below s₁ (mkF m 0 #[vr r0, vi p1] []) _
    refine XS.aloadN X0.here hx rfl (hb hby d18_0) rfl rfl ?_
    refine XS.iloadN X0.here hx rfl (hb hby d18_1) rfl ?_
    show SS p e below s₁ (mkF m 2 #[vr r0, vi p1] [(.int p1), (.ref r0)]) _
    refine st1.trans ?_
    refine XS.pop X1.here hx rfl (hb hby d18_5) rfl rfl ?_
    refine XS.aloadN X1.here hx rfl (hb hby d18_6) rfl rfl ?_
    exact retOut X1 hx Bd.returns rfl (Or.inr (Or.inr (Or.inr (Or.inr ⟨rfl, rfl, rfl⟩)))) (hb hby d18_7) hr
  · show Q_rs_appIgs Z r0 p1 zc dg1 dg2 kd1 kd2 N sg d zs n1 rv kv vv h0 n0 _ T1.heap _
    exact ⟨nb_1, nk_1, nv_1, rfl, N1, K1, f1_0, f1_1, f1_2, sz_nb_1, f1_4, f1_5, f1_6, f1_7, f1_8⟩
def Q_rs_appG0 (Z : State) (r0 : Addr) (r1 : Addr) (zc : Int32) (rv : Addr) (kv : ClassId) (vv : List Value) (rt : Addr) (kt : ClassId) (vt : List Value) (cn : Int32) (nd : Int32) (h0 : Heap) (n0 : Nat) (v : Option Value) (h : Heap) (L : List Loc) : Prop := ∃ (nb : Addr), ∃ (nk : ClassId), (v = some (.ref r0) ∧ Fr n0 L ∧ Keep h0 h [r0] ∧ Fld Z h r0 "java/lang/AbstractStringBuilder" "value" "[B" (.ref nb) ∧ Fld Z h r0 "java/lang/AbstractStringBuilder" "coder" "B" z0 ∧ Fld Z h r0 "java/lang/AbstractStringBuilder" "count" "I" (.int nd) ∧ h0.size ≤ nb ∧ Exa Z h nb "[B" ∧ Arv Z h nb nk .byte (70 : Int32) (own_put cn.toNatClampNeg (6 : Int32).toNatClampNeg (own_grow 34 70 vv) vt) z0)
set_option maxRecDepth 65536 in
set_option maxHeartbeats 40000000 in
theorem rs_appG0 (l : Launch) (Z : State) (a0 : Array Value) (hw : ∀ d ∈ tables_1, d.before a0 Z = true) (ws : List Jvm.Cond) (r0 : Addr) (r1 : Addr) (zc : Int32) (rv : Addr) (kv : ClassId) (vv : List Value) (rt : Addr) (kt : ClassId) (vt : List Value) (cn : Int32) (nd : Int32) (h0 : Heap) (n0 : Nat) (Z0 : n0 ≤ h0.size) (uO : Old Z n0 h0) (uS : Sta Z Z.heap "java/lang/String" "COMPACT_STRINGS" "Z" (.int zc)) (uP : ¬ zc = 0) (uE : Exa Z h0 r0 "java/lang/StringBuilder") (uv : Fld Z h0 r0 "java/lang/AbstractStringBuilder" "value" "[B" (.ref rv)) (uc : Fld Z h0 r0 "java/lang/AbstractStringBuilder" "coder" "B" z0) (uV : Arv Z h0 rv kv .byte (34 : Int32) vv z0) (uL : vv.length = 34) (uk : Fld Z h0 r0 "java/lang/AbstractStringBuilder" "count" "I" (.int cn)) (us : Exa Z h0 r1 "java/lang/String") (usv : Fld Z h0 r1 "java/lang/String" "value" "[B" (.ref rt)) (usc : Fld Z h0 r1 "java/lang/String" "coder" "B" z0) (usV : Arv Z h0 rt kt .byte (6 : Int32) vt z0) (uA : (cn + (6 : Int32)) = nd) (uG1 : (0 : Int32) < (nd - (34 : Int32))) (uG2 : (nd - (34 : Int32)) < (36 : Int32)) (uc0 : ¬ cn < 0) (uS1 : cn.toNatClampNeg + (6 : Int32).toNatClampNeg ≤ (70 : Int32).toNatClampNeg) (ug : n0 ≤ r0) :
    MetFree l M15 (head1 (Jvm.Cond.code M15 jdk_68_method_22_code 3 (some (.object "java/lang/AbstractStringBuilder")) :: ws) ({ frames := 4, cells := 1, slots := 70, locals := 62 } : Room)) (fun a U => a = #[(.ref r0), (.ref r1)] ∧ Z.Warmed39 U.vm ∧ U.heap = h0) (fun _ _ _ _ _ => True) (fun _ U o U' => ∃ v L, o = .returned v ∧ Q_rs_appG0 Z r0 r1 zc rv kv vv rt kt vt cn nd h0 n0 v U'.heap L ∧ FrameEnd U o U' L ({ frames := 4, cells := 1, slots := 70, locals := 62 } : Room).cells ({ frames := 4, cells := 1, slots := 70, locals := 62 } : Room).slots) := by
  refine MetFree.of_bodySF (plainFor_of_name pn_1) hisR ?_
  intro p e s m args below meth c s₁ Bd hml0 hP hK
  obtain ⟨rfl, hZ, hh⟩ := hP
  have hx := Bd.exec
  have hby := Bd.bytes
  have hml : c.maxLocals = 3 := hml0
  have hown : s.vm.findClass "java/lang/AbstractStringBuilder" = some m.cls := findClass_of_methodNamed Bd.named
  have hnm := (name_of_methodNamed Bd.named Bd.method).1
  have X0 : Stand p l e ({ frames := 4, cells := 1, slots := 70, locals := 62 } : Room) s m #[(.ref r0), (.ref r1)] below meth c s₁ [] 0 0 := Stand.of_body Bd
  have e0 : s₁.heap = h0 := by rw [← hh, Bd.state]; rfl
  have N0 := Fr.nil n0
  have pre0 : ∀ t, Steps p.tables e below (s₁.setTop (mkF m 0 #[vr r0, vr r1, uu] [])) t → Steps p.tables e below (s₁.setTop (entryFrame m #[(.ref r0), (.ref r1)] 3)) t := fun t k => castTop (ef_15 m r0 r1) k
  obtain ⟨cq1, kq1, q1a, q1b, q1c⟩ := isOf hZ e0 us
  obtain ⟨_, _, ⟨T1, Lw1, kw1, nw1⟩, -, X1, ⟨Lc1, hQ1, lq1, yq1, zq1⟩, st1⟩ := X0.virtualBack hx (y := M3) (z := M3) hown (mvT hZ (wd hw 44 rfl)) (mvT hZ (wd hw 45 rfl)) (notFace_of_selects (args := #[]) (mvT hZ (wd hw 47 rfl))) (mvT hZ (wd hw 47 rfl)) (mvT hZ (wd hw 46 rfl)) (by decide) (backOf (W := 0) (rmLen l Z a0 hw [] r1 zc rt kt (6 : Int32) vt h0 n0 Z0 uO uS uP us usv usc usV) hZ (wd hw 48 rfl) (wd hw 22 rfl) (by decide) (by decide)) q1a q1c (g := (mkF m 10 #[vr r0, vr r1, uu] [(.ref r1)])) rfl (by rw [hml]; rfl) (Steps.refl _) (argsL := []) (rest := []) (lenOf pd_2 rfl) rfl (by show 2 * 0 + _ ≤ _; exact Nat.le_of_eq rfl) (hb hby d6_10) (fun _ _ => ⟨rfl, e0, (by decide : 0 + 0 ≤ _), (by decide : 0 + 0 ≤ _)⟩)
  dsimp only [Pt.U, Pt.locs, Pt.cells, Pt.slots] at X1 lq1 yq1 zq1 st1 hQ1
  have X1 := own_reb X1 lq1 yq1 zq1
  obtain ⟨rfl, Nq1, eh1⟩ := hQ1
  have N1 := Fr.app N0 Nq1
  obtain ⟨T2, X2, e2, st2⟩ := getF X1 hx hZ hown (host := "") (Or.inl (wd hw 57 rfl)) Via.refl eh1 uk (g := (mkF m 16 #[vr r0, vr r1, vi (6 : Int32)] [(.ref r0), (.ref r0)])) rfl rfl (hb hby d6_16)
  obtain ⟨cq3, kq3, q3a, q3b, q3c⟩ := isOf hZ e2 uE
  obtain ⟨_, _, ⟨T3, Lw3, kw3, nw3⟩, -, X3, ⟨Lc3, hQ3, lq3, yq3, zq3⟩, st3⟩ := X2.virtualBack hx (y := M12) (z := M12) hown (mvT hZ (wd hw 59 rfl)) (mvT hZ (own_decl (wd hw 60 rfl) (wd hw 63 rfl))) (notFace_of_selects (args := #[]) (mvT hZ (wd hw 62 rfl))) (mvT hZ (wd hw 62 rfl)) (mvT hZ (wd hw 60 rfl)) (by decide) (backOf (W := 0) (rs_ensG l Z a0 hw [] r0 nd rv kv vv cn h0 n0 Z0 uE uv uc uV uk ug uG1 uG2) hZ (wd hw 63 rfl) (wd hw 16 rfl) (by decide) (by decide)) q3a q3c (g := (mkF m 21 #[vr r0, vr r1, vi (6 : Int32)] [(.int nd), (.ref r0)])) rfl (by rw [hml]; rfl) (Steps.refl _) (argsL := [(.int nd)]) (rest := []) (lenOf pd_1 rfl) rfl (by show 2 * 0 + _ ≤ _; exact Nat.le_of_eq rfl) (hb hby d6_21) (fun _ _ => ⟨rfl, e2, (by decide : 0 + 1 ≤ _), (by decide : 0 + 70 ≤ _)⟩)
  dsimp only [Pt.U, Pt.locs, Pt.cells, Pt.slots] at X3 lq3 yq3 zq3 st3 hQ3
  have X3 := own_reb X3 lq3 yq3 zq3
  obtain ⟨nb_3, nk_3, nv_3, rfl, Nq3, Kq3, f3_0, f3_1, f3_2, f3_3, f3_4, f3_5, f3_6, f3_7⟩ := hQ3
  have N3 := Fr.app N1 Nq3
  have ne_r0_nb_3 : r0 ≠ nb_3 := Nat.ne_of_lt (Nat.lt_of_lt_of_le uE.lt f3_3)
  have ne_rv_nb_3 : rv ≠ nb_3 := Nat.ne_of_lt (Nat.lt_of_lt_of_le uV.lt f3_3)
  have ne_r1_nb_3 : r1 ≠ nb_3 := Nat.ne_of_lt (Nat.lt_of_lt_of_le us.lt f3_3)
  have ne_rt_nb_3 : rt ≠ nb_3 := Nat.ne_of_lt (Nat.lt_of_lt_of_le usV.lt f3_3)
  have g_nb_3 : n0 ≤ nb_3 := Nat.le_trans Z0 f3_3
  have sz_nb_3 : h0.size ≤ nb_3 := Nat.le_trans (Keep.refl h0 [r0]).1 f3_3
  have K3 : Keep h0 T3.heap [r0] := (Keep.refl h0 [r0]).trans Kq3 (allS (Or.inl (List.mem_of_getElem? (i := 0) rfl)) all0)
  have Z3 : n0 ≤ T3.heap.size := Nat.le_trans Z0 Kq3.1
  obtain ⟨T4, X4, e4, st4⟩ := getF X3 hx hZ hown (host := "") (Or.inl (wd hw 57 rfl)) Via.refl rfl f3_2 (g := (mkF m 26 #[vr r0, vr r1, vi (6 : Int32)] [(.ref r0), (.ref r0)])) rfl rfl (hb hby d6_26)
  have c6 := (uO.keep Kq3 (allS ug all0))
  have c7 := (uE.keep Kq3)
  have c8 := (us.keep Kq3)
  have c9 := (usv.keep Kq3 (ninS (Exa.ne us uE (by decide)) nin0))
  have c10 := (usc.keep Kq3 (ninS (Exa.ne us uE (by decide)) nin0))
  have c11 := (usV.keep Kq3 (ninS (Ne.symm (Exa.neArv uE usV (wd hw 7 rfl))) nin0))
  obtain ⟨cq5, kq5, q5a, q5b, q5c⟩ := isOf hZ e4 c7
  obtain ⟨_, _, ⟨T5, Lw5, kw5, nw5⟩, -, X5, ⟨Lc5, hQ5, lq5, yq5, zq5⟩, st5⟩ := X4.virtualBack hx (y := M14) (z := M14) hown (mvT hZ (wd hw 90 rfl)) (mvT hZ (own_decl (wd hw 91 rfl) (wd hw 94 rfl))) (notFace_of_selects (args := #[]) (mvT hZ (wd hw 93 rfl))) (mvT hZ (wd hw 93 rfl)) (mvT hZ (wd hw 91 rfl)) (by decide) (backOf (W := 0) (rg_ps l Z a0 hw [] r0 cn r1 zc nb_3 nk_3 (70 : Int32) nv_3 rt kt (6 : Int32) vt T3.heap n0 Z3 c6 uS uP c7 f3_0 f3_1 f3_5 (f3_6.trans (by decide)) c8 c9 c10 c11 uc0 (by decide) uS1 g_nb_3) hZ (wd hw 94 rfl) (wd hw 16 rfl) (by decide) (by decide)) q5a q5c (g := (mkF m 30 #[vr r0, vr r1, vi (6 : Int32)] [(.ref r1), (.int cn), (.ref r0)])) rfl (by rw [hml]; rfl) (Steps.refl _) (argsL := [(.int cn), (.ref r1)]) (rest := []) (lenOf pd_5 rfl) rfl (by show 2 * 0 + _ ≤ _; exact Nat.le_of_eq rfl) (hb hby d6_30) (fun _ _ => ⟨rfl, e4, (by decide : 1 + 0 ≤ _), (by decide : 70 + 0 ≤ _)⟩)
  dsimp only [Pt.U, Pt.locs, Pt.cells, Pt.slots] at X5 lq5 yq5 zq5 st5 hQ5
  have X5 := own_reb X5 lq5 yq5 zq5
  obtain ⟨rfl, Nq5, Kq5, f5_0⟩ := hQ5
  have N5 := Fr.app N3 Nq5
  have K5 : Keep h0 T5.heap [r0] := K3.trans Kq5 (allS (Or.inr sz_nb_3) all0)
  have Z5 : n0 ≤ T5.heap.size := Nat.le_trans Z3 Kq5.1
  have c13 := (f3_2.keep Kq5 (ninS ne_r0_nb_3 nin0))
  obtain ⟨T12, X12, e12, st12⟩ := getF X5 hx hZ hown (host := "") (Or.inl (wd hw 57 rfl)) Via.refl rfl c13 (g := (mkF m 35 #[vr r0, vr r1, vi (6 : Int32)] [(.ref r0), (.ref r0)])) rfl rfl (hb hby d6_35)
  have c15 := (c7.keep Kq5)
  obtain ⟨T14, h14, X14, e14, W14, st14⟩ := putF X12 hx hZ hown (host := "") (Or.inl (wd hw 57 rfl)) Via.refl e12 c13 c15 (Or.inl (wd hw 58 rfl)) (wd hw 7 rfl) (ty := .int) (by decide) rfl rfl (g := (mkF m 40 #[vr r0, vr r1, vi (6 : Int32)] [(.int nd), (.ref r0)])) rfl rfl (hb hby d6_40)
  have Fw14 := c13.same W14
  have N14 := Fr.snoc X14 N5 ug
  have K14 : Keep h0 h14 [r0] := K5.wr W14 (Or.inl (List.mem_of_getElem? (i := 0) rfl))
  have Z14 : n0 ≤ h14.size := by rw [W14.size]; exact Z5
  have c16 := (f5_0.other W14 (Ne.symm ne_r0_nb_3))
  have Vg : Arv Z h14 nb_3 nk_3 .byte (70 : Int32) (own_put cn.toNatClampNeg (6 : Int32).toNatClampNeg (own_grow 34 70 vv) vt) z0 := by have q := c16; rw [f3_7] at q; exact q
  have c17 := ((f3_0.keep Kq5 (ninS ne_r0_nb_3 nin0)).other W14 (Or.inr (slot_ne (Or.inl (wd hw 25 rfl)) (Or.inl (wd hw 58 rfl)) (by decide) (t := (.array .byte)) (t' := .int) (by decide) (by decide))))
  have c18 := ((f3_1.keep Kq5 (ninS ne_r0_nb_3 nin0)).other W14 (Or.inr (slot_ne (Or.inl (wd hw 27 rfl)) (Or.inl (wd hw 58 rfl)) (by decide) (t := .byte) (t' := .int) (by decide) (by decide))))
  have c19 := ((f3_4.keep Kq5).wr W14)
  obtain ⟨fs, hr, hrun, hended, hW, hsame⟩ := X14.leave (v := some (.ref r0)) (fun h => by rw [Bd.returns] at h; cases h)
  refine ⟨_, _, pre0 _ ?_, hrun, hended, _, _, rfl, ?_, ⟨_, rfl⟩, hW, hsame.mono (by decide) (by decide)⟩
  · show SS p e below s₁ (mkF m 0 #[vr r0, vr r1, uu] []) _
    refine XS.aloadN X0.here hx rfl (hb hby d6_0) rfl rfl ?_
    show SS p e below s₁ (mkF m 1 #[vr r0, vr r1, uu] [(.ref r1)]) _
    refine XS.ifnonnullYes X0.here hx rfl (pc0 := 1) (pc' := 9) rfl (hb hby d6_1) rfl (by decide) (by decide) ?_
    refine XS.aloadN X0.here hx rfl (hb hby d6_9) rfl rfl ?_
    show SS p e below s₁ (mkF m 10 #[vr r0, vr r1, uu] [(.ref r1)]) _
    refine st1.trans ?_
    refine XS.istoreN X1.here hx rfl (hb hby d6_13) rfl (l' := #[vr r0, vr r1, vi (6 : Int32)]) rfl ?_
    refine XS.aloadN X1.here hx rfl (hb hby d6_14) rfl rfl ?_
    refine XS.aloadN X1.here hx rfl (hb hby d6_15) rfl rfl ?_
    refine st2 _ ?_
    refine XS.iloadN X2.here hx rfl (hb hby d6_19) rfl ?_
    refine XS.iadd X2.here hx rfl (hb hby d6_20) rfl ?_
    show SS p e below T2 (mkF m 21 #[vr r0, vr r1, vi (6 : Int32)] [(.int (cn + (6 : Int32))), (.ref r0)]) _
    rw [uA]
    show SS p e below T2 (mkF m 21 #[vr r0, vr r1, vi (6 : Int32)] [(.int nd), (.ref r0)]) _
    refine st3.trans ?_
    refine XS.aloadN X3.here hx rfl (hb hby d6_24) rfl rfl ?_
    refine XS.aloadN X3.here hx rfl (hb hby d6_25) rfl rfl ?_
    refine st4 _ ?_
    refine XS.aloadN X4.here hx rfl (hb hby d6_29) rfl rfl ?_
    show SS p e below T4 (mkF m 30 #[vr r0, vr r1, vi (6 : Int32)] [(.ref r1), (.int cn), (.ref r0)]) _
    refine st5.trans ?_
    refine XS.aloadN X5.here hx rfl (hb hby d6_33) rfl rfl ?_
    refine XS.dup X5.here hx rfl (hb hby d6_34) rfl rfl ?_
    refine st12 _ ?_
    refine XS.iloadN X12.here hx rfl (hb hby d6_38) rfl ?_
    refine XS.iadd X12.here hx rfl (hb hby d6_39) rfl ?_
    show SS p e below T12 (mkF m 40 #[vr r0, vr r1, vi (6 : Int32)] [(.int (cn + (6 : Int32))), (.ref r0)]) _
    rw [uA]
    refine st14 _ ?_
    refine XS.aloadN X14.here hx rfl (hb hby d6_43) rfl rfl ?_
    exact retOut X14 hx Bd.returns rfl (Or.inr (Or.inr (Or.inr (Or.inr ⟨rfl, rfl, rfl⟩)))) (hb hby d6_44) hr
  · show Q_rs_appG0 Z r0 r1 zc rv kv vv rt kt vt cn nd h0 n0 _ T14.heap _
    rw [e14]
    exact ⟨nb_3, nk_3, rfl, N14, K14, c17, c18, Fw14, sz_nb_3, c19, Vg⟩
def Q_rs_appG (Z : State) (r0 : Addr) (r1 : Addr) (zc : Int32) (rv : Addr) (kv : ClassId) (vv : List Value) (rt : Addr) (kt : ClassId) (vt : List Value) (cn : Int32) (nd : Int32) (h0 : Heap) (n0 : Nat) (v : Option Value) (h : Heap) (L : List Loc) : Prop := ∃ (nb : Addr), ∃ (nk : ClassId), (v = some (.ref r0) ∧ Fr n0 L ∧ Keep h0 h [r0] ∧ Fld Z h r0 "java/lang/AbstractStringBuilder" "value" "[B" (.ref nb) ∧ Fld Z h r0 "java/lang/AbstractStringBuilder" "coder" "B" z0 ∧ Fld Z h r0 "java/lang/AbstractStringBuilder" "count" "I" (.int nd) ∧ h0.size ≤ nb ∧ Exa Z h nb "[B" ∧ Arv Z h nb nk .byte (70 : Int32) (own_put cn.toNatClampNeg (6 : Int32).toNatClampNeg (own_grow 34 70 vv) vt) z0)
set_option maxRecDepth 65536 in
set_option maxHeartbeats 40000000 in
theorem rs_appG (l : Launch) (Z : State) (a0 : Array Value) (hw : ∀ d ∈ tables_1, d.before a0 Z = true) (ws : List Jvm.Cond) (r0 : Addr) (r1 : Addr) (zc : Int32) (rv : Addr) (kv : ClassId) (vv : List Value) (rt : Addr) (kt : ClassId) (vt : List Value) (cn : Int32) (nd : Int32) (h0 : Heap) (n0 : Nat) (Z0 : n0 ≤ h0.size) (uO : Old Z n0 h0) (uS : Sta Z Z.heap "java/lang/String" "COMPACT_STRINGS" "Z" (.int zc)) (uP : ¬ zc = 0) (uE : Exa Z h0 r0 "java/lang/StringBuilder") (uv : Fld Z h0 r0 "java/lang/AbstractStringBuilder" "value" "[B" (.ref rv)) (uc : Fld Z h0 r0 "java/lang/AbstractStringBuilder" "coder" "B" z0) (uV : Arv Z h0 rv kv .byte (34 : Int32) vv z0) (uL : vv.length = 34) (uk : Fld Z h0 r0 "java/lang/AbstractStringBuilder" "count" "I" (.int cn)) (us : Exa Z h0 r1 "java/lang/String") (usv : Fld Z h0 r1 "java/lang/String" "value" "[B" (.ref rt)) (usc : Fld Z h0 r1 "java/lang/String" "coder" "B" z0) (usV : Arv Z h0 rt kt .byte (6 : Int32) vt z0) (uA : (cn + (6 : Int32)) = nd) (uG1 : (0 : Int32) < (nd - (34 : Int32))) (uG2 : (nd - (34 : Int32)) < (36 : Int32)) (uc0 : ¬ cn < 0) (uS1 : cn.toNatClampNeg + (6 : Int32).toNatClampNeg ≤ (70 : Int32).toNatClampNeg) (ug : n0 ≤ r0) :
    MetFree l M16 (head1 (Jvm.Cond.code M16 jdk_67_method_7_code 2 (some (.object "java/lang/StringBuilder")) :: ws) ({ frames := 5, cells := 1, slots := 70, locals := 76 } : Room)) (fun a U => a = #[(.ref r0), (.ref r1)] ∧ Z.Warmed39 U.vm ∧ U.heap = h0) (fun _ _ _ _ _ => True) (fun _ U o U' => ∃ v L, o = .returned v ∧ Q_rs_appG Z r0 r1 zc rv kv vv rt kt vt cn nd h0 n0 v U'.heap L ∧ FrameEnd U o U' L ({ frames := 5, cells := 1, slots := 70, locals := 76 } : Room).cells ({ frames := 5, cells := 1, slots := 70, locals := 76 } : Room).slots) := by
  refine MetFree.of_bodySF (plainFor_of_name pn_2) hisR ?_
  intro p e s m args below meth c s₁ Bd hml0 hP hK
  obtain ⟨rfl, hZ, hh⟩ := hP
  have hx := Bd.exec
  have hby := Bd.bytes
  have hml : c.maxLocals = 2 := hml0
  have hown : s.vm.findClass "java/lang/StringBuilder" = some m.cls := findClass_of_methodNamed Bd.named
  have hnm := (name_of_methodNamed Bd.named Bd.method).1
  have X0 : Stand p l e ({ frames := 5, cells := 1, slots := 70, locals := 76 } : Room) s m #[(.ref r0), (.ref r1)] below meth c s₁ [] 0 0 := Stand.of_body Bd
  have e0 : s₁.heap = h0 := by rw [← hh, Bd.state]; rfl
  have N0 := Fr.nil n0
  have pre0 : ∀ t, Steps p.tables e below (s₁.setTop (mkF m 0 #[vr r0, vr r1] [])) t → Steps p.tables e below (s₁.setTop (entryFrame m #[(.ref r0), (.ref r1)] 2)) t := fun t k => castTop (ef_16 m r0 r1) k
  obtain ⟨_, _, ⟨T1, Lw1, kw1, nw1⟩, -, X1, ⟨Lc1, hQ1, lq1, yq1, zq1⟩, st1⟩ := superBack X0 hx hZ (y := M15) hown (wd hw 39 rfl) (own_same (wd hw 40 rfl) (own_face (wd hw 62 rfl) rfl) (by decide)) (wd hw 40 rfl) (wd hw 41 rfl) (by decide) (backOf (W := 0) (rs_appG0 l Z a0 hw [] r0 r1 zc rv kv vv rt kt vt cn nd h0 n0 Z0 uO uS uP uE uv uc uV uL uk us usv usc usV uA uG1 uG2 uc0 uS1 ug) hZ (wd hw 43 rfl) (wd hw 16 rfl) (by decide) (by decide)) e0 (Ins.self uE) (g := (mkF m 2 #[vr r0, vr r1] [(.ref r1), (.ref r0)])) rfl (by rw [hml]; rfl) (wd hw 43 rfl) (argsL := [(.ref r1)]) (rest := []) (lenOf pd_6 rfl) rfl (by show 2 * 0 + _ ≤ _; exact Nat.le_of_eq rfl) (hb hby d5_2) (fun _ _ => ⟨rfl, e0, (by decide : 0 + 1 ≤ _), (by decide : 0 + 70 ≤ _)⟩)
  dsimp only [Pt.U, Pt.locs, Pt.cells, Pt.slots] at X1 lq1 yq1 zq1 st1 hQ1
  have X1 := own_reb X1 lq1 yq1 zq1
  obtain ⟨nb_1, nk_1, rfl, Nq1, Kq1, f1_0, f1_1, f1_2, f1_3, f1_4, f1_5⟩ := hQ1
  have N1 := Fr.app N0 Nq1
  have ne_r0_nb_1 : r0 ≠ nb_1 := Nat.ne_of_lt (Nat.lt_of_lt_of_le uE.lt f1_3)
  have ne_rv_nb_1 : rv ≠ nb_1 := Nat.ne_of_lt (Nat.lt_of_lt_of_le uV.lt f1_3)
  have ne_r1_nb_1 : r1 ≠ nb_1 := Nat.ne_of_lt (Nat.lt_of_lt_of_le us.lt f1_3)
  have ne_rt_nb_1 : rt ≠ nb_1 := Nat.ne_of_lt (Nat.lt_of_lt_of_le usV.lt f1_3)
  have g_nb_1 : n0 ≤ nb_1 := Nat.le_trans Z0 f1_3
  have sz_nb_1 : h0.size ≤ nb_1 := Nat.le_trans (Keep.refl h0 [r0]).1 f1_3
  have K1 : Keep h0 T1.heap [r0] := (Keep.refl h0 [r0]).trans Kq1 (allS (Or.inl (List.mem_of_getElem? (i := 0) rfl)) all0)
  have Z1 : n0 ≤ T1.heap.size := Nat.le_trans Z0 Kq1.1
  obtain ⟨fs, hr, hrun, hended, hW, hsame⟩ := X1.leave (v := some (.ref r0)) (fun h => by rw [Bd.returns] at h; cases h)
  refine ⟨_, _, pre0 _ ?_, hrun, hended, _, _, rfl, ?_, ⟨_, rfl⟩, hW, hsame.mono (by decide) (by decide)⟩
  · show SS p e below s₁ (mkF m 0 #[vr r0, vr r1] []) _
    refine XS.aloadN X0.here hx rfl (hb hby d5_0) rfl rfl ?_
    refine XS.aloadN X0.here hx rfl (hb hby d5_1) rfl rfl ?_
    show SS p e below s₁ (mkF m 2 #[vr r0, vr r1] [(.ref r1), (.ref r0)]) _
    refine st1.trans ?_
    refine XS.pop X1.here hx rfl (hb hby d5_5) rfl rfl ?_
    refine XS.aloadN X1.here hx rfl (hb hby d5_6) rfl rfl ?_
    exact retOut X1 hx Bd.returns rfl (Or.inr (Or.inr (Or.inr (Or.inr ⟨rfl, rfl, rfl⟩)))) (hb hby d5_7) hr
  · show Q_rs_appG Z r0 r1 zc rv kv vv rt kt vt cn nd h0 n0 _ T1.heap _
    exact ⟨nb_1, nk_1, rfl, N1, K1, f1_0, f1_1, f1_2, sz_nb_1, f1_4, f1_5⟩
theorem d29_17 : decode jdk_65_method_132_code 17 = .ok (.aload_n 0, 1) := by decide +kernel
theorem d29_18 : decode jdk_65_method_132_code 18 = .ok (.invokevirtual 310, 3) := by decide +kernel
theorem d29_21 : decode jdk_65_method_132_code 21 = .ok (.checkcast 311, 3) := by decide +kernel
theorem d29_24 : decode jdk_65_method_132_code 24 = .ok (.areturn, 1) := by decide +kernel
def Q_rs_cor (Z : State) (r0 : Addr) (p2 : Int32) (kv : ClassId) (zv : Int32) (vv : List Value) (h0 : Heap) (n0 : Nat) (v : Option Value) (h : Heap) (L : List Loc) : Prop := ∃ (nb : Addr), ∃ (nk : ClassId), (v = some (.ref nb) ∧ Fr n0 L ∧ Keep h0 h [] ∧ h0.size ≤ nb ∧ Arv Z h nb nk .byte zv vv z0)
set_option maxRecDepth 65536 in
set_option maxHeartbeats 40000000 in
theorem rs_cor (l : Launch) (Z : State) (a0 : Array Value) (hw : ∀ d ∈ tables_1, d.before a0 Z = true) (ws : List Jvm.Cond) (r0 : Addr) (p2 : Int32) (kv : ClassId) (zv : Int32) (vv : List Value) (h0 : Heap) (n0 : Nat) (Z0 : n0 ≤ h0.size) (uE : Exa Z h0 r0 "[B") (uV : Arv Z h0 r0 kv .byte zv vv z0) (ueq : p2 = zv) (uC : zv.toNatClampNeg ≤ 64) :
    MetFree l M18 (head1 (Jvm.Cond.code M18 jdk_65_method_132_code 3 (some (.array .byte)) :: ws) ({ frames := 1, cells := 1, slots := 64, locals := 14 } : Room)) (fun a U => a = #[(.ref r0), z0, (.int p2)] ∧ Z.Warmed39 U.vm ∧ U.heap = h0) (fun _ _ _ _ _ => True) (fun _ U o U' => ∃ v L, o = .returned v ∧ Q_rs_cor Z r0 p2 kv zv vv h0 n0 v U'.heap L ∧ FrameEnd U o U' L ({ frames := 1, cells := 1, slots := 64, locals := 14 } : Room).cells ({ frames := 1, cells := 1, slots := 64, locals := 14 } : Room).slots) := by
  refine MetFree.of_bodySF (plainFor_of_name pn_3) hisR ?_
  intro p e s m args below meth c s₁ Bd hml0 hP hK
  obtain ⟨rfl, hZ, hh⟩ := hP
  have hx := Bd.exec
  have hby := Bd.bytes
  have hml : c.maxLocals = 3 := hml0
  have hown : s.vm.findClass "java/util/Arrays" = some m.cls := findClass_of_methodNamed Bd.named
  have hnm := (name_of_methodNamed Bd.named Bd.method).1
  have X0 : Stand p l e ({ frames := 1, cells := 1, slots := 64, locals := 14 } : Room) s m #[(.ref r0), z0, (.int p2)] below meth c s₁ [] 0 0 := Stand.of_body Bd
  have e0 : s₁.heap = h0 := by rw [← hh, Bd.state]; rfl
  have N0 := Fr.nil n0
  have pre0 : ∀ t, Steps p.tables e below (s₁.setTop (mkF m 0 #[vr r0, vi (0 : Int32), vi p2] [])) t → Steps p.tables e below (s₁.setTop (entryFrame m #[(.ref r0), z0, (.int p2)] 3)) t := fun t k => castTop (ef_18 m r0 p2) k
  obtain ⟨cl1, Ar1, q1, S1, Nn1, H1, G1⟩ := (id uV)
  obtain ⟨T2, h2, X2, e2, E2, V2, A2, st2⟩ := cloneH X0 hx hZ hown (wd hw 161 rfl) (wd hw 162 rfl) (wd hw 166 rfl) (wd hw 164 rfl) (wd hw 165 rfl) (wd hw 167 rfl) e0 (Arv.arh uV) uE (g := (mkF m 18 #[vr r0, vi (0 : Int32), vi p2] [(.ref r0)])) rfl (by rw [hml]; rfl) rfl (hb hby d29_18) (by decide) (W := 0) (cap := 64) (by show 2 * 0 + _ ≤ _; exact Nat.le_of_eq rfl) (by decide) uC (by decide) (by decide)
  obtain ⟨b2, g2⟩ : ∃ z, z = h0.size := ⟨_, rfl⟩
  rw [← g2] at V2 A2 st2
  have ne_r0_b2 : r0 ≠ b2 := Nat.ne_of_lt (Nat.lt_of_lt_of_le uE.lt (Nat.le_of_eq g2.symm))
  have Va2 : Arv Z h2 b2 kv .byte zv vv z0 := V2
  have g_b2 : n0 ≤ b2 := Nat.le_trans Z0 (Nat.le_of_eq g2.symm)
  have sz_b2 : h0.size ≤ b2 := Nat.le_trans (Keep.refl h0 []).1 (Nat.le_of_eq g2.symm)
  have K2 : Keep h0 h2 [] := (Keep.refl h0 []).ext E2
  have Z2 : n0 ≤ h2.size := Nat.le_trans Z0 E2.1
  obtain ⟨T3, X3, e3, st3⟩ := castY X2 hx hZ hown (wd hw 168 rfl) e2 (Ins.self A2) (g := (mkF m 21 #[vr r0, vi (0 : Int32), vi p2] [(.ref b2)])) rfl rfl (hb hby d29_21)
  obtain ⟨fs, hr, hrun, hended, hW, hsame⟩ := X3.leave (v := some (.ref b2)) (fun h => by rw [Bd.returns] at h; cases h)
  refine ⟨_, _, pre0 _ ?_, hrun, hended, _, _, rfl, ?_, ⟨_, rfl⟩, hW, hsame.mono (by decide) (by decide)⟩
  · show SS p e below s₁ (mkF m 0 #[vr r0, vi (0 : Int32), vi p2] []) _
    refine XS.iloadN X0.here hx rfl (hb hby d29_0) rfl ?_
    show SS p e below s₁ (mkF m 1 #[vr r0, vi (0 : Int32), vi p2] [z0]) _
    refine XS.ifNo X0.here hx rfl (hb hby d29_1) rfl ((if0 _ _).trans (teq (by decide : (0 : Int32) = (0 : Int32))).2) ?_
    refine XS.iloadN X0.here hx rfl (hb hby d29_4) rfl ?_
    refine XS.aloadN X0.here hx rfl (hb hby d29_5) rfl rfl ?_
    show SS p e below s₁ (mkF m 6 #[vr r0, vi (0 : Int32), vi p2] [(.ref r0), (.int p2)]) _
    refine X0.arraylength hx (own_at e0 Ar1.1) (State.isArrayOf_alike hZ.alike Ar1.2.1) (g := (mkF m 6 #[vr r0, vi (0 : Int32), vi p2] [(.ref r0), (.int p2)])) rfl rfl (hb hby d29_6) _ ?_
    rw [len_of S1 Nn1]
    show SS p e below s₁ (mkF m 7 #[vr r0, vi (0 : Int32), vi p2] [(.int zv), (.int p2)]) _
    refine XS.icmpYes X0.here hx rfl (pc0 := 7) (pc' := 17) rfl (hb hby d29_7) rfl (teq (ueq : p2 = zv)).1 (by decide) (by decide) ?_
    refine XS.aloadN X0.here hx rfl (hb hby d29_17) rfl rfl ?_
    show SS p e below s₁ (mkF m 18 #[vr r0, vi (0 : Int32), vi p2] [(.ref r0)]) _
    refine st2 _ ?_
    show SS p e below T2 (mkF m 21 #[vr r0, vi (0 : Int32), vi p2] [(.ref b2)]) _
    refine st3 _ ?_
    exact retOut X3 hx Bd.returns rfl (Or.inr (Or.inr (Or.inr (Or.inr ⟨rfl, rfl, rfl⟩)))) (hb hby d29_24) hr
  · show Q_rs_cor Z r0 p2 kv zv vv h0 n0 _ T3.heap _
    rw [e3]
    exact ⟨b2, kv, rfl, N0, K2, sz_b2, Va2⟩
def Q_rs_si2 (Z : State) (r0 : Addr) (r1 : Addr) (zc : Int32) (rv : Addr) (kv : ClassId) (zv : Int32) (vv : List Value) (nd : Int32) (h0 : Heap) (n0 : Nat) (v : Option Value) (h : Heap) (L : List Loc) : Prop := ∃ (nb : Addr), ∃ (nk : ClassId), (v = none ∧ Fr n0 L ∧ Keep h0 h [r0] ∧ Fld Z h r0 "java/lang/String" "coder" "B" z0 ∧ Fld Z h r0 "java/lang/String" "value" "[B" (.ref nb) ∧ h0.size ≤ nb ∧ Arv Z h nb nk .byte zv vv z0)
set_option maxRecDepth 65536 in
set_option maxHeartbeats 40000000 in
theorem rs_si2 (l : Launch) (Z : State) (a0 : Array Value) (hw : ∀ d ∈ tables_1, d.before a0 Z = true) (ws : List Jvm.Cond) (r0 : Addr) (r1 : Addr) (zc : Int32) (rv : Addr) (kv : ClassId) (zv : Int32) (vv : List Value) (nd : Int32) (h0 : Heap) (n0 : Nat) (Z0 : n0 ≤ h0.size) (uO : Old Z n0 h0) (uS : Sta Z Z.heap "java/lang/String" "COMPACT_STRINGS" "Z" (.int zc)) (uP : ¬ zc = 0) (us : Exa Z h0 r0 "java/lang/String") (usv : Fld Z h0 r0 "java/lang/String" "value" "[B" .null) (usc : Fld Z h0 r0 "java/lang/String" "coder" "B" z0) (ug : n0 ≤ r0) (uE : Exa Z h0 r1 "java/lang/StringBuilder") (uv : Fld Z h0 r1 "java/lang/AbstractStringBuilder" "value" "[B" (.ref rv)) (uc : Fld Z h0 r1 "java/lang/AbstractStringBuilder" "coder" "B" z0) (uV : Arv Z h0 rv kv .byte zv vv z0) (uEb : Exa Z h0 rv "[B") (uk : Fld Z h0 r1 "java/lang/AbstractStringBuilder" "count" "I" (.int nd)) (ueq : nd = zv) (uC : zv.toNatClampNeg ≤ 64) :
    MetFree l M19 (head1 (Jvm.Cond.code M19 jdk_42_method_150_code 5 none :: ws) ({ frames := 2, cells := 1, slots := 64, locals := 29 } : Room)) (fun a U => a = #[(.ref r0), (.ref r1), .null] ∧ Z.Warmed39 U.vm ∧ U.heap = h0) (fun _ _ _ _ _ => True) (fun _ U o U' => ∃ v L, o = .returned v ∧ Q_rs_si2 Z r0 r1 zc rv kv zv vv nd h0 n0 v U'.heap L ∧ FrameEnd U o U' L ({ frames := 2, cells := 1, slots := 64, locals := 29 } : Room).cells ({ frames := 2, cells := 1, slots := 64, locals := 29 } : Room).slots) := by
  refine MetFree.of_bodySF (plainFor_of_name pn_0) hisR ?_
  intro p e s m args below meth c s₁ Bd hml0 hP hK
  obtain ⟨rfl, hZ, hh⟩ := hP
  have hx := Bd.exec
  have hby := Bd.bytes
  have hml : c.maxLocals = 5 := hml0
  have hown : s.vm.findClass "java/lang/String" = some m.cls := findClass_of_methodNamed Bd.named
  have hnm := (name_of_methodNamed Bd.named Bd.method).1
  have X0 : Stand p l e ({ frames := 2, cells := 1, slots := 64, locals := 29 } : Room) s m #[(.ref r0), (.ref r1), .null] below meth c s₁ [] 0 0 := Stand.of_body Bd
  have e0 : s₁.heap = h0 := by rw [← hh, Bd.state]; rfl
  have N0 := Fr.nil n0
  have pre0 : ∀ t, Steps p.tables e below (s₁.setTop (mkF m 0 #[vr r0, vr r1, .val .null, uu, uu] [])) t → Steps p.tables e below (s₁.setTop (entryFrame m #[(.ref r0), (.ref r1), .null] 5)) t := fun t k => castTop (ef_19 m r0 r1) k
  obtain ⟨T1, X1, e1, st1⟩ := initO X0 hx hZ hown (wd hw 143 rfl) (wd hw 19 rfl) (wd hw 20 rfl) e0 (g := (mkF m 1 #[vr r0, vr r1, .val .null, uu, uu] [(.ref r0)])) rfl (by rw [hml]; rfl) rfl (hb hby d25_1) (by decide) (W := 0) (by show 2 * 0 + _ ≤ _; exact Nat.le_of_eq rfl) (by decide)
  obtain ⟨cq2, kq2, q2a, q2b, q2c⟩ := isOf hZ e1 uE
  obtain ⟨_, _, ⟨T2, Lw2, kw2, nw2⟩, -, X2, ⟨Lc2, hQ2, lq2, yq2, zq2⟩, st2⟩ := X1.virtualBack hx (y := M8) (z := M8) hown (mvT hZ (wd hw 144 rfl)) (mvT hZ (wd hw 145 rfl)) (notFace_of_selects (args := #[]) (mvT hZ (wd hw 147 rfl))) (mvT hZ (wd hw 147 rfl)) (mvT hZ (wd hw 146 rfl)) (by decide) (backOf (W := 0) (rmGV l Z a0 hw [] r1 rv h0 n0 Z0 uv) hZ (wd hw 148 rfl) (wd hw 16 rfl) (by decide) (by decide)) q2a q2c (g := (mkF m 5 #[vr r0, vr r1, .val .null, uu, uu] [(.ref r1)])) rfl (by rw [hml]; rfl) (Steps.refl _) (argsL := []) (rest := []) (lenOf pd_10 rfl) rfl (by show 2 * 0 + _ ≤ _; exact Nat.le_of_eq rfl) (hb hby d25_5) (fun _ _ => ⟨rfl, e1, (by decide : 0 + 0 ≤ _), (by decide : 0 + 0 ≤ _)⟩)
  dsimp only [Pt.U, Pt.locs, Pt.cells, Pt.slots] at X2 lq2 yq2 zq2 st2 hQ2
  have X2 := own_reb X2 lq2 yq2 zq2
  obtain ⟨rfl, Nq2, eh2⟩ := hQ2
  have N2 := Fr.app N0 Nq2
  obtain ⟨cq3, kq3, q3a, q3b, q3c⟩ := isOf hZ eh2 uE
  obtain ⟨_, _, ⟨T3, Lw3, kw3, nw3⟩, -, X3, ⟨Lc3, hQ3, lq3, yq3, zq3⟩, st3⟩ := X2.virtualBack hx (y := M9) (z := M10) hown (mvT hZ (wd hw 149 rfl)) (mvT hZ (wd hw 150 rfl)) (own_face (args := #[]) (mvT hZ (wd hw 62 rfl)) rfl) (mvT hZ (wd hw 152 rfl)) (mvT hZ (wd hw 153 rfl)) (by decide) (backOf (W := 0) (rmSL l Z a0 hw [] r1 nd h0 n0 Z0 uE uk) hZ (wd hw 154 rfl) (wd hw 8 rfl) (by decide) (by decide)) q3a q3c (g := (mkF m 10 #[vr r0, vr r1, .val .null, vr rv, uu] [(.ref r1)])) rfl (by rw [hml]; rfl) (Steps.refl _) (argsL := []) (rest := []) (lenOf pd_2 rfl) rfl (by show 2 * 0 + _ ≤ _; exact Nat.le_of_eq rfl) (hb hby d25_10) (fun _ _ => ⟨rfl, eh2, (by decide : 0 + 0 ≤ _), (by decide : 0 + 0 ≤ _)⟩)
  dsimp only [Pt.U, Pt.locs, Pt.cells, Pt.slots] at X3 lq3 yq3 zq3 st3 hQ3
  have X3 := own_reb X3 lq3 yq3 zq3
  obtain ⟨rfl, Nq3, eh3⟩ := hQ3
  have N3 := Fr.app N2 Nq3
  obtain ⟨cq4, kq4, q4a, q4b, q4c⟩ := isOf hZ eh3 uE
  obtain ⟨_, _, ⟨T4, Lw4, kw4, nw4⟩, -, X4, ⟨Lc4, hQ4, lq4, yq4, zq4⟩, st4⟩ := X3.virtualBack hx (y := M4) (z := M4) hown (mvT hZ (wd hw 157 rfl)) (mvT hZ (wd hw 121 rfl)) (notFace_of_selects (args := #[]) (mvT hZ (wd hw 123 rfl))) (mvT hZ (wd hw 123 rfl)) (mvT hZ (wd hw 122 rfl)) (by decide) (backOf (W := 0) (rmIL l Z a0 hw [] r1 zc h0 n0 Z0 uO uS uP uc) hZ (wd hw 124 rfl) (wd hw 16 rfl) (by decide) (by decide)) q4a q4c (g := (mkF m 16 #[vr r0, vr r1, .val .null, vr rv, vi nd] [(.ref r1)])) rfl (by rw [hml]; rfl) (Steps.refl _) (argsL := []) (rest := []) (lenOf pd_11 rfl) rfl (by show 2 * 0 + _ ≤ _; exact Nat.le_of_eq rfl) (hb hby d25_16) (fun _ _ => ⟨rfl, eh3, (by decide : 0 + 0 ≤ _), (by decide : 0 + 0 ≤ _)⟩)
  dsimp only [Pt.U, Pt.locs, Pt.cells, Pt.slots] at X4 lq4 yq4 zq4 st4 hQ4
  have X4 := own_reb X4 lq4 yq4 zq4
  obtain ⟨rfl, Nq4, eh4⟩ := hQ4
  have N4 := Fr.app N3 Nq4
  obtain ⟨T5, h5, X5, e5, W5, st5⟩ := putFN X4 hx hZ hown (wd hw 56 rfl) Via.refl eh4 usc us (Or.inr ⟨(wd hw 31 rfl), rfl, hnm⟩) (wd hw 29 rfl) (ty := .byte) (v' := z0) (by decide) rfl rfl (g := (mkF m 24 #[vr r0, vr r1, .val .null, vr rv, vi nd] [z0, (.ref r0)])) rfl rfl (hb hby d25_24)
  have Fw5 := usc.same W5
  have N5 := Fr.snoc X5 N4 ug
  have K5 : Keep h0 h5 [r0] := (Keep.refl h0 [r0]).wr W5 (Or.inl (List.mem_of_getElem? (i := 0) rfl))
  have Z5 : n0 ≤ h5.size := by rw [W5.size]; exact Z0
  have c7 := (uEb.wr W5)
  have c8 := (uV.other W5 (Exa.ne uEb us (by decide)))
  obtain ⟨_, _, ⟨T6, Lw6, kw6, nw6⟩, -, X6, ⟨Lc6, hQ6, lq6, yq6, zq6⟩, st6⟩ := Jvm.LawKit.callS X5 hx (y := M18) hown (mvT hZ (wd hw 158 rfl)) (mvT hZ (wd hw 159 rfl)) (mvT hZ (wd hw 81 rfl)) (mvT hZ (wd hw 160 rfl)) (by decide) (backOf (W := 1) (rs_cor l Z a0 hw [] rv nd kv zv vv h5 n0 Z5 c7 c8 ueq uC) hZ (wd hw 160 rfl) (wd hw 81 rfl) (by decide) (by decide)) (g := (mkF m 32 #[vr r0, vr r1, .val .null, vr rv, vi nd] [(.int nd), z0, (.ref rv), (.ref r0)])) rfl (by rw [hml]; rfl) (argsL := [(.ref rv), z0, (.int nd)]) (rest := [(.ref r0)]) (lenOf pd_9 rfl) rfl (by show 2 * 0 + _ ≤ _; exact Nat.le_of_eq rfl) (hb hby d25_32) (fun _ _ => ⟨rfl, e5, (by decide : 0 + 1 ≤ _), (by decide : 0 + 64 ≤ _)⟩)
  dsimp only [Pt.U, Pt.locs, Pt.cells, Pt.slots] at X6 lq6 yq6 zq6 st6 hQ6
  have X6 := own_reb X6 lq6 yq6 zq6
  obtain ⟨nb_6, nk_6, rfl, Nq6, Kq6, f6_0, f6_1⟩ := hQ6
  have N6 := Fr.app N5 Nq6
  have c9 := (us.wr W5)
  have ne_r0_nb_6 : r0 ≠ nb_6 := Nat.ne_of_lt (Nat.lt_of_lt_of_le c9.lt f6_0)
  have c10 := (uE.wr W5)
  have ne_r1_nb_6 : r1 ≠ nb_6 := Nat.ne_of_lt (Nat.lt_of_lt_of_le c10.lt f6_0)
  have ne_rv_nb_6 : rv ≠ nb_6 := Nat.ne_of_lt (Nat.lt_of_lt_of_le c8.lt f6_0)
  have g_nb_6 : n0 ≤ nb_6 := Nat.le_trans Z5 f6_0
  have sz_nb_6 : h0.size ≤ nb_6 := Nat.le_trans K5.1 f6_0
  have K6 : Keep h0 T6.heap [r0] := K5.trans Kq6 all0
  have Z6 : n0 ≤ T6.heap.size := Nat.le_trans Z5 Kq6.1
  have c12 := ((us.wr W5).keep Kq6)
  have c13 := ((usv.other W5 (Or.inr (slot_ne (Or.inr (wd hw 30 rfl)) (Or.inr (wd hw 31 rfl)) (by decide) (t := (.array .byte)) (t' := .byte) (by decide) (by decide)))).keep Kq6 nin0)
  obtain ⟨T11, h11, X11, e11, W11, st11⟩ := putF X6 hx hZ hown (host := "") (Or.inl (wd hw 49 rfl)) Via.refl rfl c13 c12 (Or.inr ⟨(wd hw 30 rfl), rfl, hnm⟩) (wd hw 29 rfl) (ty := (.array .byte)) (by decide) rfl rfl (g := (mkF m 35 #[vr r0, vr r1, .val .null, vr rv, vi nd] [(.ref nb_6), (.ref r0)])) rfl rfl (hb hby d25_35)
  have Fw11 := c13.same W11
  have N11 := Fr.snoc X11 N6 ug
  have K11 : Keep h0 h11 [r0] := K6.wr W11 (Or.inl (List.mem_of_getElem? (i := 0) rfl))
  have Z11 : n0 ≤ h11.size := by rw [W11.size]; exact Z6
  have c14 := ((Fw5.keep Kq6 nin0).other W11 (Or.inr (slot_ne (Or.inr (wd hw 31 rfl)) (Or.inr (wd hw 30 rfl)) (by decide) (t := .byte) (t' := (.array .byte)) (by decide) (by decide))))
  have c15 := (f6_1.other W11 (Ne.symm ne_r0_nb_6))
  obtain ⟨fs, hr, hrun, hended, hW, hsame⟩ := X11.leave (v := none) (fun _ => rfl)
  refine ⟨_, _, pre0 _ ?_, hrun, hended, _, _, rfl, ?_, ⟨_, rfl⟩, hW, hsame.mono (by decide) (by decide)⟩
  · show SS p e below s₁ (mkF m 0 #[vr r0, vr r1, .val .null, uu, uu] []) _
    refine XS.aloadN X0.here hx rfl (hb hby d25_0) rfl rfl ?_
    show SS p e below s₁ (mkF m 1 #[vr r0, vr r1, .val .null, uu, uu] [(.ref r0)]) _
    refine st1 _ ?_
    refine XS.aloadN X1.here hx rfl (hb hby d25_4) rfl rfl ?_
    show SS p e below T1 (mkF m 5 #[vr r0, vr r1, .val .null, uu, uu] [(.ref r1)]) _
    refine st2.trans ?_
    refine XS.astoreN X2.here hx rfl (hb hby d25_8) rfl rfl (l' := #[vr r0, vr r1, .val .null, vr rv, uu]) rfl ?_
    refine XS.aloadN X2.here hx rfl (hb hby d25_9) rfl rfl ?_
    show SS p e below T2 (mkF m 10 #[vr r0, vr r1, .val .null, vr rv, uu] [(.ref r1)]) _
    refine st3.trans ?_
    refine XS.istore X3.here hx rfl (hb hby d25_13) rfl (l' := #[vr r0, vr r1, .val .null, vr rv, vi nd]) rfl ?_
    refine XS.aloadN X3.here hx rfl (hb hby d25_15) rfl rfl ?_
    show SS p e below T3 (mkF m 16 #[vr r0, vr r1, .val .null, vr rv, vi nd] [(.ref r1)]) _
    refine st4.trans ?_
    show SS p e below T4 (mkF m 19 #[vr r0, vr r1, .val .null, vr rv, vi nd] [(vI 1)]) _
    refine XS.ifNo X4.here hx rfl (hb hby d25_19) rfl ((if0 _ _).trans (feq (by decide : ¬ ((1 : Int32) = (0 : Int32)))).1) ?_
    refine XS.aloadN X4.here hx rfl (hb hby d25_22) rfl rfl ?_
    refine XS.iconst X4.here hx rfl (hb hby d25_23) ?_
    refine st5 _ ?_
    refine XS.aloadN X5.here hx rfl (hb hby d25_27) rfl rfl ?_
    refine XS.aloadN X5.here hx rfl (hb hby d25_28) rfl rfl ?_
    refine XS.iconst X5.here hx rfl (hb hby d25_29) ?_
    refine XS.iload X5.here hx rfl (hb hby d25_30) rfl ?_
    show SS p e below T5 (mkF m 32 #[vr r0, vr r1, .val .null, vr rv, vi nd] [(.int nd), z0, (.ref rv), (.ref r0)]) _
    refine st6 _ ?_
    refine st11 _ ?_
    refine XS.goto X11.here hx rfl (pc0 := 38) (pc' := 97) rfl (hb hby d25_38) (by decide) (by decide) ?_
    exact X11.returnOut hx Bd.returns (hb hby d25_97) hr
  · show Q_rs_si2 Z r0 r1 zc rv kv zv vv nd h0 n0 _ T11.heap _
    rw [e11]
    exact ⟨nb_6, nk_6, rfl, N11, K11, c14, Fw11, sz_nb_6, c15⟩
def Q_rs_si1 (Z : State) (r0 : Addr) (r1 : Addr) (zc : Int32) (rv : Addr) (kv : ClassId) (zv : Int32) (vv : List Value) (nd : Int32) (h0 : Heap) (n0 : Nat) (v : Option Value) (h : Heap) (L : List Loc) : Prop := ∃ (nb : Addr), ∃ (nk : ClassId), (v = none ∧ Fr n0 L ∧ Keep h0 h [r0] ∧ Fld Z h r0 "java/lang/String" "coder" "B" z0 ∧ Fld Z h r0 "java/lang/String" "value" "[B" (.ref nb) ∧ h0.size ≤ nb ∧ Arv Z h nb nk .byte zv vv z0)
set_option maxRecDepth 65536 in
set_option maxHeartbeats 40000000 in
theorem rs_si1 (l : Launch) (Z : State) (a0 : Array Value) (hw : ∀ d ∈ tables_1, d.before a0 Z = true) (ws : List Jvm.Cond) (r0 : Addr) (r1 : Addr) (zc : Int32) (rv : Addr) (kv : ClassId) (zv : Int32) (vv : List Value) (nd : Int32) (h0 : Heap) (n0 : Nat) (Z0 : n0 ≤ h0.size) (uO : Old Z n0 h0) (uS : Sta Z Z.heap "java/lang/String" "COMPACT_STRINGS" "Z" (.int zc)) (uP : ¬ zc = 0) (us : Exa Z h0 r0 "java/lang/String") (usv : Fld Z h0 r0 "java/lang/String" "value" "[B" .null) (usc : Fld Z h0 r0 "java/lang/String" "coder" "B" z0) (ug : n0 ≤ r0) (uE : Exa Z h0 r1 "java/lang/StringBuilder") (uv : Fld Z h0 r1 "java/lang/AbstractStringBuilder" "value" "[B" (.ref rv)) (uc : Fld Z h0 r1 "java/lang/AbstractStringBuilder" "coder" "B" z0) (uV : Arv Z h0 rv kv .byte zv vv z0) (uEb : Exa Z h0 rv "[B") (uk : Fld Z h0 r1 "java/lang/AbstractStringBuilder" "count" "I" (.int nd)) (ueq : nd = zv) (uC : zv.toNatClampNeg ≤ 64) :
    MetFree l M20 (head1 (Jvm.Cond.code M20 jdk_42_method_53_code 2 none :: ws) ({ frames := 3, cells := 1, slots := 64, locals := 45 } : Room)) (fun a U => a = #[(.ref r0), (.ref r1)] ∧ Z.Warmed39 U.vm ∧ U.heap = h0) (fun _ _ _ _ _ => True) (fun _ U o U' => ∃ v L, o = .returned v ∧ Q_rs_si1 Z r0 r1 zc rv kv zv vv nd h0 n0 v U'.heap L ∧ FrameEnd U o U' L ({ frames := 3, cells := 1, slots := 64, locals := 45 } : Room).cells ({ frames := 3, cells := 1, slots := 64, locals := 45 } : Room).slots) := by
  refine MetFree.of_bodySF (plainFor_of_name pn_0) hisR ?_
  intro p e s m args below meth c s₁ Bd hml0 hP hK
  obtain ⟨rfl, hZ, hh⟩ := hP
  have hx := Bd.exec
  have hby := Bd.bytes
  have hml : c.maxLocals = 2 := hml0
  have hown : s.vm.findClass "java/lang/String" = some m.cls := findClass_of_methodNamed Bd.named
  have hnm := (name_of_methodNamed Bd.named Bd.method).1
  have X0 : Stand p l e ({ frames := 3, cells := 1, slots := 64, locals := 45 } : Room) s m #[(.ref r0), (.ref r1)] below meth c s₁ [] 0 0 := Stand.of_body Bd
  have e0 : s₁.heap = h0 := by rw [← hh, Bd.state]; rfl
  have N0 := Fr.nil n0
  have pre0 : ∀ t, Steps p.tables e below (s₁.setTop (mkF m 0 #[vr r0, vr r1] [])) t → Steps p.tables e below (s₁.setTop (entryFrame m #[(.ref r0), (.ref r1)] 2)) t := fun t k => castTop (ef_20 m r0 r1) k
  obtain ⟨_, _, ⟨T1, Lw1, kw1, nw1⟩, -, X1, ⟨Lc1, hQ1, lq1, yq1, zq1⟩, st1⟩ := X0.specialBack hx (y := M19) rfl hown (mvT hZ (wd hw 140 rfl)) (mvT hZ (wd hw 141 rfl)) (mvT hZ (wd hw 142 rfl)) (by decide) (backOf (W := 0) (rs_si2 l Z a0 hw [] r0 r1 zc rv kv zv vv nd h0 n0 Z0 uO uS uP us usv usc ug uE uv uc uV uEb uk ueq uC) hZ (wd hw 142 rfl) (wd hw 22 rfl) (by decide) (by decide)) (g := (mkF m 3 #[vr r0, vr r1] [.null, (.ref r1), (.ref r0)])) rfl (by rw [hml]; rfl) (Steps.refl _) (a := r0) (argsL := [(.ref r1), .null]) (rest := []) (lenOf pd_12 rfl) rfl (by show 2 * 0 + _ ≤ _; exact Nat.le_of_eq rfl) (hb hby d24_3) (fun _ _ => ⟨rfl, e0, (by decide : 0 + 1 ≤ _), (by decide : 0 + 64 ≤ _)⟩)
  dsimp only [Pt.U, Pt.locs, Pt.cells, Pt.slots] at X1 lq1 yq1 zq1 st1 hQ1
  have X1 := own_reb X1 lq1 yq1 zq1
  obtain ⟨nb_1, nk_1, rfl, Nq1, Kq1, f1_0, f1_1, f1_2, f1_3⟩ := hQ1
  have N1 := Fr.app N0 Nq1
  have ne_r0_nb_1 : r0 ≠ nb_1 := Nat.ne_of_lt (Nat.lt_of_lt_of_le us.lt f1_2)
  have ne_r1_nb_1 : r1 ≠ nb_1 := Nat.ne_of_lt (Nat.lt_of_lt_of_le uE.lt f1_2)
  have ne_rv_nb_1 : rv ≠ nb_1 := Nat.ne_of_lt (Nat.lt_of_lt_of_le uV.lt f1_2)
  have g_nb_1 : n0 ≤ nb_1 := Nat.le_trans Z0 f1_2
  have sz_nb_1 : h0.size ≤ nb_1 := Nat.le_trans (Keep.refl h0 [r0]).1 f1_2
  have K1 : Keep h0 T1.heap [r0] := (Keep.refl h0 [r0]).trans Kq1 (allS (Or.inl (List.mem_of_getElem? (i := 0) rfl)) all0)
  have Z1 : n0 ≤ T1.heap.size := Nat.le_trans Z0 Kq1.1
  obtain ⟨fs, hr, hrun, hended, hW, hsame⟩ := X1.leave (v := none) (fun _ => rfl)
  refine ⟨_, _, pre0 _ ?_, hrun, hended, _, _, rfl, ?_, ⟨_, rfl⟩, hW, hsame.mono (by decide) (by decide)⟩
  · show SS p e below s₁ (mkF m 0 #[vr r0, vr r1] []) _
    refine XS.aloadN X0.here hx rfl (hb hby d24_0) rfl rfl ?_
    refine XS.aloadN X0.here hx rfl (hb hby d24_1) rfl rfl ?_
    refine XS.aconstNull X0.here hx rfl (hb hby d24_2) ?_
    show SS p e below s₁ (mkF m 3 #[vr r0, vr r1] [.null, (.ref r1), (.ref r0)]) _
    refine st1.trans ?_
    exact X1.returnOut hx Bd.returns (hb hby d24_6) hr
  · show Q_rs_si1 Z r0 r1 zc rv kv zv vv nd h0 n0 _ T1.heap _
    exact ⟨nb_1, nk_1, rfl, N1, K1, f1_0, f1_1, sz_nb_1, f1_3⟩
def Q_rs_tos (Z : State) (r0 : Addr) (zc : Int32) (rv : Addr) (kv : ClassId) (zv : Int32) (vv : List Value) (nd : Int32) (h0 : Heap) (n0 : Nat) (v : Option Value) (h : Heap) (L : List Loc) : Prop := ∃ (nx : Addr), ∃ (nb : Addr), ∃ (nk : ClassId), (v = some (.ref nx) ∧ Fr n0 L ∧ Keep h0 h [] ∧ h0.size ≤ nx ∧ Exa Z h nx "java/lang/String" ∧ Fld Z h nx "java/lang/String" "coder" "B" z0 ∧ Fld Z h nx "java/lang/String" "value" "[B" (.ref nb) ∧ h0.size ≤ nb ∧ Arv Z h nb nk .byte zv vv z0)
set_option maxRecDepth 65536 in
set_option maxHeartbeats 40000000 in
theorem rs_tos (l : Launch) (Z : State) (a0 : Array Value) (hw : ∀ d ∈ tables_1, d.before a0 Z = true) (ws : List Jvm.Cond) (r0 : Addr) (zc : Int32) (rv : Addr) (kv : ClassId) (zv : Int32) (vv : List Value) (nd : Int32) (h0 : Heap) (n0 : Nat) (Z0 : n0 ≤ h0.size) (uO : Old Z n0 h0) (uS : Sta Z Z.heap "java/lang/String" "COMPACT_STRINGS" "Z" (.int zc)) (uP : ¬ zc = 0) (uE : Exa Z h0 r0 "java/lang/StringBuilder") (uv : Fld Z h0 r0 "java/lang/AbstractStringBuilder" "value" "[B" (.ref rv)) (uc : Fld Z h0 r0 "java/lang/AbstractStringBuilder" "coder" "B" z0) (uV : Arv Z h0 rv kv .byte zv vv z0) (uEb : Exa Z h0 rv "[B") (uk : Fld Z h0 r0 "java/lang/AbstractStringBuilder" "count" "I" (.int nd)) (ueq : nd = zv) (uC : zv.toNatClampNeg ≤ 64) :
    MetFree l M21 (head1 (Jvm.Cond.code M21 jdk_67_method_42_code 1 (some (.object "java/lang/String")) :: ws) ({ frames := 4, cells := 2, slots := 68, locals := 59 } : Room)) (fun a U => a = #[(.ref r0)] ∧ Z.Warmed39 U.vm ∧ U.heap = h0) (fun _ _ _ _ _ => True) (fun _ U o U' => ∃ v L, o = .returned v ∧ Q_rs_tos Z r0 zc rv kv zv vv nd h0 n0 v U'.heap L ∧ FrameEnd U o U' L ({ frames := 4, cells := 2, slots := 68, locals := 59 } : Room).cells ({ frames := 4, cells := 2, slots := 68, locals := 59 } : Room).slots) := by
  refine MetFree.of_bodySF (plainFor_of_name pn_2) hisR ?_
  intro p e s m args below meth c s₁ Bd hml0 hP hK
  obtain ⟨rfl, hZ, hh⟩ := hP
  have hx := Bd.exec
  have hby := Bd.bytes
  have hml : c.maxLocals = 1 := hml0
  have hown : s.vm.findClass "java/lang/StringBuilder" = some m.cls := findClass_of_methodNamed Bd.named
  have hnm := (name_of_methodNamed Bd.named Bd.method).1
  have X0 : Stand p l e ({ frames := 4, cells := 2, slots := 68, locals := 59 } : Room) s m #[(.ref r0)] below meth c s₁ [] 0 0 := Stand.of_body Bd
  have e0 : s₁.heap = h0 := by rw [← hh, Bd.state]; rfl
  have N0 := Fr.nil n0
  have pre0 : ∀ t, Steps p.tables e below (s₁.setTop (mkF m 0 #[vr r0] [])) t → Steps p.tables e below (s₁.setTop (entryFrame m #[(.ref r0)] 1)) t := fun t k => castTop (ef_21 m r0) k
  obtain ⟨T1, h1, X1, e1, E1, A1, D1, Un1, st1⟩ := newO X0 hx hZ hown (wd hw 135 rfl) (wd hw 29 rfl) (wd hw 22 rfl) e0 (g := (mkF m 0 #[vr r0] [])) rfl (hb hby d23_0) (by decide) (by decide)
  obtain ⟨b1, g1⟩ : ∃ z, z = h0.size := ⟨_, rfl⟩
  rw [← g1] at A1 D1 Un1 st1
  have ne_r0_b1 : r0 ≠ b1 := Nat.ne_of_lt (Nat.lt_of_lt_of_le uE.lt (Nat.le_of_eq g1.symm))
  have ne_rv_b1 : rv ≠ b1 := Nat.ne_of_lt (Nat.lt_of_lt_of_le uV.lt (Nat.le_of_eq g1.symm))
  have F1_value : Fld Z h1 b1 "java/lang/String" "value" "[B" .null := D1 (Or.inr (wd hw 30 rfl)) (ty := (.array .byte)) (by decide)
  have F1_coder : Fld Z h1 b1 "java/lang/String" "coder" "B" z0 := D1 (Or.inr (wd hw 31 rfl)) (ty := .byte) (by decide)
  have g_b1 : n0 ≤ b1 := Nat.le_trans Z0 (Nat.le_of_eq g1.symm)
  have sz_b1 : h0.size ≤ b1 := Nat.le_trans (Keep.refl h0 []).1 (Nat.le_of_eq g1.symm)
  have K1 : Keep h0 h1 [] := (Keep.refl h0 []).ext E1
  have Z1 : n0 ≤ h1.size := Nat.le_trans Z0 E1.1
  have c3 := (uO.ext E1)
  have c4 := (uE.ext E1)
  have c5 := (uv.ext E1)
  have c6 := (uc.ext E1)
  have c7 := (uV.ext E1)
  have c8 := (uEb.ext E1)
  have c9 := (uk.ext E1)
  obtain ⟨_, _, ⟨T2, Lw2, kw2, nw2⟩, -, X2, ⟨Lc2, hQ2, lq2, yq2, zq2⟩, st2⟩ := X1.specialBack hx (y := M20) rfl hown (mvT hZ (wd hw 136 rfl)) (mvT hZ (wd hw 137 rfl)) (mvT hZ (wd hw 139 rfl)) (by decide) (backOf (W := 1) (rs_si1 l Z a0 hw [] b1 r0 zc rv kv zv vv nd h1 n0 Z1 c3 uS uP A1 F1_value F1_coder g_b1 c4 c5 c6 c7 c8 c9 ueq uC) hZ (wd hw 139 rfl) (wd hw 22 rfl) (by decide) (by decide)) (g := (mkF m 5 #[vr r0] [(.ref r0), (.ref b1), (.ref b1)])) rfl (by rw [hml]; rfl) (Steps.refl _) (a := b1) (argsL := [(.ref r0)]) (rest := [(.ref b1)]) (lenOf pd_13 rfl) rfl (by show 2 * 0 + _ ≤ _; exact Nat.le_of_eq rfl) (hb hby d23_5) (fun _ _ => ⟨rfl, e1, (by decide : 1 + 1 ≤ _), (by decide : 4 + 64 ≤ _)⟩)
  dsimp only [Pt.U, Pt.locs, Pt.cells, Pt.slots] at X2 lq2 yq2 zq2 st2 hQ2
  have X2 := own_reb X2 lq2 yq2 zq2
  obtain ⟨nb_2, nk_2, rfl, Nq2, Kq2, f2_0, f2_1, f2_2, f2_3⟩ := hQ2
  have N2 := Fr.app N0 Nq2
  have ne_r0_nb_2 : r0 ≠ nb_2 := Nat.ne_of_lt (Nat.lt_of_lt_of_le c4.lt f2_2)
  have ne_rv_nb_2 : rv ≠ nb_2 := Nat.ne_of_lt (Nat.lt_of_lt_of_le c7.lt f2_2)
  have ne_b1_nb_2 : b1 ≠ nb_2 := Nat.ne_of_lt (Nat.lt_of_lt_of_le A1.lt f2_2)
  have g_nb_2 : n0 ≤ nb_2 := Nat.le_trans Z1 f2_2
  have sz_nb_2 : h0.size ≤ nb_2 := Nat.le_trans K1.1 f2_2
  have K2 : Keep h0 T2.heap [] := K1.trans Kq2 (allS (Or.inr sz_b1) all0)
  have Z2 : n0 ≤ T2.heap.size := Nat.le_trans Z1 Kq2.1
  have c10 := (A1.keep Kq2)
  obtain ⟨fs, hr, hrun, hended, hW, hsame⟩ := X2.leave (v := some (.ref b1)) (fun h => by rw [Bd.returns] at h; cases h)
  refine ⟨_, _, pre0 _ ?_, hrun, hended, _, _, rfl, ?_, ⟨_, rfl⟩, hW, hsame.mono (by decide) (by decide)⟩
  · show SS p e below s₁ (mkF m 0 #[vr r0] []) _
    refine st1 _ ?_
    refine XS.dup X1.here hx rfl (hb hby d23_3) rfl rfl ?_
    refine XS.aloadN X1.here hx rfl (hb hby d23_4) rfl rfl ?_
    show SS p e below T1 (mkF m 5 #[vr r0] [(.ref r0), (.ref b1), (.ref b1)]) _
    refine st2.trans ?_
    exact retOut X2 hx Bd.returns rfl (Or.inr (Or.inr (Or.inr (Or.inr ⟨rfl, rfl, rfl⟩)))) (hb hby d23_8) hr
  · show Q_rs_tos Z r0 zc rv kv zv vv nd h0 n0 _ T2.heap _
    exact ⟨b1, nb_2, nk_2, rfl, N2, K2, sz_b1, c10, f2_0, f2_1, sz_nb_2, f2_3⟩
theorem ef_27 (m : MethodId) (x0 : Addr) (x1 : Addr) : entryFrame m #[(.ref x0), (.ref x1)] 2 = mkF m 0 #[vr x0, vr x1] [] := by first | (simp [entryFrame, mkF, argsToLocals, Value.category]; done) | rfl
theorem pn_5 : plainName "java/lang/Throwable" = true := by first | (simp [plainName, overriddenIn]; done) | decide +kernel
theorem d33_0 : decode jdk_78_method_2_code 0 = .ok (.aload_n 0, 1) := by decide +kernel
theorem d33_1 : decode jdk_78_method_2_code 1 = .ok (.invokespecial 1, 3) := by decide +kernel
theorem d33_4 : decode jdk_78_method_2_code 4 = .ok (.aload_n 0, 1) := by decide +kernel
theorem d33_5 : decode jdk_78_method_2_code 5 = .ok (.aload_n 0, 1) := by decide +kernel
theorem d33_6 : decode jdk_78_method_2_code 6 = .ok (.putfield 7, 3) := by decide +kernel
theorem d33_9 : decode jdk_78_method_2_code 9 = .ok (.aload_n 0, 1) := by decide +kernel
theorem d33_10 : decode jdk_78_method_2_code 10 = .ok (.getstatic 13, 3) := by decide +kernel
theorem d33_13 : decode jdk_78_method_2_code 13 = .ok (.putfield 17, 3) := by decide +kernel
theorem d33_16 : decode jdk_78_method_2_code 16 = .ok (.aload_n 0, 1) := by decide +kernel
theorem d33_17 : decode jdk_78_method_2_code 17 = .ok (.getstatic 20, 3) := by decide +kernel
theorem d33_20 : decode jdk_78_method_2_code 20 = .ok (.putfield 24, 3) := by decide +kernel
theorem d33_23 : decode jdk_78_method_2_code 23 = .ok (.aload_n 0, 1) := by decide +kernel
theorem d33_24 : decode jdk_78_method_2_code 24 = .ok (.invokevirtual 27, 3) := by decide +kernel
theorem own_xi0 : ∀ d ∈ own_xw "com/example/plain_hub/plainhub/HubException", d ∈ tables_1 := by decide +kernel
theorem own_xin {Z : State} {a0 : Array Value} (hw : ∀ d ∈ tables_1, d.before a0 Z = true) : ∀ d ∈ own_xw "com/example/plain_hub/plainhub/HubException", d.before a0 Z = true := fun d hd => hw d (own_xi0 d hd)
theorem d33_27 : decode jdk_78_method_2_code 27 = .ok (.pop, 1) := by decide +kernel
theorem d33_28 : decode jdk_78_method_2_code 28 = .ok (.aload_n 0, 1) := by decide +kernel
theorem d33_29 : decode jdk_78_method_2_code 29 = .ok (.aload_n 1, 1) := by decide +kernel
theorem d33_30 : decode jdk_78_method_2_code 30 = .ok (.putfield 31, 3) := by decide +kernel
theorem d33_33 : decode jdk_78_method_2_code 33 = .ok (.return_, 1) := by decide +kernel
def Q_rmThr (Z : State) (r0 : Addr) (r1 : Addr) (zc : Int32) (vu : Value) (vq : Value) (h0 : Heap) (n0 : Nat) (v : Option Value) (h : Heap) (L : List Loc) : Prop := (v = none ∧ Fr n0 L ∧ Keep h0 h [r0] ∧ Fld Z h r0 "java/lang/Throwable" "detailMessage" "Ljava/lang/String;" (.ref r1) ∧ Fld Z h r0 "com/example/plain_hub/plainhub/HubException" "status" "I" z0 ∧ Fld Z h r0 "com/example/plain_hub/plainhub/HubException" "code" "I" z0)
set_option maxRecDepth 65536 in
set_option maxHeartbeats 40000000 in
theorem rmThr (l : Launch) (Z : State) (a0 : Array Value) (hw : ∀ d ∈ tables_1, d.before a0 Z = true) (ws : List Jvm.Cond) (r0 : Addr) (r1 : Addr) (zc : Int32) (vu : Value) (vq : Value) (h0 : Heap) (n0 : Nat) (Z0 : n0 ≤ h0.size) (uO : Old Z n0 h0) (uS : Sta Z Z.heap "java/lang/String" "COMPACT_STRINGS" "Z" (.int zc)) (uP : ¬ zc = 0) (uLt : l.stackTraces = true) (uZu : Sta Z Z.heap "java/lang/Throwable" "UNASSIGNED_STACK" "[Ljava/lang/StackTraceElement;" vu) (uRu : vu.isRef = true) (uZs : Sta Z Z.heap "java/lang/Throwable" "SUPPRESSED_SENTINEL" "Ljava/util/List;" vq) (uRs : vq.isRef = true) (uE : Exa Z h0 r0 "com/example/plain_hub/plainhub/HubException") (uU : Unt h0 r0) (uca : Fld Z h0 r0 "java/lang/Throwable" "cause" "Ljava/lang/Throwable;" .null) (ust : Fld Z h0 r0 "java/lang/Throwable" "stackTrace" "[Ljava/lang/StackTraceElement;" .null) (usu : Fld Z h0 r0 "java/lang/Throwable" "suppressedExceptions" "Ljava/util/List;" .null) (ubt : Fld Z h0 r0 "java/lang/Throwable" "backtrace" "Ljava/lang/Object;" .null) (udm : Fld Z h0 r0 "java/lang/Throwable" "detailMessage" "Ljava/lang/String;" .null) (ux0 : Fld Z h0 r0 "com/example/plain_hub/plainhub/HubException" "status" "I" z0) (ux1 : Fld Z h0 r0 "com/example/plain_hub/plainhub/HubException" "code" "I" z0) (ug : n0 ≤ r0) :
    MetFree l M29 (head1 (Jvm.Cond.code M29 jdk_78_method_2_code 2 none :: ws) ({ frames := 3, cells := 1, slots := 2752, locals := 42 } : Room)) (fun a U => a = #[(.ref r0), (.ref r1)] ∧ Z.Warmed39 U.vm ∧ U.heap = h0 ∧ CHv Z own_EL U.vm h0) (fun _ _ bl s _ => s.vm.MethodsKnown ∧ s.vm.FramesKnown bl) (fun _ U o U' => ∃ v L, o = .returned v ∧ Q_rmThr Z r0 r1 zc vu vq h0 n0 v U'.heap L ∧ CHr Z own_EL U.vm U.heap U'.vm U'.heap ∧ ReturnedEndW U o U' L ({ frames := 3, cells := 1, slots := 2752, locals := 42 } : Room).cells ({ frames := 3, cells := 1, slots := 2752, locals := 42 } : Room).slots) := by
  refine MetFree.of_bodySF (plainFor_of_name pn_5) hisR ?_
  intro p e s m args below meth c s₁ Bd hml0 hP hK
  obtain ⟨rfl, hZ, hh, hC0⟩ := hP
  have hx := Bd.exec
  have hby := Bd.bytes
  have hml : c.maxLocals = 2 := hml0
  have hown : s.vm.findClass "java/lang/Throwable" = some m.cls := findClass_of_methodNamed Bd.named
  have hnm := (name_of_methodNamed Bd.named Bd.method).1
  have X0 : Stand p l e ({ frames := 3, cells := 1, slots := 2752, locals := 42 } : Room) (s.setVm s.vm) m #[(.ref r0), (.ref r1)] below meth c s₁ [] 0 0 := Stand.of_body Bd
  have e0 : s₁.heap = h0 := by rw [← hh, Bd.state]; rfl
  have N0 := Fr.nil n0
  have pre0 : ∀ t, Steps p.tables e below (s₁.setTop (mkF m 0 #[vr r0, vr r1] [])) t → Steps p.tables e below (s₁.setTop (entryFrame m #[(.ref r0), (.ref r1)] 2)) t := fun t k => castTop (ef_27 m r0 r1) k
  have hS0 : s.Since s.vm 0 := (State.WarmedH.refl s).since _
  have hk0 : 0 ≤ h0.size := Nat.zero_le _
  have R0 := CHr.refl hC0
  obtain ⟨T1, X1, e1, st1⟩ := initO X0 hx hZ hown (wd hw 190 rfl) (wd hw 19 rfl) (wd hw 20 rfl) e0 (g := (mkF m 1 #[vr r0, vr r1] [(.ref r0)])) rfl (by rw [hml]; rfl) rfl (hb hby d33_1) (by decide) (W := 0) (by show 2 * 0 + _ ≤ _; exact Nat.le_of_eq rfl) (by decide)
  obtain ⟨T2, h2, X2, e2, W2, st2⟩ := putF X1 hx hZ hown (host := "") (Or.inl (wd hw 191 rfl)) Via.refl e1 uca uE (Or.inl (wd hw 192 rfl)) (wd hw 5 rfl) (ty := (.object "java/lang/Throwable")) (by decide) rfl rfl (g := (mkF m 6 #[vr r0, vr r1] [(.ref r0), (.ref r0)])) rfl rfl (hb hby d33_6)
  have Re3 := R0.trans (CHr.wr W2 (Safe.exa hZ.alike uE (by decide) (by decide)) hC0)
  have hCe3 := Re3.1
  have Fw2 := uca.same W2
  have N2 := Fr.snoc X2 N0 ug
  have K2 : Keep h0 h2 [r0] := (Keep.refl h0 [r0]).wr W2 (Or.inl (List.mem_of_getElem? (i := 0) rfl))
  have Z2 : n0 ≤ h2.size := by rw [W2.size]; exact Z0
  have hk2 := own_szW W2 hk0
  have c5 := (uO.wr W2 ug)
  obtain ⟨T4, X4, e4, st4⟩ := getS2 X2 hx hZ hown (host := "") (Or.inl (wd hw 193 rfl)) Via.refl e2 (uZu.ext c5.2) (g := (mkF m 10 #[vr r0, vr r1] [(.ref r0)])) rfl (hb hby d33_10)
  have c7 := (uE.wr W2)
  have c8 := (ust.other W2 (Or.inr (slot_ne (Or.inl (wd hw 195 rfl)) (Or.inl (wd hw 192 rfl)) (by decide) (t := (.array (.object "java/lang/StackTraceElement"))) (t' := (.object "java/lang/Throwable")) (by decide) (by decide))))
  obtain ⟨T6, h6, X6, e6, W6, st6⟩ := putF X4 hx hZ hown (host := "") (Or.inl (wd hw 194 rfl)) Via.refl e4 c8 c7 (Or.inl (wd hw 195 rfl)) (wd hw 5 rfl) (ty := (.array (.object "java/lang/StackTraceElement"))) (by decide) (own_nA uRu) (own_fA uRu) (g := (mkF m 13 #[vr r0, vr r1] [vu, (.ref r0)])) rfl rfl (hb hby d33_13)
  have Re9 := Re3.trans (CHr.wr W6 (Safe.exa hZ.alike c7 (by decide) (by decide)) hCe3)
  have hCe9 := Re9.1
  have Fw6 := c8.same W6
  have N6 := Fr.snoc X6 N2 ug
  have K6 : Keep h0 h6 [r0] := K2.wr W6 (Or.inl (List.mem_of_getElem? (i := 0) rfl))
  have Z6 : n0 ≤ h6.size := by rw [W6.size]; exact Z2
  have hk6 := own_szW W6 hk2
  have c11 := (c5.wr W6 ug)
  obtain ⟨T10, X10, e10, st10⟩ := getS2 X6 hx hZ hown (host := "") (Or.inl (wd hw 196 rfl)) Via.refl e6 (uZs.ext c11.2) (g := (mkF m 17 #[vr r0, vr r1] [(.ref r0)])) rfl (hb hby d33_17)
  have c13 := (c7.wr W6)
  have c14 := ((usu.other W2 (Or.inr (slot_ne (Or.inl (wd hw 198 rfl)) (Or.inl (wd hw 192 rfl)) (by decide) (t := (.object "java/util/List")) (t' := (.object "java/lang/Throwable")) (by decide) (by decide)))).other W6 (Or.inr (slot_ne (Or.inl (wd hw 198 rfl)) (Or.inl (wd hw 195 rfl)) (by decide) (t := (.object "java/util/List")) (t' := (.array (.object "java/lang/StackTraceElement"))) (by decide) (by decide))))
  obtain ⟨T12, h12, X12, e12, W12, st12⟩ := putF X10 hx hZ hown (host := "") (Or.inl (wd hw 197 rfl)) Via.refl e10 c14 c13 (Or.inl (wd hw 198 rfl)) (wd hw 5 rfl) (ty := (.object "java/util/List")) (by decide) (own_nO uRs) (own_fO uRs) (g := (mkF m 20 #[vr r0, vr r1] [vq, (.ref r0)])) rfl rfl (hb hby d33_20)
  have Re15 := Re9.trans (CHr.wr W12 (Safe.exa hZ.alike c13 (by decide) (by decide)) hCe9)
  have hCe15 := Re15.1
  have Fw12 := c14.same W12
  have N12 := Fr.snoc X12 N6 ug
  have K12 : Keep h0 h12 [r0] := K6.wr W12 (Or.inl (List.mem_of_getElem? (i := 0) rfl))
  have Z12 : n0 ≤ h12.size := by rw [W12.size]; exact Z6
  have hk12 := own_szW W12 hk6
  have c17 := (c13.wr W12)
  have c18 := (((uU.wr W2).wr W6).wr W12)
  have c19 := (Fw6.other W12 (Or.inr (slot_ne (Or.inl (wd hw 195 rfl)) (Or.inl (wd hw 198 rfl)) (by decide) (t := (.array (.object "java/lang/StackTraceElement"))) (t' := (.object "java/util/List")) (by decide) (by decide))))
  have c20 := (c11.wr W12 ug)
  have c21 := (((ubt.other W2 (Or.inr (slot_ne (Or.inl (wd hw 223 rfl)) (Or.inl (wd hw 192 rfl)) (by decide) (t := (.object "java/lang/Object")) (t' := (.object "java/lang/Throwable")) (by decide) (by decide)))).other W6 (Or.inr (slot_ne (Or.inl (wd hw 223 rfl)) (Or.inl (wd hw 195 rfl)) (by decide) (t := (.object "java/lang/Object")) (t' := (.array (.object "java/lang/StackTraceElement"))) (by decide) (by decide)))).other W12 (Or.inr (slot_ne (Or.inl (wd hw 223 rfl)) (Or.inl (wd hw 198 rfl)) (by decide) (t := (.object "java/lang/Object")) (t' := (.object "java/util/List")) (by decide) (by decide))))
  have c22 := (((udm.other W2 (Or.inr (slot_ne (Or.inl (wd hw 222 rfl)) (Or.inl (wd hw 192 rfl)) (by decide) (t := (.object "java/lang/String")) (t' := (.object "java/lang/Throwable")) (by decide) (by decide)))).other W6 (Or.inr (slot_ne (Or.inl (wd hw 222 rfl)) (Or.inl (wd hw 195 rfl)) (by decide) (t := (.object "java/lang/String")) (t' := (.array (.object "java/lang/StackTraceElement"))) (by decide) (by decide)))).other W12 (Or.inr (slot_ne (Or.inl (wd hw 222 rfl)) (Or.inl (wd hw 198 rfl)) (by decide) (t := (.object "java/lang/String")) (t' := (.object "java/util/List")) (by decide) (by decide))))
  obtain ⟨T16, h16, Lf16, X16, e16, hlf16, Kpz16, fM16, st16⟩ := own_fill X12 hx uLt hZ hown (own_xin hw) (wd hw 5 rfl) (by show ThS Z s.heap; rw [hh]; exact ThS.ext uO.2 ThS.start) (Vm.MethodsKnown.alikeC hS0.1.alike hK.1) (Vm.FramesKnown.alikeC hS0.1.alike hK.2) e12 c17 c18 uRu c19 (uZu.ext c20.2) c21 c22 own_l3 (g := (mkF m 24 #[vr r0, vr r1] [(.ref r0)])) rfl (by rw [hml]; rfl) (rest := []) rfl (hb hby d33_24) (by decide) (by show 2 * 0 + 0 + 42 ≤ _; decide) (by decide) (by decide)
  have Kp16 : Kp Z h0 h16 r0 := by rw [← hh]; exact Kpz16
  have Kq16 := keep_of_kp Kp16
  have N16 := own_frsix hlf16 ug
  have fk16_status := Fld.kp Kp16 ux0 (Or.inr (own_six (own_xin hw) (Or.inr (wd hw 228 rfl)) (ty := .int) (by decide) (by decide)))
  have fk16_code := Fld.kp Kp16 ux1 (Or.inr (own_six (own_xin hw) (Or.inr (wd hw 230 rfl)) (ty := .int) (by decide) (by decide)))
  have fU16 := Unt.kp Kp16 uU
  have Re23 := R0.trans (CHr.keep Kq16 (allS (Safe.exa hZ.alike uE (by decide) (by decide)) all0) hC0)
  have hCe23 := Re23.1
  have Z16 : n0 ≤ h16.size := Nat.le_trans Z0 Kq16.1
  have hk16 : _ ≤ h16.size := Nat.le_trans hk0 Kq16.1
  have c25 := (uE.keep Kq16)
  obtain ⟨T24, h24, X24, e24, W24, st24⟩ := putF X16 hx hZ hown (host := "") (Or.inl (wd hw 226 rfl)) Via.refl e16 fM16 c25 (Or.inl (wd hw 222 rfl)) (wd hw 5 rfl) (ty := (.object "java/lang/String")) (by decide) rfl rfl (g := (mkF m 30 #[vr r0, vr r1] [(.ref r1), (.ref r0)])) rfl rfl (hb hby d33_30)
  have Re26 := Re23.trans (CHr.wr W24 (Safe.exa hZ.alike c25 (by decide) (by decide)) hCe23)
  have hCe26 := Re26.1
  have Fw24 := fM16.same W24
  have N24 := Fr.snoc X24 N16 ug
  have K24 : Keep h0 h24 [r0] := Kq16.wr W24 (Or.inl (List.mem_of_getElem? (i := 0) rfl))
  have Z24 : n0 ≤ h24.size := by rw [W24.size]; exact Z16
  have hk24 := own_szW W24 hk16
  have c27 := (fk16_status.other W24 (Or.inr (slot_ne (Or.inr (wd hw 228 rfl)) (Or.inl (wd hw 222 rfl)) (by decide) (t := .int) (t' := (.object "java/lang/String")) (by decide) (by decide))))
  have c28 := (fk16_code.other W24 (Or.inr (slot_ne (Or.inr (wd hw 230 rfl)) (Or.inl (wd hw 222 rfl)) (by decide) (t := .int) (t' := (.object "java/lang/String")) (by decide) (by decide))))
  obtain ⟨fs, hr, hrun, hended, en1, en2, en3, en4⟩ := X24.leaveW hS0 (own_hk e24 hk24) (v := none) (fun _ => rfl)
  refine ⟨_, _, pre0 _ ?_, hrun, hended, _, _, rfl, ?_, own_chr (T := T24) hh e24 (Re26.trans (CHv.at X24 hZ (own_EW hw) hCe26)), en1, en2, en3, en4.mono (by decide) (by decide)⟩
  · show SS p e below s₁ (mkF m 0 #[vr r0, vr r1] []) _
    refine XS.aloadN X0.here hx rfl (hb hby d33_0) rfl rfl ?_
    show SS p e below s₁ (mkF m 1 #[vr r0, vr r1] [(.ref r0)]) _
    refine st1 _ ?_
    refine XS.aloadN X1.here hx rfl (hb hby d33_4) rfl rfl ?_
    refine XS.aloadN X1.here hx rfl (hb hby d33_5) rfl rfl ?_
    refine st2 _ ?_
    refine XS.aloadN X2.here hx rfl (hb hby d33_9) rfl rfl ?_
    show SS p e below T2 (mkF m 10 #[vr r0, vr r1] [(.ref r0)]) _
    refine st4 _ ?_
    refine st6 _ ?_
    refine XS.aloadN X6.here hx rfl (hb hby d33_16) rfl rfl ?_
    show SS p e below T6 (mkF m 17 #[vr r0, vr r1] [(.ref r0)]) _
    refine st10 _ ?_
    refine st12 _ ?_
    refine XS.aloadN X12.here hx rfl (hb hby d33_23) rfl rfl ?_
    show SS p e below T12 (mkF m 24 #[vr r0, vr r1] [(.ref r0)]) _
    refine st16 _ ?_
    refine XS.pop X16.here hx rfl (hb hby d33_27) rfl rfl ?_
    refine XS.aloadN X16.here hx rfl (hb hby d33_28) rfl rfl ?_
    refine XS.aloadN X16.here hx rfl (hb hby d33_29) rfl rfl ?_
    refine st24 _ ?_
    exact X24.returnOut hx Bd.returns (hb hby d33_33) hr
  · show Q_rmThr Z r0 r1 zc vu vq h0 n0 _ T24.heap _
    rw [e24]
    exact ⟨rfl, N24, K24, Fw24, c27, c28⟩
theorem ef_28 (m : MethodId) (x0 : Addr) (x1 : Addr) : entryFrame m #[(.ref x0), (.ref x1)] 2 = mkF m 0 #[vr x0, vr x1] [] := by first | (simp [entryFrame, mkF, argsToLocals, Value.category]; done) | rfl
theorem pn_6 : plainName "java/lang/Exception" = true := by first | (simp [plainName, overriddenIn]; done) | decide +kernel
theorem d32_0 : decode jdk_59_method_2_code 0 = .ok (.aload_n 0, 1) := by decide +kernel
theorem d32_1 : decode jdk_59_method_2_code 1 = .ok (.aload_n 1, 1) := by decide +kernel
theorem d32_2 : decode jdk_59_method_2_code 2 = .ok (.invokespecial 7, 3) := by decide +kernel
theorem d32_5 : decode jdk_59_method_2_code 5 = .ok (.return_, 1) := by decide +kernel
def Q_rmException (Z : State) (r0 : Addr) (r1 : Addr) (zc : Int32) (vu : Value) (vq : Value) (h0 : Heap) (n0 : Nat) (v : Option Value) (h : Heap) (L : List Loc) : Prop := (v = none ∧ Fr n0 L ∧ Keep h0 h [r0] ∧ Fld Z h r0 "java/lang/Throwable" "detailMessage" "Ljava/lang/String;" (.ref r1) ∧ Fld Z h r0 "com/example/plain_hub/plainhub/HubException" "status" "I" z0 ∧ Fld Z h r0 "com/example/plain_hub/plainhub/HubException" "code" "I" z0)
set_option maxRecDepth 65536 in
set_option maxHeartbeats 40000000 in
theorem rmException (l : Launch) (Z : State) (a0 : Array Value) (hw : ∀ d ∈ tables_1, d.before a0 Z = true) (ws : List Jvm.Cond) (r0 : Addr) (r1 : Addr) (zc : Int32) (vu : Value) (vq : Value) (h0 : Heap) (n0 : Nat) (Z0 : n0 ≤ h0.size) (uO : Old Z n0 h0) (uS : Sta Z Z.heap "java/lang/String" "COMPACT_STRINGS" "Z" (.int zc)) (uP : ¬ zc = 0) (uLt : l.stackTraces = true) (uZu : Sta Z Z.heap "java/lang/Throwable" "UNASSIGNED_STACK" "[Ljava/lang/StackTraceElement;" vu) (uRu : vu.isRef = true) (uZs : Sta Z Z.heap "java/lang/Throwable" "SUPPRESSED_SENTINEL" "Ljava/util/List;" vq) (uRs : vq.isRef = true) (uE : Exa Z h0 r0 "com/example/plain_hub/plainhub/HubException") (uU : Unt h0 r0) (uca : Fld Z h0 r0 "java/lang/Throwable" "cause" "Ljava/lang/Throwable;" .null) (ust : Fld Z h0 r0 "java/lang/Throwable" "stackTrace" "[Ljava/lang/StackTraceElement;" .null) (usu : Fld Z h0 r0 "java/lang/Throwable" "suppressedExceptions" "Ljava/util/List;" .null) (ubt : Fld Z h0 r0 "java/lang/Throwable" "backtrace" "Ljava/lang/Object;" .null) (udm : Fld Z h0 r0 "java/lang/Throwable" "detailMessage" "Ljava/lang/String;" .null) (ux0 : Fld Z h0 r0 "com/example/plain_hub/plainhub/HubException" "status" "I" z0) (ux1 : Fld Z h0 r0 "com/example/plain_hub/plainhub/HubException" "code" "I" z0) (ug : n0 ≤ r0) :
    MetFree l M30 (head1 (Jvm.Cond.code M30 jdk_59_method_2_code 2 none :: ws) ({ frames := 4, cells := 1, slots := 2752, locals := 55 } : Room)) (fun a U => a = #[(.ref r0), (.ref r1)] ∧ Z.Warmed39 U.vm ∧ U.heap = h0 ∧ CHv Z own_EL U.vm h0) (fun _ _ bl s _ => s.vm.MethodsKnown ∧ s.vm.FramesKnown bl) (fun _ U o U' => ∃ v L, o = .returned v ∧ Q_rmException Z r0 r1 zc vu vq h0 n0 v U'.heap L ∧ CHr Z own_EL U.vm U.heap U'.vm U'.heap ∧ ReturnedEndW U o U' L ({ frames := 4, cells := 1, slots := 2752, locals := 55 } : Room).cells ({ frames := 4, cells := 1, slots := 2752, locals := 55 } : Room).slots) := by
  refine MetFree.of_bodySF (plainFor_of_name pn_6) hisR ?_
  intro p e s m args below meth c s₁ Bd hml0 hP hK
  obtain ⟨rfl, hZ, hh, hC0⟩ := hP
  have hx := Bd.exec
  have hby := Bd.bytes
  have hml : c.maxLocals = 2 := hml0
  have hown : s.vm.findClass "java/lang/Exception" = some m.cls := findClass_of_methodNamed Bd.named
  have hnm := (name_of_methodNamed Bd.named Bd.method).1
  have X0 : Stand p l e ({ frames := 4, cells := 1, slots := 2752, locals := 55 } : Room) (s.setVm s.vm) m #[(.ref r0), (.ref r1)] below meth c s₁ [] 0 0 := Stand.of_body Bd
  have e0 : s₁.heap = h0 := by rw [← hh, Bd.state]; rfl
  have N0 := Fr.nil n0
  have pre0 : ∀ t, Steps p.tables e below (s₁.setTop (mkF m 0 #[vr r0, vr r1] [])) t → Steps p.tables e below (s₁.setTop (entryFrame m #[(.ref r0), (.ref r1)] 2)) t := fun t k => castTop (ef_28 m r0 r1) k
  have hS0 : s.Since s.vm 0 := (State.WarmedH.refl s).since _
  have hk0 : 0 ≤ h0.size := Nat.zero_le _
  have R0 := CHr.refl hC0
  obtain ⟨_, _, ⟨T1, Lw1, kw1, nw1⟩, -, X1', hS1', hg1, ⟨Lc1, hQ1, lq1, yq1, zq1, CH1⟩, st1⟩ := X0.specialBackS hx (y := M29) rfl hown (mvT hZ (wd hw 184 rfl)) (mvT hZ (wd hw 185 rfl)) (mvT hZ (wd hw 189 rfl)) (by decide) (backOfSKH (W := 0) (rmThr l Z a0 hw [] r0 r1 zc vu vq h0 n0 Z0 uO uS uP uLt uZu uRu uZs uRs uE uU uca ust usu ubt udm ux0 ux1 ug) hZ (wd hw 189 rfl) (wd hw 188 rfl) (by decide) (by decide) (own_EW hw) hC0 (Vm.MethodsKnown.alikeC hS0.1.alike hK.1) (Vm.FramesKnown.alikeC hS0.1.alike hK.2)) (g := (mkF m 2 #[vr r0, vr r1] [(.ref r1), (.ref r0)])) rfl (by rw [hml]; rfl) (Steps.refl _) (a := r0) (argsL := [(.ref r1)]) (rest := []) (lenOf pd_3 rfl) rfl (by show 2 * 0 + _ ≤ _; exact Nat.le_of_eq rfl) (hb hby d32_2) (fun _ _ => ⟨rfl, e0, (by decide : 0 + 1 ≤ _), (by decide : 0 + 2752 ≤ _)⟩)
  dsimp only [Pt.U, Pt.locs, Pt.cells, Pt.slots] at X1' hS1' hg1 lq1 yq1 zq1 st1 hQ1 CH1
  have X1' := own_reb X1' lq1 yq1 zq1
  obtain ⟨X1, hS1, hZ1, hown1⟩ := rebS hS0 (own_hk e0 hk0) X1' hS1' hg1 hZ hown
  obtain ⟨rfl, Nq1, Kq1, f1_0, f1_1, f1_2⟩ := hQ1
  have N1 := Fr.app N0 Nq1
  have Re2 := R0.trans CH1
  have hCe2 := Re2.1
  have K1 : Keep h0 T1.heap [r0] := (Keep.refl h0 [r0]).trans Kq1 (allS (Or.inl (List.mem_of_getElem? (i := 0) rfl)) all0)
  have Z1 : n0 ≤ T1.heap.size := Nat.le_trans Z0 Kq1.1
  have hk1 : T1.heap.size ≤ T1.heap.size := Nat.le_refl _
  obtain ⟨fs, hr, hrun, hended, en1, en2, en3, en4⟩ := X1.leaveW hS1 (own_hk rfl hk1) (v := none) (fun _ => rfl)
  refine ⟨_, _, pre0 _ ?_, hrun, hended, _, _, rfl, ?_, own_chr (T := T1) hh rfl (Re2.trans (CHv.at X1 hZ1 (own_EW hw) hCe2)), en1, en2, en3, en4.mono (by decide) (by decide)⟩
  · show SS p e below s₁ (mkF m 0 #[vr r0, vr r1] []) _
    refine XS.aloadN X0.here hx rfl (hb hby d32_0) rfl rfl ?_
    refine XS.aloadN X0.here hx rfl (hb hby d32_1) rfl rfl ?_
    show SS p e below s₁ (mkF m 2 #[vr r0, vr r1] [(.ref r1), (.ref r0)]) _
    refine st1.trans ?_
    exact X1.returnOut hx Bd.returns (hb hby d32_5) hr
  · show Q_rmException Z r0 r1 zc vu vq h0 n0 _ T1.heap _
    exact ⟨rfl, N1, K1, f1_0, f1_1, f1_2⟩
theorem ef_29 (m : MethodId) (x0 : Addr) (x1 : Addr) : entryFrame m #[(.ref x0), (.ref x1)] 2 = mkF m 0 #[vr x0, vr x1] [] := by first | (simp [entryFrame, mkF, argsToLocals, Value.category]; done) | rfl
theorem pn_7 : plainName "java/lang/RuntimeException" = true := by first | (simp [plainName, overriddenIn]; done) | decide +kernel
theorem d31_0 : decode jdk_58_method_2_code 0 = .ok (.aload_n 0, 1) := by decide +kernel
theorem d31_1 : decode jdk_58_method_2_code 1 = .ok (.aload_n 1, 1) := by decide +kernel
theorem d31_2 : decode jdk_58_method_2_code 2 = .ok (.invokespecial 7, 3) := by decide +kernel
theorem d31_5 : decode jdk_58_method_2_code 5 = .ok (.return_, 1) := by decide +kernel
def Q_rmRuntimeException (Z : State) (r0 : Addr) (r1 : Addr) (zc : Int32) (vu : Value) (vq : Value) (h0 : Heap) (n0 : Nat) (v : Option Value) (h : Heap) (L : List Loc) : Prop := (v = none ∧ Fr n0 L ∧ Keep h0 h [r0] ∧ Fld Z h r0 "java/lang/Throwable" "detailMessage" "Ljava/lang/String;" (.ref r1) ∧ Fld Z h r0 "com/example/plain_hub/plainhub/HubException" "status" "I" z0 ∧ Fld Z h r0 "com/example/plain_hub/plainhub/HubException" "code" "I" z0)
set_option maxRecDepth 65536 in
set_option maxHeartbeats 40000000 in
theorem rmRuntimeException (l : Launch) (Z : State) (a0 : Array Value) (hw : ∀ d ∈ tables_1, d.before a0 Z = true) (ws : List Jvm.Cond) (r0 : Addr) (r1 : Addr) (zc : Int32) (vu : Value) (vq : Value) (h0 : Heap) (n0 : Nat) (Z0 : n0 ≤ h0.size) (uO : Old Z n0 h0) (uS : Sta Z Z.heap "java/lang/String" "COMPACT_STRINGS" "Z" (.int zc)) (uP : ¬ zc = 0) (uLt : l.stackTraces = true) (uZu : Sta Z Z.heap "java/lang/Throwable" "UNASSIGNED_STACK" "[Ljava/lang/StackTraceElement;" vu) (uRu : vu.isRef = true) (uZs : Sta Z Z.heap "java/lang/Throwable" "SUPPRESSED_SENTINEL" "Ljava/util/List;" vq) (uRs : vq.isRef = true) (uE : Exa Z h0 r0 "com/example/plain_hub/plainhub/HubException") (uU : Unt h0 r0) (uca : Fld Z h0 r0 "java/lang/Throwable" "cause" "Ljava/lang/Throwable;" .null) (ust : Fld Z h0 r0 "java/lang/Throwable" "stackTrace" "[Ljava/lang/StackTraceElement;" .null) (usu : Fld Z h0 r0 "java/lang/Throwable" "suppressedExceptions" "Ljava/util/List;" .null) (ubt : Fld Z h0 r0 "java/lang/Throwable" "backtrace" "Ljava/lang/Object;" .null) (udm : Fld Z h0 r0 "java/lang/Throwable" "detailMessage" "Ljava/lang/String;" .null) (ux0 : Fld Z h0 r0 "com/example/plain_hub/plainhub/HubException" "status" "I" z0) (ux1 : Fld Z h0 r0 "com/example/plain_hub/plainhub/HubException" "code" "I" z0) (ug : n0 ≤ r0) :
    MetFree l M31 (head1 (Jvm.Cond.code M31 jdk_58_method_2_code 2 none :: ws) ({ frames := 5, cells := 1, slots := 2752, locals := 68 } : Room)) (fun a U => a = #[(.ref r0), (.ref r1)] ∧ Z.Warmed39 U.vm ∧ U.heap = h0 ∧ CHv Z own_EL U.vm h0) (fun _ _ bl s _ => s.vm.MethodsKnown ∧ s.vm.FramesKnown bl) (fun _ U o U' => ∃ v L, o = .returned v ∧ Q_rmRuntimeException Z r0 r1 zc vu vq h0 n0 v U'.heap L ∧ CHr Z own_EL U.vm U.heap U'.vm U'.heap ∧ ReturnedEndW U o U' L ({ frames := 5, cells := 1, slots := 2752, locals := 68 } : Room).cells ({ frames := 5, cells := 1, slots := 2752, locals := 68 } : Room).slots) := by
  refine MetFree.of_bodySF (plainFor_of_name pn_7) hisR ?_
  intro p e s m args below meth c s₁ Bd hml0 hP hK
  obtain ⟨rfl, hZ, hh, hC0⟩ := hP
  have hx := Bd.exec
  have hby := Bd.bytes
  have hml : c.maxLocals = 2 := hml0
  have hown : s.vm.findClass "java/lang/RuntimeException" = some m.cls := findClass_of_methodNamed Bd.named
  have hnm := (name_of_methodNamed Bd.named Bd.method).1
  have X0 : Stand p l e ({ frames := 5, cells := 1, slots := 2752, locals := 68 } : Room) (s.setVm s.vm) m #[(.ref r0), (.ref r1)] below meth c s₁ [] 0 0 := Stand.of_body Bd
  have e0 : s₁.heap = h0 := by rw [← hh, Bd.state]; rfl
  have N0 := Fr.nil n0
  have pre0 : ∀ t, Steps p.tables e below (s₁.setTop (mkF m 0 #[vr r0, vr r1] [])) t → Steps p.tables e below (s₁.setTop (entryFrame m #[(.ref r0), (.ref r1)] 2)) t := fun t k => castTop (ef_29 m r0 r1) k
  have hS0 : s.Since s.vm 0 := (State.WarmedH.refl s).since _
  have hk0 : 0 ≤ h0.size := Nat.zero_le _
  have R0 := CHr.refl hC0
  obtain ⟨_, _, ⟨T1, Lw1, kw1, nw1⟩, -, X1', hS1', hg1, ⟨Lc1, hQ1, lq1, yq1, zq1, CH1⟩, st1⟩ := X0.specialBackS hx (y := M30) rfl hown (mvT hZ (wd hw 178 rfl)) (mvT hZ (wd hw 179 rfl)) (mvT hZ (wd hw 183 rfl)) (by decide) (backOfSKH (W := 0) (rmException l Z a0 hw [] r0 r1 zc vu vq h0 n0 Z0 uO uS uP uLt uZu uRu uZs uRs uE uU uca ust usu ubt udm ux0 ux1 ug) hZ (wd hw 183 rfl) (wd hw 182 rfl) (by decide) (by decide) (own_EW hw) hC0 (Vm.MethodsKnown.alikeC hS0.1.alike hK.1) (Vm.FramesKnown.alikeC hS0.1.alike hK.2)) (g := (mkF m 2 #[vr r0, vr r1] [(.ref r1), (.ref r0)])) rfl (by rw [hml]; rfl) (Steps.refl _) (a := r0) (argsL := [(.ref r1)]) (rest := []) (lenOf pd_3 rfl) rfl (by show 2 * 0 + _ ≤ _; exact Nat.le_of_eq rfl) (hb hby d31_2) (fun _ _ => ⟨rfl, e0, (by decide : 0 + 1 ≤ _), (by decide : 0 + 2752 ≤ _)⟩)
  dsimp only [Pt.U, Pt.locs, Pt.cells, Pt.slots] at X1' hS1' hg1 lq1 yq1 zq1 st1 hQ1 CH1
  have X1' := own_reb X1' lq1 yq1 zq1
  obtain ⟨X1, hS1, hZ1, hown1⟩ := rebS hS0 (own_hk e0 hk0) X1' hS1' hg1 hZ hown
  obtain ⟨rfl, Nq1, Kq1, f1_0, f1_1, f1_2⟩ := hQ1
  have N1 := Fr.app N0 Nq1
  have Re2 := R0.trans CH1
  have hCe2 := Re2.1
  have K1 : Keep h0 T1.heap [r0] := (Keep.refl h0 [r0]).trans Kq1 (allS (Or.inl (List.mem_of_getElem? (i := 0) rfl)) all0)
  have Z1 : n0 ≤ T1.heap.size := Nat.le_trans Z0 Kq1.1
  have hk1 : T1.heap.size ≤ T1.heap.size := Nat.le_refl _
  obtain ⟨fs, hr, hrun, hended, en1, en2, en3, en4⟩ := X1.leaveW hS1 (own_hk rfl hk1) (v := none) (fun _ => rfl)
  refine ⟨_, _, pre0 _ ?_, hrun, hended, _, _, rfl, ?_, own_chr (T := T1) hh rfl (Re2.trans (CHv.at X1 hZ1 (own_EW hw) hCe2)), en1, en2, en3, en4.mono (by decide) (by decide)⟩
  · show SS p e below s₁ (mkF m 0 #[vr r0, vr r1] []) _
    refine XS.aloadN X0.here hx rfl (hb hby d31_0) rfl rfl ?_
    refine XS.aloadN X0.here hx rfl (hb hby d31_1) rfl rfl ?_
    show SS p e below s₁ (mkF m 2 #[vr r0, vr r1] [(.ref r1), (.ref r0)]) _
    refine st1.trans ?_
    exact X1.returnOut hx Bd.returns (hb hby d31_5) hr
  · show Q_rmRuntimeException Z r0 r1 zc vu vq h0 n0 _ T1.heap _
    exact ⟨rfl, N1, K1, f1_0, f1_1, f1_2⟩
theorem ef_30 (m : MethodId) (x0 : Addr) (x1 : Int32) (x2 : Int32) (x3 : Addr) : entryFrame m #[(.ref x0), (.int x1), (.int x2), (.ref x3)] 4 = mkF m 0 #[vr x0, vi x1, vi x2, vr x3] [] := by first | (simp [entryFrame, mkF, argsToLocals, Value.category]; done) | rfl
theorem pn_8 : plainName "com/example/plain_hub/plainhub/HubException" = true := by first | (simp [plainName, overriddenIn]; done) | decide +kernel
theorem d30_0 : decode prog_2_method_1_code 0 = .ok (.aload_n 0, 1) := by decide +kernel
theorem d30_1 : decode prog_2_method_1_code 1 = .ok (.aload_n 3, 1) := by decide +kernel
theorem d30_2 : decode prog_2_method_1_code 2 = .ok (.invokespecial 1, 3) := by decide +kernel
theorem d30_5 : decode prog_2_method_1_code 5 = .ok (.aload_n 0, 1) := by decide +kernel
theorem d30_6 : decode prog_2_method_1_code 6 = .ok (.iload_n 1, 1) := by decide +kernel
theorem d30_7 : decode prog_2_method_1_code 7 = .ok (.putfield 7, 3) := by decide +kernel
theorem d30_10 : decode prog_2_method_1_code 10 = .ok (.aload_n 0, 1) := by decide +kernel
theorem d30_11 : decode prog_2_method_1_code 11 = .ok (.iload_n 2, 1) := by decide +kernel
theorem d30_12 : decode prog_2_method_1_code 12 = .ok (.putfield 13, 3) := by decide +kernel
theorem d30_15 : decode prog_2_method_1_code 15 = .ok (.return_, 1) := by decide +kernel
def Q_rmX (Z : State) (r0 : Addr) (p1 : Int32) (p2 : Int32) (r3 : Addr) (zc : Int32) (vu : Value) (vq : Value) (h0 : Heap) (n0 : Nat) (v : Option Value) (h : Heap) (L : List Loc) : Prop := (v = none ∧ Fr n0 L ∧ Keep h0 h [r0] ∧ Fld Z h r0 "com/example/plain_hub/plainhub/HubException" "status" "I" (.int p1) ∧ Fld Z h r0 "com/example/plain_hub/plainhub/HubException" "code" "I" (.int p2) ∧ Fld Z h r0 "java/lang/Throwable" "detailMessage" "Ljava/lang/String;" (.ref r3))
set_option maxRecDepth 65536 in
set_option maxHeartbeats 40000000 in
theorem rmX (l : Launch) (Z : State) (a0 : Array Value) (hw : ∀ d ∈ tables_1, d.before a0 Z = true) (ws : List Jvm.Cond) (r0 : Addr) (p1 : Int32) (p2 : Int32) (r3 : Addr) (zc : Int32) (vu : Value) (vq : Value) (h0 : Heap) (n0 : Nat) (Z0 : n0 ≤ h0.size) (uO : Old Z n0 h0) (uS : Sta Z Z.heap "java/lang/String" "COMPACT_STRINGS" "Z" (.int zc)) (uP : ¬ zc = 0) (uLt : l.stackTraces = true) (uZu : Sta Z Z.heap "java/lang/Throwable" "UNASSIGNED_STACK" "[Ljava/lang/StackTraceElement;" vu) (uRu : vu.isRef = true) (uZs : Sta Z Z.heap "java/lang/Throwable" "SUPPRESSED_SENTINEL" "Ljava/util/List;" vq) (uRs : vq.isRef = true) (uE : Exa Z h0 r0 "com/example/plain_hub/plainhub/HubException") (uU : Unt h0 r0) (uca : Fld Z h0 r0 "java/lang/Throwable" "cause" "Ljava/lang/Throwable;" .null) (ust : Fld Z h0 r0 "java/lang/Throwable" "stackTrace" "[Ljava/lang/StackTraceElement;" .null) (usu : Fld Z h0 r0 "java/lang/Throwable" "suppressedExceptions" "Ljava/util/List;" .null) (ubt : Fld Z h0 r0 "java/lang/Throwable" "backtrace" "Ljava/lang/Object;" .null) (udm : Fld Z h0 r0 "java/lang/Throwable" "detailMessage" "Ljava/lang/String;" .null) (ux0 : Fld Z h0 r0 "com/example/plain_hub/plainhub/HubException" "status" "I" z0) (ux1 : Fld Z h0 r0 "com/example/plain_hub/plainhub/HubException" "code" "I" z0) (ug : n0 ≤ r0) :
    MetFree l M32 (head1 (Jvm.Cond.code M32 prog_2_method_1_code 4 none :: ws) ({ frames := 6, cells := 1, slots := 2752, locals := 81 } : Room)) (fun a U => a = #[(.ref r0), (.int p1), (.int p2), (.ref r3)] ∧ Z.Warmed39 U.vm ∧ U.heap = h0 ∧ CHv Z own_EL U.vm h0) (fun _ _ bl s _ => s.vm.MethodsKnown ∧ s.vm.FramesKnown bl) (fun _ U o U' => ∃ v L, o = .returned v ∧ Q_rmX Z r0 p1 p2 r3 zc vu vq h0 n0 v U'.heap L ∧ CHr Z own_EL U.vm U.heap U'.vm U'.heap ∧ ReturnedEndW U o U' L ({ frames := 6, cells := 1, slots := 2752, locals := 81 } : Room).cells ({ frames := 6, cells := 1, slots := 2752, locals := 81 } : Room).slots) := by
  refine MetFree.of_bodySF (plainFor_of_name pn_8) hisR ?_
  intro p e s m args below meth c s₁ Bd hml0 hP hK
  obtain ⟨rfl, hZ, hh, hC0⟩ := hP
  have hx := Bd.exec
  have hby := Bd.bytes
  have hml : c.maxLocals = 4 := hml0
  have hown : s.vm.findClass "com/example/plain_hub/plainhub/HubException" = some m.cls := findClass_of_methodNamed Bd.named
  have hnm := (name_of_methodNamed Bd.named Bd.method).1
  have X0 : Stand p l e ({ frames := 6, cells := 1, slots := 2752, locals := 81 } : Room) (s.setVm s.vm) m #[(.ref r0), (.int p1), (.int p2), (.ref r3)] below meth c s₁ [] 0 0 := Stand.of_body Bd
  have e0 : s₁.heap = h0 := by rw [← hh, Bd.state]; rfl
  have N0 := Fr.nil n0
  have pre0 : ∀ t, Steps p.tables e below (s₁.setTop (mkF m 0 #[vr r0, vi p1, vi p2, vr r3] [])) t → Steps p.tables e below (s₁.setTop (entryFrame m #[(.ref r0), (.int p1), (.int p2), (.ref r3)] 4)) t := fun t k => castTop (ef_30 m r0 p1 p2 r3) k
  have hS0 : s.Since s.vm 0 := (State.WarmedH.refl s).since _
  have hk0 : 0 ≤ h0.size := Nat.zero_le _
  have R0 := CHr.refl hC0
  obtain ⟨_, _, ⟨T1, Lw1, kw1, nw1⟩, -, X1', hS1', hg1, ⟨Lc1, hQ1, lq1, yq1, zq1, CH1⟩, st1⟩ := X0.specialBackS hx (y := M31) rfl hown (mvT hZ (wd hw 173 rfl)) (mvT hZ (wd hw 174 rfl)) (mvT hZ (wd hw 177 rfl)) (by decide) (backOfSKH (W := 0) (rmRuntimeException l Z a0 hw [] r0 r3 zc vu vq h0 n0 Z0 uO uS uP uLt uZu uRu uZs uRs uE uU uca ust usu ubt udm ux0 ux1 ug) hZ (wd hw 177 rfl) (wd hw 176 rfl) (by decide) (by decide) (own_EW hw) hC0 (Vm.MethodsKnown.alikeC hS0.1.alike hK.1) (Vm.FramesKnown.alikeC hS0.1.alike hK.2)) (g := (mkF m 2 #[vr r0, vi p1, vi p2, vr r3] [(.ref r3), (.ref r0)])) rfl (by rw [hml]; rfl) (Steps.refl _) (a := r0) (argsL := [(.ref r3)]) (rest := []) (lenOf pd_3 rfl) rfl (by show 2 * 0 + _ ≤ _; exact Nat.le_of_eq rfl) (hb hby d30_2) (fun _ _ => ⟨rfl, e0, (by decide : 0 + 1 ≤ _), (by decide : 0 + 2752 ≤ _)⟩)
  dsimp only [Pt.U, Pt.locs, Pt.cells, Pt.slots] at X1' hS1' hg1 lq1 yq1 zq1 st1 hQ1 CH1
  have X1' := own_reb X1' lq1 yq1 zq1
  obtain ⟨X1, hS1, hZ1, hown1⟩ := rebS hS0 (own_hk e0 hk0) X1' hS1' hg1 hZ hown
  obtain ⟨rfl, Nq1, Kq1, f1_0, f1_1, f1_2⟩ := hQ1
  have N1 := Fr.app N0 Nq1
  have Re2 := R0.trans CH1
  have hCe2 := Re2.1
  have K1 : Keep h0 T1.heap [r0] := (Keep.refl h0 [r0]).trans Kq1 (allS (Or.inl (List.mem_of_getElem? (i := 0) rfl)) all0)
  have Z1 : n0 ≤ T1.heap.size := Nat.le_trans Z0 Kq1.1
  have hk1 : T1.heap.size ≤ T1.heap.size := Nat.le_refl _
  have c4 := (uE.keep Kq1)
  obtain ⟨T3, h3, X3, e3, W3, st3⟩ := putF X1 hx hZ1 hown1 (host := "") (Or.inl (wd hw 227 rfl)) Via.refl rfl f1_1 c4 (Or.inr ⟨(wd hw 228 rfl), rfl, hnm⟩) (wd hw 5 rfl) (ty := .int) (by decide) rfl rfl (g := (mkF m 7 #[vr r0, vi p1, vi p2, vr r3] [(.int p1), (.ref r0)])) rfl rfl (hb hby d30_7)
  have Re5 := Re2.trans (CHr.wr W3 (Safe.exa hZ1.alike c4 (by decide) (by decide)) hCe2)
  have hCe5 := Re5.1
  have Fw3 := f1_1.same W3
  have N3 := Fr.snoc X3 N1 ug
  have K3 : Keep h0 h3 [r0] := K1.wr W3 (Or.inl (List.mem_of_getElem? (i := 0) rfl))
  have Z3 : n0 ≤ h3.size := by rw [W3.size]; exact Z1
  have hk3 := own_szW W3 hk1
  have c7 := (c4.wr W3)
  have c8 := (f1_2.other W3 (Or.inr (slot_ne (Or.inr (wd hw 230 rfl)) (Or.inr (wd hw 228 rfl)) (by decide) (t := .int) (t' := .int) (by decide) (by decide))))
  obtain ⟨T6, h6, X6, e6, W6, st6⟩ := putF X3 hx hZ1 hown1 (host := "") (Or.inl (wd hw 229 rfl)) Via.refl e3 c8 c7 (Or.inr ⟨(wd hw 230 rfl), rfl, hnm⟩) (wd hw 5 rfl) (ty := .int) (by decide) rfl rfl (g := (mkF m 12 #[vr r0, vi p1, vi p2, vr r3] [(.int p2), (.ref r0)])) rfl rfl (hb hby d30_12)
  have Re9 := Re5.trans (CHr.wr W6 (Safe.exa hZ1.alike c7 (by decide) (by decide)) hCe5)
  have hCe9 := Re9.1
  have Fw6 := c8.same W6
  have N6 := Fr.snoc X6 N3 ug
  have K6 : Keep h0 h6 [r0] := K3.wr W6 (Or.inl (List.mem_of_getElem? (i := 0) rfl))
  have Z6 : n0 ≤ h6.size := by rw [W6.size]; exact Z3
  have hk6 := own_szW W6 hk3
  have c10 := (Fw3.other W6 (Or.inr (slot_ne (Or.inr (wd hw 228 rfl)) (Or.inr (wd hw 230 rfl)) (by decide) (t := .int) (t' := .int) (by decide) (by decide))))
  have c11 := ((f1_0.other W3 (Or.inr (slot_ne (Or.inl (wd hw 222 rfl)) (Or.inr (wd hw 228 rfl)) (by decide) (t := (.object "java/lang/String")) (t' := .int) (by decide) (by decide)))).other W6 (Or.inr (slot_ne (Or.inl (wd hw 222 rfl)) (Or.inr (wd hw 230 rfl)) (by decide) (t := (.object "java/lang/String")) (t' := .int) (by decide) (by decide))))
  obtain ⟨fs, hr, hrun, hended, en1, en2, en3, en4⟩ := X6.leaveW hS1 (own_hk e6 hk6) (v := none) (fun _ => rfl)
  refine ⟨_, _, pre0 _ ?_, hrun, hended, _, _, rfl, ?_, own_chr (T := T6) hh e6 (Re9.trans (CHv.at X6 hZ1 (own_EW hw) hCe9)), en1, en2, en3, en4.mono (by decide) (by decide)⟩
  · show SS p e below s₁ (mkF m 0 #[vr r0, vi p1, vi p2, vr r3] []) _
    refine XS.aloadN X0.here hx rfl (hb hby d30_0) rfl rfl ?_
    refine XS.aloadN X0.here hx rfl (hb hby d30_1) rfl rfl ?_
    show SS p e below s₁ (mkF m 2 #[vr r0, vi p1, vi p2, vr r3] [(.ref r3), (.ref r0)]) _
    refine st1.trans ?_
    refine XS.aloadN X1.here hx rfl (hb hby d30_5) rfl rfl ?_
    refine XS.iloadN X1.here hx rfl (hb hby d30_6) rfl ?_
    refine st3 _ ?_
    refine XS.aloadN X3.here hx rfl (hb hby d30_10) rfl rfl ?_
    refine XS.iloadN X3.here hx rfl (hb hby d30_11) rfl ?_
    refine st6 _ ?_
    exact X6.returnOut hx Bd.returns (hb hby d30_15) hr
  · show Q_rmX Z r0 p1 p2 r3 zc vu vq h0 n0 _ T6.heap _
    rw [e6]
    exact ⟨rfl, N6, K6, c10, Fw6, c11⟩
theorem ef_31 (m : MethodId) (x0 : Addr) : entryFrame m #[(.ref x0)] 1 = mkF m 0 #[vr x0] [] := by first | (simp [entryFrame, mkF, argsToLocals, Value.category]; done) | rfl
theorem d38_0 : decode jdk_78_method_6_code 0 = .ok (.aload_n 0, 1) := by decide +kernel
theorem d38_1 : decode jdk_78_method_6_code 1 = .ok (.getfield 31, 3) := by decide +kernel
theorem d38_4 : decode jdk_78_method_6_code 4 = .ok (.areturn, 1) := by decide +kernel
def Q_rmGM (Z : State) (r0 : Addr) (rm : Addr) (h0 : Heap) (n0 : Nat) (v : Option Value) (h : Heap) (L : List Loc) : Prop := (v = some (.ref rm) ∧ Fr n0 L ∧ h = h0)
set_option maxRecDepth 65536 in
set_option maxHeartbeats 40000000 in
theorem rmGM (l : Launch) (Z : State) (a0 : Array Value) (hw : ∀ d ∈ tables_1, d.before a0 Z = true) (ws : List Jvm.Cond) (r0 : Addr) (rm : Addr) (h0 : Heap) (n0 : Nat) (Z0 : n0 ≤ h0.size) (udm : Fld Z h0 r0 "java/lang/Throwable" "detailMessage" "Ljava/lang/String;" (.ref rm)) :
    MetFree l M33 (head1 (Jvm.Cond.code M33 jdk_78_method_6_code 1 (some (.object "java/lang/String")) :: ws) ({ frames := 0, cells := 0, slots := 0, locals := 0 } : Room)) (fun a U => a = #[(.ref r0)] ∧ Z.Warmed39 U.vm ∧ U.heap = h0) (fun _ _ _ _ _ => True) (fun _ U o U' => ∃ v L, o = .returned v ∧ Q_rmGM Z r0 rm h0 n0 v U'.heap L ∧ FrameEnd U o U' L ({ frames := 0, cells := 0, slots := 0, locals := 0 } : Room).cells ({ frames := 0, cells := 0, slots := 0, locals := 0 } : Room).slots) := by
  refine MetFree.of_bodySF (plainFor_of_name pn_5) hisR ?_
  intro p e s m args below meth c s₁ Bd hml0 hP hK
  obtain ⟨rfl, hZ, hh⟩ := hP
  have hx := Bd.exec
  have hby := Bd.bytes
  have hml : c.maxLocals = 1 := hml0
  have hown : s.vm.findClass "java/lang/Throwable" = some m.cls := findClass_of_methodNamed Bd.named
  have hnm := (name_of_methodNamed Bd.named Bd.method).1
  have X0 : Stand p l e ({ frames := 0, cells := 0, slots := 0, locals := 0 } : Room) s m #[(.ref r0)] below meth c s₁ [] 0 0 := Stand.of_body Bd
  have e0 : s₁.heap = h0 := by rw [← hh, Bd.state]; rfl
  have N0 := Fr.nil n0
  have pre0 : ∀ t, Steps p.tables e below (s₁.setTop (mkF m 0 #[vr r0] [])) t → Steps p.tables e below (s₁.setTop (entryFrame m #[(.ref r0)] 1)) t := fun t k => castTop (ef_31 m r0) k
  obtain ⟨T1, X1, e1, st1⟩ := getF X0 hx hZ hown (host := "") (Or.inl (wd hw 226 rfl)) Via.refl e0 udm (g := (mkF m 1 #[vr r0] [(.ref r0)])) rfl rfl (hb hby d38_1)
  obtain ⟨fs, hr, hrun, hended, hW, hsame⟩ := X1.leave (v := some (.ref rm)) (fun h => by rw [Bd.returns] at h; cases h)
  refine ⟨_, _, pre0 _ ?_, hrun, hended, _, _, rfl, ?_, ⟨_, rfl⟩, hW, hsame.mono (by decide) (by decide)⟩
  · show SS p e below s₁ (mkF m 0 #[vr r0] []) _
    refine XS.aloadN X0.here hx rfl (hb hby d38_0) rfl rfl ?_
    refine st1 _ ?_
    exact retOut X1 hx Bd.returns rfl (Or.inr (Or.inr (Or.inr (Or.inr ⟨rfl, rfl, rfl⟩)))) (hb hby d38_4) hr
  · show Q_rmGM Z r0 rm h0 n0 _ T1.heap _
    rw [e1]
    exact ⟨rfl, N0, rfl⟩
theorem ef_32 (m : MethodId) (x0 : Addr) : entryFrame m #[(.ref x0)] 1 = mkF m 0 #[vr x0] [] := by first | (simp [entryFrame, mkF, argsToLocals, Value.category]; done) | rfl
theorem d36_0 : decode prog_2_method_8_code 0 = .ok (.aload_n 0, 1) := by decide +kernel
theorem d36_1 : decode prog_2_method_8_code 1 = .ok (.getfield 7, 3) := by decide +kernel
theorem d36_4 : decode prog_2_method_8_code 4 = .ok (.ireturn, 1) := by decide +kernel
def Q_rmSt (Z : State) (r0 : Addr) (st : Int32) (h0 : Heap) (n0 : Nat) (v : Option Value) (h : Heap) (L : List Loc) : Prop := (v = some (.int st) ∧ Fr n0 L ∧ h = h0)
set_option maxRecDepth 65536 in
set_option maxHeartbeats 40000000 in
theorem rmSt (l : Launch) (Z : State) (a0 : Array Value) (hw : ∀ d ∈ tables_1, d.before a0 Z = true) (ws : List Jvm.Cond) (r0 : Addr) (st : Int32) (h0 : Heap) (n0 : Nat) (Z0 : n0 ≤ h0.size) (uE : Exa Z h0 r0 "com/example/plain_hub/plainhub/HubException") (uof : Fld Z h0 r0 "com/example/plain_hub/plainhub/HubException" "status" "I" (.int st)) :
    MetFree l M34 (head1 (Jvm.Cond.code M34 prog_2_method_8_code 1 (some .int) :: ws) ({ frames := 0, cells := 0, slots := 0, locals := 0 } : Room)) (fun a U => a = #[(.ref r0)] ∧ Z.Warmed39 U.vm ∧ U.heap = h0) (fun _ _ _ _ _ => True) (fun _ U o U' => ∃ v L, o = .returned v ∧ Q_rmSt Z r0 st h0 n0 v U'.heap L ∧ FrameEnd U o U' L ({ frames := 0, cells := 0, slots := 0, locals := 0 } : Room).cells ({ frames := 0, cells := 0, slots := 0, locals := 0 } : Room).slots) := by
  refine MetFree.of_bodySF (plainFor_of_name pn_8) hisR ?_
  intro p e s m args below meth c s₁ Bd hml0 hP hK
  obtain ⟨rfl, hZ, hh⟩ := hP
  have hx := Bd.exec
  have hby := Bd.bytes
  have hml : c.maxLocals = 1 := hml0
  have hown : s.vm.findClass "com/example/plain_hub/plainhub/HubException" = some m.cls := findClass_of_methodNamed Bd.named
  have hnm := (name_of_methodNamed Bd.named Bd.method).1
  have X0 : Stand p l e ({ frames := 0, cells := 0, slots := 0, locals := 0 } : Room) s m #[(.ref r0)] below meth c s₁ [] 0 0 := Stand.of_body Bd
  have e0 : s₁.heap = h0 := by rw [← hh, Bd.state]; rfl
  have N0 := Fr.nil n0
  have pre0 : ∀ t, Steps p.tables e below (s₁.setTop (mkF m 0 #[vr r0] [])) t → Steps p.tables e below (s₁.setTop (entryFrame m #[(.ref r0)] 1)) t := fun t k => castTop (ef_32 m r0) k
  obtain ⟨T1, X1, e1, st1⟩ := getF X0 hx hZ hown (host := "") (Or.inl (wd hw 227 rfl)) Via.refl e0 uof (g := (mkF m 1 #[vr r0] [(.ref r0)])) rfl rfl (hb hby d36_1)
  obtain ⟨fs, hr, hrun, hended, hW, hsame⟩ := X1.leave (v := some (.int st)) (fun h => by rw [Bd.returns] at h; cases h)
  refine ⟨_, _, pre0 _ ?_, hrun, hended, _, _, rfl, ?_, ⟨_, rfl⟩, hW, hsame.mono (by decide) (by decide)⟩
  · show SS p e below s₁ (mkF m 0 #[vr r0] []) _
    refine XS.aloadN X0.here hx rfl (hb hby d36_0) rfl rfl ?_
    refine st1 _ ?_
    exact retI X1 hx Bd.returns (hb hby d36_4) hr
  · show Q_rmSt Z r0 st h0 n0 _ T1.heap _
    rw [e1]
    exact ⟨rfl, N0, rfl⟩
theorem ef_33 (m : MethodId) (x0 : Addr) : entryFrame m #[(.ref x0)] 1 = mkF m 0 #[vr x0] [] := by first | (simp [entryFrame, mkF, argsToLocals, Value.category]; done) | rfl
theorem d37_0 : decode prog_2_method_9_code 0 = .ok (.aload_n 0, 1) := by decide +kernel
theorem d37_1 : decode prog_2_method_9_code 1 = .ok (.getfield 13, 3) := by decide +kernel
theorem d37_4 : decode prog_2_method_9_code 4 = .ok (.ireturn, 1) := by decide +kernel
def Q_rmCo (Z : State) (r0 : Addr) (st : Int32) (h0 : Heap) (n0 : Nat) (v : Option Value) (h : Heap) (L : List Loc) : Prop := (v = some (.int st) ∧ Fr n0 L ∧ h = h0)
set_option maxRecDepth 65536 in
set_option maxHeartbeats 40000000 in
theorem rmCo (l : Launch) (Z : State) (a0 : Array Value) (hw : ∀ d ∈ tables_1, d.before a0 Z = true) (ws : List Jvm.Cond) (r0 : Addr) (st : Int32) (h0 : Heap) (n0 : Nat) (Z0 : n0 ≤ h0.size) (uE : Exa Z h0 r0 "com/example/plain_hub/plainhub/HubException") (uof : Fld Z h0 r0 "com/example/plain_hub/plainhub/HubException" "code" "I" (.int st)) :
    MetFree l M35 (head1 (Jvm.Cond.code M35 prog_2_method_9_code 1 (some .int) :: ws) ({ frames := 0, cells := 0, slots := 0, locals := 0 } : Room)) (fun a U => a = #[(.ref r0)] ∧ Z.Warmed39 U.vm ∧ U.heap = h0) (fun _ _ _ _ _ => True) (fun _ U o U' => ∃ v L, o = .returned v ∧ Q_rmCo Z r0 st h0 n0 v U'.heap L ∧ FrameEnd U o U' L ({ frames := 0, cells := 0, slots := 0, locals := 0 } : Room).cells ({ frames := 0, cells := 0, slots := 0, locals := 0 } : Room).slots) := by
  refine MetFree.of_bodySF (plainFor_of_name pn_8) hisR ?_
  intro p e s m args below meth c s₁ Bd hml0 hP hK
  obtain ⟨rfl, hZ, hh⟩ := hP
  have hx := Bd.exec
  have hby := Bd.bytes
  have hml : c.maxLocals = 1 := hml0
  have hown : s.vm.findClass "com/example/plain_hub/plainhub/HubException" = some m.cls := findClass_of_methodNamed Bd.named
  have hnm := (name_of_methodNamed Bd.named Bd.method).1
  have X0 : Stand p l e ({ frames := 0, cells := 0, slots := 0, locals := 0 } : Room) s m #[(.ref r0)] below meth c s₁ [] 0 0 := Stand.of_body Bd
  have e0 : s₁.heap = h0 := by rw [← hh, Bd.state]; rfl
  have N0 := Fr.nil n0
  have pre0 : ∀ t, Steps p.tables e below (s₁.setTop (mkF m 0 #[vr r0] [])) t → Steps p.tables e below (s₁.setTop (entryFrame m #[(.ref r0)] 1)) t := fun t k => castTop (ef_33 m r0) k
  obtain ⟨T1, X1, e1, st1⟩ := getF X0 hx hZ hown (host := "") (Or.inl (wd hw 229 rfl)) Via.refl e0 uof (g := (mkF m 1 #[vr r0] [(.ref r0)])) rfl rfl (hb hby d37_1)
  obtain ⟨fs, hr, hrun, hended, hW, hsame⟩ := X1.leave (v := some (.int st)) (fun h => by rw [Bd.returns] at h; cases h)
  refine ⟨_, _, pre0 _ ?_, hrun, hended, _, _, rfl, ?_, ⟨_, rfl⟩, hW, hsame.mono (by decide) (by decide)⟩
  · show SS p e below s₁ (mkF m 0 #[vr r0] []) _
    refine XS.aloadN X0.here hx rfl (hb hby d37_0) rfl rfl ?_
    refine st1 _ ?_
    exact retI X1 hx Bd.returns (hb hby d37_4) hr
  · show Q_rmCo Z r0 st h0 n0 _ T1.heap _
    rw [e1]
    exact ⟨rfl, N0, rfl⟩
theorem ef_34 (m : MethodId) (x0 : Addr) (x1 : Addr) : entryFrame m #[(.ref x0), (.ref x1), z0, z0] 4 = mkF m 0 #[vr x0, vr x1, vi (0 : Int32), vi (0 : Int32)] [] := by first | (simp [entryFrame, mkF, argsToLocals, Value.category]; done) | rfl
def Q_rm_gb_0_27_34 (Z : State) (r0 : Addr) (r1 : Addr) (zc : Int32) (rt : Addr) (kt : ClassId) (vt : List Value) (kd : ClassId) (vd : List Value) (h0 : Heap) (n0 : Nat) (v : Option Value) (h : Heap) (L : List Loc) : Prop := ∃ (nv : List Value), (v = none ∧ Fr n0 L ∧ Keep h0 h [r1] ∧ Arv Z h r1 kd .byte (34 : Int32) nv z0 ∧ nv.length = 34 ∧ nv = own_put 0 27 vd vt)
set_option maxRecDepth 65536 in
set_option maxHeartbeats 40000000 in
theorem rm_gb_0_27_34 (l : Launch) (Z : State) (a0 : Array Value) (hw : ∀ d ∈ tables_1, d.before a0 Z = true) (ws : List Jvm.Cond) (r0 : Addr) (r1 : Addr) (zc : Int32) (rt : Addr) (kt : ClassId) (vt : List Value) (kd : ClassId) (vd : List Value) (h0 : Heap) (n0 : Nat) (Z0 : n0 ≤ h0.size) (uO : Old Z n0 h0) (uS : Sta Z Z.heap "java/lang/String" "COMPACT_STRINGS" "Z" (.int zc)) (uP : ¬ zc = 0) (us : Exa Z h0 r0 "java/lang/String") (usv : Fld Z h0 r0 "java/lang/String" "value" "[B" (.ref rt)) (usc : Fld Z h0 r0 "java/lang/String" "coder" "B" z0) (usV : Arv Z h0 rt kt .byte (27 : Int32) vt z0) (uVd : Arv Z h0 r1 kd .byte (34 : Int32) vd z0) (uL : vd.length = 34) (ug : n0 ≤ r1) :
    MetFree l M13 (head1 (Jvm.Cond.code M13 jdk_42_method_147_code 4 none :: ws) ({ frames := 1, cells := 0, slots := 0, locals := 18 } : Room)) (fun a U => a = #[(.ref r0), (.ref r1), z0, z0] ∧ Z.Warmed39 U.vm ∧ U.heap = h0) (fun _ _ _ _ _ => True) (fun _ U o U' => ∃ v L, o = .returned v ∧ Q_rm_gb_0_27_34 Z r0 r1 zc rt kt vt kd vd h0 n0 v U'.heap L ∧ FrameEnd U o U' L ({ frames := 1, cells := 0, slots := 0, locals := 18 } : Room).cells ({ frames := 1, cells := 0, slots := 0, locals := 18 } : Room).slots) := by
  refine MetFree.of_bodySF (plainFor_of_name pn_0) hisR ?_
  intro p e s m args below meth c s₁ Bd hml0 hP hK
  obtain ⟨rfl, hZ, hh⟩ := hP
  have hx := Bd.exec
  have hby := Bd.bytes
  have hml : c.maxLocals = 4 := hml0
  have hown : s.vm.findClass "java/lang/String" = some m.cls := findClass_of_methodNamed Bd.named
  have hnm := (name_of_methodNamed Bd.named Bd.method).1
  have X0 : Stand p l e ({ frames := 1, cells := 0, slots := 0, locals := 18 } : Room) s m #[(.ref r0), (.ref r1), z0, z0] below meth c s₁ [] 0 0 := Stand.of_body Bd
  have e0 : s₁.heap = h0 := by rw [← hh, Bd.state]; rfl
  have N0 := Fr.nil n0
  have pre0 : ∀ t, Steps p.tables e below (s₁.setTop (mkF m 0 #[vr r0, vr r1, vi (0 : Int32), vi (0 : Int32)] [])) t → Steps p.tables e below (s₁.setTop (entryFrame m #[(.ref r0), (.ref r1), z0, z0] 4)) t := fun t k => castTop (ef_34 m r0 r1) k
  obtain ⟨cq1, kq1, q1a, q1b, q1c⟩ := isOf hZ e0 us
  obtain ⟨_, _, ⟨T1, Lw1, kw1, nw1⟩, -, X1, ⟨Lc1, hQ1, lq1, yq1, zq1⟩, st1⟩ := X0.virtualBack hx (y := M2) (z := M2) hown (mvT hZ (wd hw 50 rfl)) (mvT hZ (wd hw 51 rfl)) (notFace_of_selects (args := #[]) (mvT hZ (wd hw 53 rfl))) (mvT hZ (wd hw 53 rfl)) (mvT hZ (wd hw 52 rfl)) (by decide) (backOf (W := 0) (rmCoder l Z a0 hw [] r0 zc h0 n0 Z0 uO uS uP usc) hZ (wd hw 54 rfl) (wd hw 22 rfl) (by decide) (by decide)) q1a q1c (g := (mkF m 1 #[vr r0, vr r1, vi (0 : Int32), vi (0 : Int32)] [(.ref r0)])) rfl (by rw [hml]; rfl) (Steps.refl _) (argsL := []) (rest := []) (lenOf pd_0 rfl) rfl (by show 2 * 0 + _ ≤ _; exact Nat.le_of_eq rfl) (hb hby d17_1) (fun _ _ => ⟨rfl, e0, (by decide : 0 + 0 ≤ _), (by decide : 0 + 0 ≤ _)⟩)
  dsimp only [Pt.U, Pt.locs, Pt.cells, Pt.slots] at X1 lq1 yq1 zq1 st1 hQ1
  have X1 := own_reb X1 lq1 yq1 zq1
  obtain ⟨rfl, Nq1, eh1⟩ := hQ1
  have N1 := Fr.app N0 Nq1
  obtain ⟨T2, X2, e2, st2⟩ := getF X1 hx hZ hown (host := "") (Or.inl (wd hw 49 rfl)) Via.refl eh1 usv (g := (mkF m 9 #[vr r0, vr r1, vi (0 : Int32), vi (0 : Int32)] [(.ref r0)])) rfl rfl (hb hby d17_9)
  obtain ⟨T3, X3, e3, st3⟩ := getF X2 hx hZ hown (host := "") (Or.inl (wd hw 49 rfl)) Via.refl e2 usv (g := (mkF m 18 #[vr r0, vr r1, vi (0 : Int32), vi (0 : Int32)] [(.ref r0), z0, (.ref r1), z0, (.ref rt)])) rfl rfl (hb hby d17_18)
  obtain ⟨cl4, Ar4, q4, S4, Nn4, H4, G4⟩ := (id usV)
  obtain ⟨T5, h5, L5, X5, e5, N5, Kq5, V5, st5⟩ := cpA X3 hx hZ hown (wd hw 106 rfl) (wd hw 89 rfl) (wd hw 87 rfl) (wd hw 88 rfl) e3 (us := ((List.range ((27 : Int32)).toNatClampNeg).map fun i => List.getD vt (((0 : Int32)).toNatClampNeg + i) z0)) usV uVd (Or.inl ⟨rfl, rfl⟩) (by decide) (by decide) (by decide) (by decide) (by decide) rfl (by rw [uL]; decide) N1 ug (g := (mkF m 22 #[vr r0, vr r1, vi (0 : Int32), vi (0 : Int32)] [(vI 27), z0, (.ref r1), z0, (.ref rt)])) rfl (by rw [hml]; rfl) rfl (hb hby d17_22) (by decide) (W := 0) (by show 2 * 0 + _ ≤ _; exact Nat.le_of_eq rfl) (by decide)
  have K5 : Keep h0 h5 [r1] := (Keep.refl h0 [r1]).trans Kq5 (allS (Or.inl (List.mem_of_getElem? (i := 0) rfl)) all0)
  have Z5 : n0 ≤ h5.size := Nat.le_trans Z0 Kq5.1
  obtain ⟨fs, hr, hrun, hended, hW, hsame⟩ := X5.leave (v := none) (fun _ => rfl)
  refine ⟨_, _, pre0 _ ?_, hrun, hended, _, _, rfl, ?_, ⟨_, rfl⟩, hW, hsame.mono (by decide) (by decide)⟩
  · show SS p e below s₁ (mkF m 0 #[vr r0, vr r1, vi (0 : Int32), vi (0 : Int32)] []) _
    refine XS.aloadN X0.here hx rfl (hb hby d17_0) rfl rfl ?_
    show SS p e below s₁ (mkF m 1 #[vr r0, vr r1, vi (0 : Int32), vi (0 : Int32)] [(.ref r0)]) _
    refine st1.trans ?_
    refine XS.iloadN X1.here hx rfl (hb hby d17_4) rfl ?_
    show SS p e below T1 (mkF m 5 #[vr r0, vr r1, vi (0 : Int32), vi (0 : Int32)] [z0, z0]) _
    refine XS.icmpNo X1.here hx rfl (hb hby d17_5) rfl (teq (by decide : (0 : Int32) = (0 : Int32))).2 ?_
    refine XS.aloadN X1.here hx rfl (hb hby d17_8) rfl rfl ?_
    refine st2 _ ?_
    refine XS.iconst X2.here hx rfl (hb hby d17_12) ?_
    refine XS.aloadN X2.here hx rfl (hb hby d17_13) rfl rfl ?_
    refine XS.iloadN X2.here hx rfl (hb hby d17_14) rfl ?_
    refine XS.iloadN X2.here hx rfl (hb hby d17_15) rfl ?_
    show SS p e below T2 (mkF m 16 #[vr r0, vr r1, vi (0 : Int32), vi (0 : Int32)] [z0, z0, (.ref r1), z0, (.ref rt)]) _
    refine XS.ishl X2.here hx rfl (hb hby d17_16) rfl ?_
    show SS p e below T2 (mkF m 17 #[vr r0, vr r1, vi (0 : Int32), vi (0 : Int32)] [(.int ((0 : Int32) <<< ((0 : Int32) &&& 31))), (.ref r1), z0, (.ref rt)]) _
    rw [(show ((0 : Int32) <<< ((0 : Int32) &&& 31)) = (0 : Int32) from by decide)]
    refine XS.aloadN X2.here hx rfl (hb hby d17_17) rfl rfl ?_
    refine st3 _ ?_
    show SS p e below T3 (mkF m 21 #[vr r0, vr r1, vi (0 : Int32), vi (0 : Int32)] [(.ref rt), z0, (.ref r1), z0, (.ref rt)]) _
    refine X3.arraylength hx (own_at e3 Ar4.1) (State.isArrayOf_alike hZ.alike Ar4.2.1) (g := (mkF m 21 #[vr r0, vr r1, vi (0 : Int32), vi (0 : Int32)] [(.ref rt), z0, (.ref r1), z0, (.ref rt)])) rfl rfl (hb hby d17_21) _ ?_
    rw [len_of S4 Nn4]
    show SS p e below T3 (mkF m 22 #[vr r0, vr r1, vi (0 : Int32), vi (0 : Int32)] [(vI 27), z0, (.ref r1), z0, (.ref rt)]) _
    refine st5 _ ?_
    refine XS.goto X5.here hx rfl (pc0 := 25) (pc' := 43) rfl (hb hby d17_25) (by decide) (by decide) ?_
    exact X5.returnOut hx Bd.returns (hb hby d17_43) hr
  · show Q_rm_gb_0_27_34 Z r0 r1 zc rt kt vt kd vd h0 n0 _ T5.heap _
    rw [e5]
    exact ⟨(List.take ((0 : Int32)).toNatClampNeg vd ++ ((List.range ((27 : Int32)).toNatClampNeg).map fun i => List.getD vt (((0 : Int32)).toNatClampNeg + i) z0) ++ List.drop (((0 : Int32)).toNatClampNeg + ((27 : Int32)).toNatClampNeg) vd), rfl, N5, K5, V5, (own_len3 uL (by simp only [List.length_map, List.length_range]) (by decide)), rfl⟩
theorem ef_35 (m : MethodId) (x0 : Addr) (x2 : Addr) : entryFrame m #[(.ref x0), z0, (.ref x2)] 3 = mkF m 0 #[vr x0, vi (0 : Int32), vr x2] [] := by first | (simp [entryFrame, mkF, argsToLocals, Value.category]; done) | rfl
def Q_rm_ps_0_27_34 (Z : State) (r0 : Addr) (r2 : Addr) (zc : Int32) (rv : Addr) (kv : ClassId) (vv : List Value) (rt : Addr) (kt : ClassId) (vt : List Value) (h0 : Heap) (n0 : Nat) (v : Option Value) (h : Heap) (L : List Loc) : Prop := ∃ (nv : List Value), (v = none ∧ Fr n0 L ∧ Keep h0 h [rv] ∧ Arv Z h rv kv .byte (34 : Int32) nv z0 ∧ nv.length = 34 ∧ nv = own_put 0 27 vv vt)
set_option maxRecDepth 65536 in
set_option maxHeartbeats 40000000 in
theorem rm_ps_0_27_34 (l : Launch) (Z : State) (a0 : Array Value) (hw : ∀ d ∈ tables_1, d.before a0 Z = true) (ws : List Jvm.Cond) (r0 : Addr) (r2 : Addr) (zc : Int32) (rv : Addr) (kv : ClassId) (vv : List Value) (rt : Addr) (kt : ClassId) (vt : List Value) (h0 : Heap) (n0 : Nat) (Z0 : n0 ≤ h0.size) (uO : Old Z n0 h0) (uS : Sta Z Z.heap "java/lang/String" "COMPACT_STRINGS" "Z" (.int zc)) (uP : ¬ zc = 0) (uE : Exa Z h0 r0 "java/lang/StringBuilder") (uv : Fld Z h0 r0 "java/lang/AbstractStringBuilder" "value" "[B" (.ref rv)) (uc : Fld Z h0 r0 "java/lang/AbstractStringBuilder" "coder" "B" z0) (uV : Arv Z h0 rv kv .byte (34 : Int32) vv z0) (uL : vv.length = 34) (us : Exa Z h0 r2 "java/lang/String") (usv : Fld Z h0 r2 "java/lang/String" "value" "[B" (.ref rt)) (usc : Fld Z h0 r2 "java/lang/String" "coder" "B" z0) (usV : Arv Z h0 rt kt .byte (27 : Int32) vt z0) (ug : n0 ≤ rv) :
    MetFree l M14 (head1 (Jvm.Cond.code M14 jdk_68_method_73_code 3 none :: ws) ({ frames := 2, cells := 0, slots := 0, locals := 33 } : Room)) (fun a U => a = #[(.ref r0), z0, (.ref r2)] ∧ Z.Warmed39 U.vm ∧ U.heap = h0) (fun _ _ _ _ _ => True) (fun _ U o U' => ∃ v L, o = .returned v ∧ Q_rm_ps_0_27_34 Z r0 r2 zc rv kv vv rt kt vt h0 n0 v U'.heap L ∧ FrameEnd U o U' L ({ frames := 2, cells := 0, slots := 0, locals := 33 } : Room).cells ({ frames := 2, cells := 0, slots := 0, locals := 33 } : Room).slots) := by
  refine MetFree.of_bodySF (plainFor_of_name pn_1) hisR ?_
  intro p e s m args below meth c s₁ Bd hml0 hP hK
  obtain ⟨rfl, hZ, hh⟩ := hP
  have hx := Bd.exec
  have hby := Bd.bytes
  have hml : c.maxLocals = 3 := hml0
  have hown : s.vm.findClass "java/lang/AbstractStringBuilder" = some m.cls := findClass_of_methodNamed Bd.named
  have hnm := (name_of_methodNamed Bd.named Bd.method).1
  have X0 : Stand p l e ({ frames := 2, cells := 0, slots := 0, locals := 33 } : Room) s m #[(.ref r0), z0, (.ref r2)] below meth c s₁ [] 0 0 := Stand.of_body Bd
  have e0 : s₁.heap = h0 := by rw [← hh, Bd.state]; rfl
  have N0 := Fr.nil n0
  have pre0 : ∀ t, Steps p.tables e below (s₁.setTop (mkF m 0 #[vr r0, vi (0 : Int32), vr r2] [])) t → Steps p.tables e below (s₁.setTop (entryFrame m #[(.ref r0), z0, (.ref r2)] 3)) t := fun t k => castTop (ef_35 m r0 r2) k
  obtain ⟨cq1, kq1, q1a, q1b, q1c⟩ := isOf hZ e0 uE
  obtain ⟨_, _, ⟨T1, Lw1, kw1, nw1⟩, -, X1, ⟨Lc1, hQ1, lq1, yq1, zq1⟩, st1⟩ := X0.virtualBack hx (y := M5) (z := M5) hown (mvT hZ (wd hw 95 rfl)) (mvT hZ (own_decl (wd hw 96 rfl) (wd hw 99 rfl))) (notFace_of_selects (args := #[]) (mvT hZ (wd hw 98 rfl))) (mvT hZ (wd hw 98 rfl)) (mvT hZ (wd hw 96 rfl)) (by decide) (backOf (W := 0) (rmInf l Z a0 hw [] r0 r2 zc h0 n0 Z0 uO uS uP uc us usc) hZ (wd hw 99 rfl) (wd hw 16 rfl) (by decide) (by decide)) q1a q1c (g := (mkF m 2 #[vr r0, vi (0 : Int32), vr r2] [(.ref r2), (.ref r0)])) rfl (by rw [hml]; rfl) (Steps.refl _) (argsL := [(.ref r2)]) (rest := []) (lenOf pd_3 rfl) rfl (by show 2 * 0 + _ ≤ _; exact Nat.le_of_eq rfl) (hb hby d15_2) (fun _ _ => ⟨rfl, e0, (by decide : 0 + 0 ≤ _), (by decide : 0 + 0 ≤ _)⟩)
  dsimp only [Pt.U, Pt.locs, Pt.cells, Pt.slots] at X1 lq1 yq1 zq1 st1 hQ1
  have X1 := own_reb X1 lq1 yq1 zq1
  obtain ⟨rfl, Nq1, eh1⟩ := hQ1
  have N1 := Fr.app N0 Nq1
  obtain ⟨T2, X2, e2, st2⟩ := getF X1 hx hZ hown (host := "") (Or.inl (wd hw 24 rfl)) Via.refl eh1 uv (g := (mkF m 7 #[vr r0, vi (0 : Int32), vr r2] [(.ref r0), (.ref r2)])) rfl rfl (hb hby d15_7)
  obtain ⟨T3, X3, e3, st3⟩ := getF X2 hx hZ hown (host := "") (Or.inl (wd hw 26 rfl)) Via.refl e2 uc (g := (mkF m 12 #[vr r0, vi (0 : Int32), vr r2] [(.ref r0), z0, (.ref rv), (.ref r2)])) rfl rfl (hb hby d15_12)
  obtain ⟨cq4, kq4, q4a, q4b, q4c⟩ := isOf hZ e3 us
  obtain ⟨_, _, ⟨T4, Lw4, kw4, nw4⟩, -, X4, ⟨Lc4, hQ4, lq4, yq4, zq4⟩, st4⟩ := X3.virtualBack hx (y := M13) (z := M13) hown (mvT hZ (wd hw 101 rfl)) (mvT hZ (wd hw 102 rfl)) (notFace_of_selects (args := #[]) (mvT hZ (wd hw 104 rfl))) (mvT hZ (wd hw 104 rfl)) (mvT hZ (wd hw 103 rfl)) (by decide) (backOf (W := 0) (rm_gb_0_27_34 l Z a0 hw [] r2 rv zc rt kt vt kv vv h0 n0 Z0 uO uS uP us usv usc usV uV uL ug) hZ (wd hw 105 rfl) (wd hw 22 rfl) (by decide) (by decide)) q4a q4c (g := (mkF m 15 #[vr r0, vi (0 : Int32), vr r2] [z0, z0, (.ref rv), (.ref r2)])) rfl (by rw [hml]; rfl) (Steps.refl _) (argsL := [(.ref rv), z0, z0]) (rest := []) (lenOf pd_4 rfl) rfl (by show 2 * 0 + _ ≤ _; exact Nat.le_of_eq rfl) (hb hby d15_15) (fun _ _ => ⟨rfl, e3, (by decide : 0 + 0 ≤ _), (by decide : 0 + 0 ≤ _)⟩)
  dsimp only [Pt.U, Pt.locs, Pt.cells, Pt.slots] at X4 lq4 yq4 zq4 st4 hQ4
  have X4 := own_reb X4 lq4 yq4 zq4
  obtain ⟨nv_4, rfl, Nq4, Kq4, f4_0, f4_1, f4_2⟩ := hQ4
  have N4 := Fr.app N1 Nq4
  have K4 : Keep h0 T4.heap [rv] := (Keep.refl h0 [rv]).trans Kq4 (allS (Or.inl (List.mem_of_getElem? (i := 0) rfl)) all0)
  have Z4 : n0 ≤ T4.heap.size := Nat.le_trans Z0 Kq4.1
  obtain ⟨fs, hr, hrun, hended, hW, hsame⟩ := X4.leave (v := none) (fun _ => rfl)
  refine ⟨_, _, pre0 _ ?_, hrun, hended, _, _, rfl, ?_, ⟨_, rfl⟩, hW, hsame.mono (by decide) (by decide)⟩
  · show SS p e below s₁ (mkF m 0 #[vr r0, vi (0 : Int32), vr r2] []) _
    refine XS.aloadN X0.here hx rfl (hb hby d15_0) rfl rfl ?_
    refine XS.aloadN X0.here hx rfl (hb hby d15_1) rfl rfl ?_
    show SS p e below s₁ (mkF m 2 #[vr r0, vi (0 : Int32), vr r2] [(.ref r2), (.ref r0)]) _
    refine st1.trans ?_
    refine XS.aloadN X1.here hx rfl (hb hby d15_5) rfl rfl ?_
    refine XS.aloadN X1.here hx rfl (hb hby d15_6) rfl rfl ?_
    refine st2 _ ?_
    refine XS.iloadN X2.here hx rfl (hb hby d15_10) rfl ?_
    refine XS.aloadN X2.here hx rfl (hb hby d15_11) rfl rfl ?_
    refine st3 _ ?_
    show SS p e below T3 (mkF m 15 #[vr r0, vi (0 : Int32), vr r2] [z0, z0, (.ref rv), (.ref r2)]) _
    refine st4.trans ?_
    exact X4.returnOut hx Bd.returns (hb hby d15_18) hr
  · show Q_rm_ps_0_27_34 Z r0 r2 zc rv kv vv rt kt vt h0 n0 _ T4.heap _
    exact ⟨nv_4, rfl, N4, K4, f4_0, f4_1, f4_2⟩
theorem ef_36 (m : MethodId)  : entryFrame m #[(vI 16), (vI 11), (vI 18)] 4 = mkF m 0 #[vi (16 : Int32), vi (11 : Int32), vi (18 : Int32), uu] [] := by first | (simp [entryFrame, mkF, argsToLocals, Value.category]; done) | rfl
def Q_rm_nl_16_11_18 (Z : State)  (h0 : Heap) (n0 : Nat) (v : Option Value) (h : Heap) (L : List Loc) : Prop := (v = some (vI 34) ∧ Fr n0 L ∧ h = h0)
set_option maxRecDepth 65536 in
set_option maxHeartbeats 40000000 in
theorem rm_nl_16_11_18 (l : Launch) (Z : State) (a0 : Array Value) (hw : ∀ d ∈ tables_1, d.before a0 Z = true) (ws : List Jvm.Cond)  (h0 : Heap) (n0 : Nat) (Z0 : n0 ≤ h0.size) :
    MetFree l M22 (head1 (Jvm.Cond.code M22 jdk_48_method_27_code 4 (some .int) :: ws) ({ frames := 1, cells := 0, slots := 0, locals := 14 } : Room)) (fun a U => a = #[(vI 16), (vI 11), (vI 18)] ∧ Z.Warmed39 U.vm ∧ U.heap = h0) (fun _ _ _ _ _ => True) (fun _ U o U' => ∃ v L, o = .returned v ∧ Q_rm_nl_16_11_18 Z  h0 n0 v U'.heap L ∧ FrameEnd U o U' L ({ frames := 1, cells := 0, slots := 0, locals := 14 } : Room).cells ({ frames := 1, cells := 0, slots := 0, locals := 14 } : Room).slots) := by
  refine MetFree.of_bodySF (plainFor_of_name pn_4) hisR ?_
  intro p e s m args below meth c s₁ Bd hml0 hP hK
  obtain ⟨rfl, hZ, hh⟩ := hP
  have hx := Bd.exec
  have hby := Bd.bytes
  have hml : c.maxLocals = 4 := hml0
  have hown : s.vm.findClass "jdk/internal/util/ArraysSupport" = some m.cls := findClass_of_methodNamed Bd.named
  have hnm := (name_of_methodNamed Bd.named Bd.method).1
  have X0 : Stand p l e ({ frames := 1, cells := 0, slots := 0, locals := 14 } : Room) s m #[(vI 16), (vI 11), (vI 18)] below meth c s₁ [] 0 0 := Stand.of_body Bd
  have e0 : s₁.heap = h0 := by rw [← hh, Bd.state]; rfl
  have N0 := Fr.nil n0
  have pre0 : ∀ t, Steps p.tables e below (s₁.setTop (mkF m 0 #[vi (16 : Int32), vi (11 : Int32), vi (18 : Int32), uu] [])) t → Steps p.tables e below (s₁.setTop (entryFrame m #[(vI 16), (vI 11), (vI 18)] 4)) t := fun t k => castTop (ef_36 m ) k
  obtain ⟨_, _, ⟨T1, Lw1, kw1, nw1⟩, -, X1, ⟨Lc1, hQ1, lq1, yq1, zq1⟩, st1⟩ := Jvm.LawKit.callS X0 hx (y := M0) hown (mvT hZ (wd hw 73 rfl)) (mvT hZ (wd hw 74 rfl)) (mvT hZ (wd hw 75 rfl)) (mvT hZ (wd hw 76 rfl)) (by decide) (backOf (W := 1) (rmMax l Z a0 hw [] (11 : Int32) (18 : Int32) h0 n0 Z0) hZ (wd hw 76 rfl) (wd hw 75 rfl) (by decide) (by decide)) (g := (mkF m 3 #[vi (16 : Int32), vi (11 : Int32), vi (18 : Int32), uu] [(vI 18), (vI 11), (vI 16)])) rfl (by rw [hml]; rfl) (argsL := [(vI 11), (vI 18)]) (rest := [(vI 16)]) (lenOf pd_8 rfl) rfl (by show 2 * 0 + _ ≤ _; exact Nat.le_of_eq rfl) (hb hby d11_3) (fun _ _ => ⟨rfl, e0, (by decide : 0 + 0 ≤ _), (by decide : 0 + 0 ≤ _)⟩)
  dsimp only [Pt.U, Pt.locs, Pt.cells, Pt.slots] at X1 lq1 yq1 zq1 st1 hQ1
  have X1 := own_reb X1 lq1 yq1 zq1
  obtain ⟨rfl, Nq1, eh1⟩ := hQ1
  have N1 := Fr.app N0 Nq1
  obtain ⟨fs, hr, hrun, hended, hW, hsame⟩ := X1.leave (v := some (vI 34)) (fun h => by rw [Bd.returns] at h; cases h)
  refine ⟨_, _, pre0 _ ?_, hrun, hended, _, _, rfl, ?_, ⟨_, rfl⟩, hW, hsame.mono (by decide) (by decide)⟩
  · show SS p e below s₁ (mkF m 0 #[vi (16 : Int32), vi (11 : Int32), vi (18 : Int32), uu] []) _
    refine XS.iloadN X0.here hx rfl (hb hby d11_0) rfl ?_
    refine XS.iloadN X0.here hx rfl (hb hby d11_1) rfl ?_
    refine XS.iloadN X0.here hx rfl (hb hby d11_2) rfl ?_
    show SS p e below s₁ (mkF m 3 #[vi (16 : Int32), vi (11 : Int32), vi (18 : Int32), uu] [(vI 18), (vI 11), (vI 16)]) _
    refine st1 _ ?_
    rw [(show (if (11 : Int32) < (18 : Int32) then (18 : Int32) else (11 : Int32)) = (18 : Int32) from by decide)]
    refine XS.iadd X1.here hx rfl (hb hby d11_6) rfl ?_
    show SS p e below T1 (mkF m 7 #[vi (16 : Int32), vi (11 : Int32), vi (18 : Int32), uu] [(.int ((16 : Int32) + (18 : Int32)))]) _
    rw [(show ((16 : Int32) + (18 : Int32)) = (34 : Int32) from by decide)]
    refine XS.istoreN X1.here hx rfl (hb hby d11_7) rfl (l' := #[vi (16 : Int32), vi (11 : Int32), vi (18 : Int32), vi (34 : Int32)]) rfl ?_
    refine XS.iconst X1.here hx rfl (hb hby d11_8) ?_
    refine XS.iloadN X1.here hx rfl (hb hby d11_9) rfl ?_
    show SS p e below T1 (mkF m 10 #[vi (16 : Int32), vi (11 : Int32), vi (18 : Int32), vi (34 : Int32)] [(vI 34), z0]) _
    refine XS.icmpNo X1.here hx rfl (hb hby d11_10) rfl (tlt (by decide : (0 : Int32) < (34 : Int32))).2.1 ?_
    refine XS.iloadN X1.here hx rfl (hb hby d11_13) rfl ?_
    show SS p e below T1 (mkF m 14 #[vi (16 : Int32), vi (11 : Int32), vi (18 : Int32), vi (34 : Int32)] [(vI 34)]) _
    refine X1.ldcInt hx hown (mvT hZ (wd hw 77 rfl)) (g := (mkF m 14 #[vi (16 : Int32), vi (11 : Int32), vi (18 : Int32), vi (34 : Int32)] [(vI 34)])) rfl (hb hby d11_14) _ ?_
    show SS p e below T1 (mkF m 16 #[vi (16 : Int32), vi (11 : Int32), vi (18 : Int32), vi (34 : Int32)] [(vI 2147483639), (vI 34)]) _
    refine XS.icmpNo X1.here hx rfl (hb hby d11_16) rfl (flt (by decide : ¬ ((2147483639 : Int32) < (34 : Int32)))).2.2.1 ?_
    refine XS.iloadN X1.here hx rfl (hb hby d11_19) rfl ?_
    exact retI X1 hx Bd.returns (hb hby d11_20) hr
  · show Q_rm_nl_16_11_18 Z  h0 n0 _ T1.heap _
    rw [eh1]
    exact ⟨rfl, N1, rfl⟩
theorem ef_37 (m : MethodId) (x0 : Addr) : entryFrame m #[(.ref x0), (vI 27)] 6 = mkF m 0 #[vr x0, vi (27 : Int32), uu, uu, uu, uu] [] := by first | (simp [entryFrame, mkF, argsToLocals, Value.category]; done) | rfl
def Q_rm_nc_27_16 (Z : State) (r0 : Addr) (rv : Addr) (kv : ClassId) (vv : List Value) (h0 : Heap) (n0 : Nat) (v : Option Value) (h : Heap) (L : List Loc) : Prop := (v = some (vI 34) ∧ Fr n0 L ∧ h = h0)
set_option maxRecDepth 65536 in
set_option maxHeartbeats 40000000 in
theorem rm_nc_27_16 (l : Launch) (Z : State) (a0 : Array Value) (hw : ∀ d ∈ tables_1, d.before a0 Z = true) (ws : List Jvm.Cond) (r0 : Addr) (rv : Addr) (kv : ClassId) (vv : List Value) (h0 : Heap) (n0 : Nat) (Z0 : n0 ≤ h0.size) (uE : Exa Z h0 r0 "java/lang/StringBuilder") (uv : Fld Z h0 r0 "java/lang/AbstractStringBuilder" "value" "[B" (.ref rv)) (uc : Fld Z h0 r0 "java/lang/AbstractStringBuilder" "coder" "B" z0) (uV : Arv Z h0 rv kv .byte (16 : Int32) vv z0) :
    MetFree l M23 (head1 (Jvm.Cond.code M23 jdk_68_method_10_code 6 (some .int) :: ws) ({ frames := 2, cells := 0, slots := 0, locals := 29 } : Room)) (fun a U => a = #[(.ref r0), (vI 27)] ∧ Z.Warmed39 U.vm ∧ U.heap = h0) (fun _ _ _ _ _ => True) (fun _ U o U' => ∃ v L, o = .returned v ∧ Q_rm_nc_27_16 Z r0 rv kv vv h0 n0 v U'.heap L ∧ FrameEnd U o U' L ({ frames := 2, cells := 0, slots := 0, locals := 29 } : Room).cells ({ frames := 2, cells := 0, slots := 0, locals := 29 } : Room).slots) := by
  refine MetFree.of_bodySF (plainFor_of_name pn_1) hisR ?_
  intro p e s m args below meth c s₁ Bd hml0 hP hK
  obtain ⟨rfl, hZ, hh⟩ := hP
  have hx := Bd.exec
  have hby := Bd.bytes
  have hml : c.maxLocals = 6 := hml0
  have hown : s.vm.findClass "java/lang/AbstractStringBuilder" = some m.cls := findClass_of_methodNamed Bd.named
  have hnm := (name_of_methodNamed Bd.named Bd.method).1
  have X0 : Stand p l e ({ frames := 2, cells := 0, slots := 0, locals := 29 } : Room) s m #[(.ref r0), (vI 27)] below meth c s₁ [] 0 0 := Stand.of_body Bd
  have e0 : s₁.heap = h0 := by rw [← hh, Bd.state]; rfl
  have N0 := Fr.nil n0
  have pre0 : ∀ t, Steps p.tables e below (s₁.setTop (mkF m 0 #[vr r0, vi (27 : Int32), uu, uu, uu, uu] [])) t → Steps p.tables e below (s₁.setTop (entryFrame m #[(.ref r0), (vI 27)] 6)) t := fun t k => castTop (ef_37 m r0) k
  obtain ⟨T1, X1, e1, st1⟩ := getF X0 hx hZ hown (host := "") (Or.inl (wd hw 24 rfl)) Via.refl e0 uv (g := (mkF m 1 #[vr r0, vi (27 : Int32), uu, uu, uu, uu] [(.ref r0)])) rfl rfl (hb hby d10_1)
  obtain ⟨cl2, Ar2, q2, S2, Nn2, H2, G2⟩ := (id uV)
  obtain ⟨T3, X3, e3, st3⟩ := getF X1 hx hZ hown (host := "") (Or.inl (wd hw 26 rfl)) Via.refl e1 uc (g := (mkF m 8 #[vr r0, vi (27 : Int32), vi (16 : Int32), uu, uu, uu] [(.ref r0), (vI 27)])) rfl rfl (hb hby d10_8)
  obtain ⟨T4, X4, e4, st4⟩ := getF X3 hx hZ hown (host := "") (Or.inl (wd hw 26 rfl)) Via.refl e3 uc (g := (mkF m 24 #[vr r0, vi (27 : Int32), vi (16 : Int32), vi (27 : Int32), vi (11 : Int32), uu] [(.ref r0), (vI 2), (vI 16), (vI 11), (vI 16)])) rfl rfl (hb hby d10_24)
  obtain ⟨_, _, ⟨T5, Lw5, kw5, nw5⟩, -, X5, ⟨Lc5, hQ5, lq5, yq5, zq5⟩, st5⟩ := Jvm.LawKit.callS X4 hx (y := M22) hown (mvT hZ (wd hw 69 rfl)) (mvT hZ (wd hw 70 rfl)) (mvT hZ (wd hw 71 rfl)) (mvT hZ (wd hw 72 rfl)) (by decide) (backOf (W := 0) (rm_nl_16_11_18 l Z a0 hw []  h0 n0 Z0) hZ (wd hw 72 rfl) (wd hw 71 rfl) (by decide) (by decide)) (g := (mkF m 29 #[vr r0, vi (27 : Int32), vi (16 : Int32), vi (27 : Int32), vi (11 : Int32), uu] [(vI 18), (vI 11), (vI 16)])) rfl (by rw [hml]; rfl) (argsL := [(vI 16), (vI 11), (vI 18)]) (rest := []) (lenOf pd_14 rfl) rfl (by show 2 * 0 + _ ≤ _; exact Nat.le_of_eq rfl) (hb hby d10_29) (fun _ _ => ⟨rfl, e4, (by decide : 0 + 0 ≤ _), (by decide : 0 + 0 ≤ _)⟩)
  dsimp only [Pt.U, Pt.locs, Pt.cells, Pt.slots] at X5 lq5 yq5 zq5 st5 hQ5
  have X5 := own_reb X5 lq5 yq5 zq5
  obtain ⟨rfl, Nq5, eh5⟩ := hQ5
  have N5 := Fr.app N0 Nq5
  obtain ⟨T6, X6, e6, st6⟩ := getF X5 hx hZ hown (host := "") (Or.inl (wd hw 26 rfl)) Via.refl eh5 uc (g := (mkF m 54 #[vr r0, vi (27 : Int32), vi (16 : Int32), vi (27 : Int32), vi (11 : Int32), vi (34 : Int32)] [(.ref r0), (vI 34)])) rfl rfl (hb hby d10_54)
  obtain ⟨fs, hr, hrun, hended, hW, hsame⟩ := X6.leave (v := some (vI 34)) (fun h => by rw [Bd.returns] at h; cases h)
  refine ⟨_, _, pre0 _ ?_, hrun, hended, _, _, rfl, ?_, ⟨_, rfl⟩, hW, hsame.mono (by decide) (by decide)⟩
  · show SS p e below s₁ (mkF m 0 #[vr r0, vi (27 : Int32), uu, uu, uu, uu] []) _
    refine XS.aloadN X0.here hx rfl (hb hby d10_0) rfl rfl ?_
    refine st1 _ ?_
    show SS p e below T1 (mkF m 4 #[vr r0, vi (27 : Int32), uu, uu, uu, uu] [(.ref rv)]) _
    refine X1.arraylength hx (own_at e1 Ar2.1) (State.isArrayOf_alike hZ.alike Ar2.2.1) (g := (mkF m 4 #[vr r0, vi (27 : Int32), uu, uu, uu, uu] [(.ref rv)])) rfl rfl (hb hby d10_4) _ ?_
    rw [len_of S2 Nn2]
    refine XS.istoreN X1.here hx rfl (hb hby d10_5) rfl (l' := #[vr r0, vi (27 : Int32), vi (16 : Int32), uu, uu, uu]) rfl ?_
    refine XS.iloadN X1.here hx rfl (hb hby d10_6) rfl ?_
    refine XS.aloadN X1.here hx rfl (hb hby d10_7) rfl rfl ?_
    refine st3 _ ?_
    show SS p e below T3 (mkF m 11 #[vr r0, vi (27 : Int32), vi (16 : Int32), uu, uu, uu] [z0, (vI 27)]) _
    refine XS.ishl X3.here hx rfl (hb hby d10_11) rfl ?_
    show SS p e below T3 (mkF m 12 #[vr r0, vi (27 : Int32), vi (16 : Int32), uu, uu, uu] [(.int ((27 : Int32) <<< ((0 : Int32) &&& 31)))]) _
    rw [(show ((27 : Int32) <<< ((0 : Int32) &&& 31)) = (27 : Int32) from by decide)]
    refine XS.istoreN X3.here hx rfl (hb hby d10_12) rfl (l' := #[vr r0, vi (27 : Int32), vi (16 : Int32), vi (27 : Int32), uu, uu]) rfl ?_
    refine XS.iloadN X3.here hx rfl (hb hby d10_13) rfl ?_
    refine XS.iloadN X3.here hx rfl (hb hby d10_14) rfl ?_
    refine XS.isub X3.here hx rfl (hb hby d10_15) rfl ?_
    show SS p e below T3 (mkF m 16 #[vr r0, vi (27 : Int32), vi (16 : Int32), vi (27 : Int32), uu, uu] [(.int ((27 : Int32) - (16 : Int32)))]) _
    rw [(show ((27 : Int32) - (16 : Int32)) = (11 : Int32) from by decide)]
    refine XS.istore X3.here hx rfl (hb hby d10_16) rfl (l' := #[vr r0, vi (27 : Int32), vi (16 : Int32), vi (27 : Int32), vi (11 : Int32), uu]) rfl ?_
    refine XS.iloadN X3.here hx rfl (hb hby d10_18) rfl ?_
    refine XS.iload X3.here hx rfl (hb hby d10_19) rfl ?_
    refine XS.iloadN X3.here hx rfl (hb hby d10_21) rfl ?_
    refine XS.iconst X3.here hx rfl (hb hby d10_22) ?_
    refine XS.aloadN X3.here hx rfl (hb hby d10_23) rfl rfl ?_
    refine st4 _ ?_
    show SS p e below T4 (mkF m 27 #[vr r0, vi (27 : Int32), vi (16 : Int32), vi (27 : Int32), vi (11 : Int32), uu] [z0, (vI 2), (vI 16), (vI 11), (vI 16)]) _
    refine XS.ishl X4.here hx rfl (hb hby d10_27) rfl ?_
    show SS p e below T4 (mkF m 28 #[vr r0, vi (27 : Int32), vi (16 : Int32), vi (27 : Int32), vi (11 : Int32), uu] [(.int ((2 : Int32) <<< ((0 : Int32) &&& 31))), (vI 16), (vI 11), (vI 16)]) _
    rw [(show ((2 : Int32) <<< ((0 : Int32) &&& 31)) = (2 : Int32) from by decide)]
    refine XS.iadd X4.here hx rfl (hb hby d10_28) rfl ?_
    show SS p e below T4 (mkF m 29 #[vr r0, vi (27 : Int32), vi (16 : Int32), vi (27 : Int32), vi (11 : Int32), uu] [(.int ((16 : Int32) + (2 : Int32))), (vI 11), (vI 16)]) _
    rw [(show ((16 : Int32) + (2 : Int32)) = (18 : Int32) from by decide)]
    show SS p e below T4 (mkF m 29 #[vr r0, vi (27 : Int32), vi (16 : Int32), vi (27 : Int32), vi (11 : Int32), uu] [(vI 18), (vI 11), (vI 16)]) _
    refine st5 _ ?_
    refine XS.istore X5.here hx rfl (hb hby d10_32) rfl (l' := #[vr r0, vi (27 : Int32), vi (16 : Int32), vi (27 : Int32), vi (11 : Int32), vi (34 : Int32)]) rfl ?_
    refine XS.iload X5.here hx rfl (hb hby d10_34) rfl ?_
    show SS p e below T5 (mkF m 36 #[vr r0, vi (27 : Int32), vi (16 : Int32), vi (27 : Int32), vi (11 : Int32), vi (34 : Int32)] [(vI 34)]) _
    refine X5.ldcInt hx hown (mvT hZ (wd hw 78 rfl)) (g := (mkF m 36 #[vr r0, vi (27 : Int32), vi (16 : Int32), vi (27 : Int32), vi (11 : Int32), vi (34 : Int32)] [(vI 34)])) rfl (hb hby d10_36) _ ?_
    show SS p e below T5 (mkF m 38 #[vr r0, vi (27 : Int32), vi (16 : Int32), vi (27 : Int32), vi (11 : Int32), vi (34 : Int32)] [(vI 2147483647), (vI 34)]) _
    refine XS.icmpYes X5.here hx rfl (pc0 := 38) (pc' := 51) rfl (hb hby d10_38) rfl (feq (by decide : ¬ ((34 : Int32) = (2147483647 : Int32)))).2 (by decide) (by decide) ?_
    refine XS.iload X5.here hx rfl (hb hby d10_51) rfl ?_
    refine XS.aloadN X5.here hx rfl (hb hby d10_53) rfl rfl ?_
    refine st6 _ ?_
    show SS p e below T6 (mkF m 57 #[vr r0, vi (27 : Int32), vi (16 : Int32), vi (27 : Int32), vi (11 : Int32), vi (34 : Int32)] [z0, (vI 34)]) _
    refine XS.ishr X6.here hx rfl (hb hby d10_57) rfl ?_
    show SS p e below T6 (mkF m 58 #[vr r0, vi (27 : Int32), vi (16 : Int32), vi (27 : Int32), vi (11 : Int32), vi (34 : Int32)] [(.int ((34 : Int32) >>> ((0 : Int32) &&& 31)))]) _
    rw [own_shr0 _]
    exact retI X6 hx Bd.returns (hb hby d10_58) hr
  · show Q_rm_nc_27_16 Z r0 rv kv vv h0 n0 _ T6.heap _
    rw [e6]
    exact ⟨rfl, N5, rfl⟩
theorem ef_38 (m : MethodId) (x0 : Addr) : entryFrame m #[(.ref x0), (vI 34)] 3 = mkF m 0 #[vr x0, vi (34 : Int32), uu] [] := by first | (simp [entryFrame, mkF, argsToLocals, Value.category]; done) | rfl
def Q_rm_co_16_34 (Z : State) (r0 : Addr) (kv : ClassId) (vv : List Value) (h0 : Heap) (n0 : Nat) (v : Option Value) (h : Heap) (L : List Loc) : Prop := ∃ (nb : Addr), ∃ (nk : ClassId), ∃ (nv : List Value), (v = some (.ref nb) ∧ Fr n0 L ∧ Keep h0 h [] ∧ h0.size ≤ nb ∧ Exa Z h nb "[B" ∧ Arv Z h nb nk .byte (34 : Int32) nv z0 ∧ nv.length = 34 ∧ nv = own_grow 16 34 vv)
set_option maxRecDepth 65536 in
set_option maxHeartbeats 40000000 in
theorem rm_co_16_34 (l : Launch) (Z : State) (a0 : Array Value) (hw : ∀ d ∈ tables_1, d.before a0 Z = true) (ws : List Jvm.Cond) (r0 : Addr) (kv : ClassId) (vv : List Value) (h0 : Heap) (n0 : Nat) (Z0 : n0 ≤ h0.size) (uV : Arv Z h0 r0 kv .byte (16 : Int32) vv z0) :
    MetFree l M24 (head1 (Jvm.Cond.code M24 jdk_65_method_121_code 3 (some (.array .byte)) :: ws) ({ frames := 1, cells := 1, slots := 34, locals := 18 } : Room)) (fun a U => a = #[(.ref r0), (vI 34)] ∧ Z.Warmed39 U.vm ∧ U.heap = h0) (fun _ _ _ _ _ => True) (fun _ U o U' => ∃ v L, o = .returned v ∧ Q_rm_co_16_34 Z r0 kv vv h0 n0 v U'.heap L ∧ FrameEnd U o U' L ({ frames := 1, cells := 1, slots := 34, locals := 18 } : Room).cells ({ frames := 1, cells := 1, slots := 34, locals := 18 } : Room).slots) := by
  refine MetFree.of_bodySF (plainFor_of_name pn_3) hisR ?_
  intro p e s m args below meth c s₁ Bd hml0 hP hK
  obtain ⟨rfl, hZ, hh⟩ := hP
  have hx := Bd.exec
  have hby := Bd.bytes
  have hml : c.maxLocals = 3 := hml0
  have hown : s.vm.findClass "java/util/Arrays" = some m.cls := findClass_of_methodNamed Bd.named
  have hnm := (name_of_methodNamed Bd.named Bd.method).1
  have X0 : Stand p l e ({ frames := 1, cells := 1, slots := 34, locals := 18 } : Room) s m #[(.ref r0), (vI 34)] below meth c s₁ [] 0 0 := Stand.of_body Bd
  have e0 : s₁.heap = h0 := by rw [← hh, Bd.state]; rfl
  have N0 := Fr.nil n0
  have pre0 : ∀ t, Steps p.tables e below (s₁.setTop (mkF m 0 #[vr r0, vi (34 : Int32), uu] [])) t → Steps p.tables e below (s₁.setTop (entryFrame m #[(.ref r0), (vI 34)] 3)) t := fun t k => castTop (ef_38 m r0) k
  obtain ⟨cl1, Ar1, q1, S1, Nn1, H1, G1⟩ := (id uV)
  obtain ⟨T2, h2, k2, X2, e2, E2, A2, AX2, st2⟩ := newPE X0 hx hZ (wd hw 23 rfl) e0 (g := (mkF m 15 #[vr r0, vi (34 : Int32), uu] [(vI 34)])) rfl (hb hby d13_15) rfl (by decide) (cap := 34) (by decide) (by decide) (by decide) (by decide) (ad := "[B") (by decide)
  obtain ⟨b2, g2⟩ : ∃ z, z = h0.size := ⟨_, rfl⟩
  rw [← g2] at A2 AX2 st2
  have ne_r0_b2 : r0 ≠ b2 := Nat.ne_of_lt (Nat.lt_of_lt_of_le uV.lt (Nat.le_of_eq g2.symm))
  have V2 : Arv Z h2 b2 k2 .byte (34 : Int32) [z0, z0, z0, z0, z0, z0, z0, z0, z0, z0, z0, z0, z0, z0, z0, z0, z0, z0, z0, z0, z0, z0, z0, z0, z0, z0, z0, z0, z0, z0, z0, z0, z0, z0] z0 := (Arv.new A2 (by decide)).pad (pad_rep [] z0 34)
  have g_b2 : n0 ≤ b2 := Nat.le_trans Z0 (Nat.le_of_eq g2.symm)
  have sz_b2 : h0.size ≤ b2 := Nat.le_trans (Keep.refl h0 []).1 (Nat.le_of_eq g2.symm)
  have K2 : Keep h0 h2 [] := (Keep.refl h0 []).ext E2
  have Z2 : n0 ≤ h2.size := Nat.le_trans Z0 E2.1
  have c4 := (uV.ext E2)
  obtain ⟨cl3, Ar3, q3, S3, Nn3, H3, G3⟩ := (id c4)
  obtain ⟨_, _, ⟨T5, Lw5, kw5, nw5⟩, -, X5, ⟨Lc5, hQ5, lq5, yq5, zq5⟩, st5⟩ := Jvm.LawKit.callS X2 hx (y := M1) hown (mvT hZ (wd hw 83 rfl)) (mvT hZ (wd hw 84 rfl)) (mvT hZ (wd hw 75 rfl)) (mvT hZ (wd hw 85 rfl)) (by decide) (backOf (W := 4) (rmMin l Z a0 hw [] (16 : Int32) (34 : Int32) h2 n0 Z2) hZ (wd hw 85 rfl) (wd hw 75 rfl) (by decide) (by decide)) (g := (mkF m 25 #[vr r0, vi (34 : Int32), vr b2] [(vI 34), (vI 16), z0, (.ref b2), z0, (.ref r0)])) rfl (by rw [hml]; rfl) (argsL := [(vI 16), (vI 34)]) (rest := [z0, (.ref b2), z0, (.ref r0)]) (lenOf pd_8 rfl) rfl (by show 2 * 0 + _ ≤ _; exact Nat.le_of_eq rfl) (hb hby d13_25) (fun _ _ => ⟨rfl, e2, (by decide : 1 + 0 ≤ _), (by decide : 34 + 0 ≤ _)⟩)
  dsimp only [Pt.U, Pt.locs, Pt.cells, Pt.slots] at X5 lq5 yq5 zq5 st5 hQ5
  have X5 := own_reb X5 lq5 yq5 zq5
  obtain ⟨rfl, Nq5, eh5⟩ := hQ5
  have N5 := Fr.app N0 Nq5
  obtain ⟨T6, h6, L6, X6, e6, N6, Kq6, V6, st6⟩ := cpA X5 hx hZ hown (wd hw 86 rfl) (wd hw 89 rfl) (wd hw 87 rfl) (wd hw 88 rfl) eh5 (us := ((List.range ((16 : Int32)).toNatClampNeg).map fun i => List.getD vv (((0 : Int32)).toNatClampNeg + i) z0)) c4 V2 (Or.inl ⟨rfl, rfl⟩) (by decide) (by decide) (by decide) (by decide) (by decide) rfl (by decide) N5 g_b2 (g := (mkF m 28 #[vr r0, vi (34 : Int32), vr b2] [(vI 16), z0, (.ref b2), z0, (.ref r0)])) rfl (by rw [hml]; rfl) rfl (hb hby d13_28) (by decide) (W := 0) (by show 2 * 0 + _ ≤ _; exact Nat.le_of_eq rfl) (by decide)
  have K6 : Keep h0 h6 [] := K2.trans Kq6 (allS (Or.inr sz_b2) all0)
  have Z6 : n0 ≤ h6.size := Nat.le_trans Z2 Kq6.1
  have c7 := (AX2.keep Kq6)
  obtain ⟨fs, hr, hrun, hended, hW, hsame⟩ := X6.leave (v := some (.ref b2)) (fun h => by rw [Bd.returns] at h; cases h)
  refine ⟨_, _, pre0 _ ?_, hrun, hended, _, _, rfl, ?_, ⟨_, rfl⟩, hW, hsame.mono (by decide) (by decide)⟩
  · show SS p e below s₁ (mkF m 0 #[vr r0, vi (34 : Int32), uu] []) _
    refine XS.iloadN X0.here hx rfl (hb hby d13_0) rfl ?_
    refine XS.aloadN X0.here hx rfl (hb hby d13_1) rfl rfl ?_
    show SS p e below s₁ (mkF m 2 #[vr r0, vi (34 : Int32), uu] [(.ref r0), (vI 34)]) _
    refine X0.arraylength hx (own_at e0 Ar1.1) (State.isArrayOf_alike hZ.alike Ar1.2.1) (g := (mkF m 2 #[vr r0, vi (34 : Int32), uu] [(.ref r0), (vI 34)])) rfl rfl (hb hby d13_2) _ ?_
    rw [len_of S1 Nn1]
    show SS p e below s₁ (mkF m 3 #[vr r0, vi (34 : Int32), uu] [(vI 16), (vI 34)]) _
    refine XS.icmpYes X0.here hx rfl (pc0 := 3) (pc' := 14) rfl (hb hby d13_3) rfl (feq (by decide : ¬ ((34 : Int32) = (16 : Int32)))).2 (by decide) (by decide) ?_
    refine XS.iloadN X0.here hx rfl (hb hby d13_14) rfl ?_
    refine st2 _ ?_
    refine XS.astoreN X2.here hx rfl (hb hby d13_17) rfl rfl (l' := #[vr r0, vi (34 : Int32), vr b2]) rfl ?_
    refine XS.aloadN X2.here hx rfl (hb hby d13_18) rfl rfl ?_
    refine XS.iconst X2.here hx rfl (hb hby d13_19) ?_
    refine XS.aloadN X2.here hx rfl (hb hby d13_20) rfl rfl ?_
    refine XS.iconst X2.here hx rfl (hb hby d13_21) ?_
    refine XS.aloadN X2.here hx rfl (hb hby d13_22) rfl rfl ?_
    show SS p e below T2 (mkF m 23 #[vr r0, vi (34 : Int32), vr b2] [(.ref r0), z0, (.ref b2), z0, (.ref r0)]) _
    refine X2.arraylength hx (own_at e2 Ar3.1) (State.isArrayOf_alike hZ.alike Ar3.2.1) (g := (mkF m 23 #[vr r0, vi (34 : Int32), vr b2] [(.ref r0), z0, (.ref b2), z0, (.ref r0)])) rfl rfl (hb hby d13_23) _ ?_
    rw [len_of S3 Nn3]
    refine XS.iloadN X2.here hx rfl (hb hby d13_24) rfl ?_
    show SS p e below T2 (mkF m 25 #[vr r0, vi (34 : Int32), vr b2] [(vI 34), (vI 16), z0, (.ref b2), z0, (.ref r0)]) _
    refine st5 _ ?_
    rw [(show (if (34 : Int32) < (16 : Int32) then (34 : Int32) else (16 : Int32)) = (16 : Int32) from by decide)]
    show SS p e below T5 (mkF m 28 #[vr r0, vi (34 : Int32), vr b2] [(vI 16), z0, (.ref b2), z0, (.ref r0)]) _
    refine st6 _ ?_
    refine XS.aloadN X6.here hx rfl (hb hby d13_31) rfl rfl ?_
    exact retOut X6 hx Bd.returns rfl (Or.inr (Or.inr (Or.inr (Or.inr ⟨rfl, rfl, rfl⟩)))) (hb hby d13_32) hr
  · show Q_rm_co_16_34 Z r0 kv vv h0 n0 _ T6.heap _
    rw [e6]
    exact ⟨b2, k2, (List.take ((0 : Int32)).toNatClampNeg [z0, z0, z0, z0, z0, z0, z0, z0, z0, z0, z0, z0, z0, z0, z0, z0, z0, z0, z0, z0, z0, z0, z0, z0, z0, z0, z0, z0, z0, z0, z0, z0, z0, z0] ++ ((List.range ((16 : Int32)).toNatClampNeg).map fun i => List.getD vv (((0 : Int32)).toNatClampNeg + i) z0) ++ List.drop (((0 : Int32)).toNatClampNeg + ((16 : Int32)).toNatClampNeg) [z0, z0, z0, z0, z0, z0, z0, z0, z0, z0, z0, z0, z0, z0, z0, z0, z0, z0, z0, z0, z0, z0, z0, z0, z0, z0, z0, z0, z0, z0, z0, z0, z0, z0]), rfl, N6, K6, sz_b2, c7, V6, (own_len3 (n := 34) rfl (by simp only [List.length_map, List.length_range]) (by decide)), rfl⟩
theorem ef_39 (m : MethodId) (x0 : Addr) : entryFrame m #[(.ref x0), (vI 27)] 3 = mkF m 0 #[vr x0, vi (27 : Int32), uu] [] := by first | (simp [entryFrame, mkF, argsToLocals, Value.category]; done) | rfl
def Q_rm_ensG_27_16_0 (Z : State) (r0 : Addr) (rv : Addr) (kv : ClassId) (vv : List Value) (h0 : Heap) (n0 : Nat) (v : Option Value) (h : Heap) (L : List Loc) : Prop := ∃ (nb : Addr), ∃ (nk : ClassId), ∃ (nv : List Value), (v = none ∧ Fr n0 L ∧ Keep h0 h [r0] ∧ Fld Z h r0 "java/lang/AbstractStringBuilder" "value" "[B" (.ref nb) ∧ Fld Z h r0 "java/lang/AbstractStringBuilder" "coder" "B" z0 ∧ Fld Z h r0 "java/lang/AbstractStringBuilder" "count" "I" z0 ∧ h0.size ≤ nb ∧ Exa Z h nb "[B" ∧ Arv Z h nb nk .byte (34 : Int32) nv z0 ∧ nv.length = 34 ∧ nv = own_grow 16 34 vv)
set_option maxRecDepth 65536 in
set_option maxHeartbeats 40000000 in
theorem rm_ensG_27_16_0 (l : Launch) (Z : State) (a0 : Array Value) (hw : ∀ d ∈ tables_1, d.before a0 Z = true) (ws : List Jvm.Cond) (r0 : Addr) (rv : Addr) (kv : ClassId) (vv : List Value) (h0 : Heap) (n0 : Nat) (Z0 : n0 ≤ h0.size) (uE : Exa Z h0 r0 "java/lang/StringBuilder") (uv : Fld Z h0 r0 "java/lang/AbstractStringBuilder" "value" "[B" (.ref rv)) (uc : Fld Z h0 r0 "java/lang/AbstractStringBuilder" "coder" "B" z0) (uV : Arv Z h0 rv kv .byte (16 : Int32) vv z0) (uk : Fld Z h0 r0 "java/lang/AbstractStringBuilder" "count" "I" z0) (ug : n0 ≤ r0) :
    MetFree l M12 (head1 (Jvm.Cond.code M12 jdk_68_method_9_code 3 none :: ws) ({ frames := 3, cells := 1, slots := 34, locals := 48 } : Room)) (fun a U => a = #[(.ref r0), (vI 27)] ∧ Z.Warmed39 U.vm ∧ U.heap = h0) (fun _ _ _ _ _ => True) (fun _ U o U' => ∃ v L, o = .returned v ∧ Q_rm_ensG_27_16_0 Z r0 rv kv vv h0 n0 v U'.heap L ∧ FrameEnd U o U' L ({ frames := 3, cells := 1, slots := 34, locals := 48 } : Room).cells ({ frames := 3, cells := 1, slots := 34, locals := 48 } : Room).slots) := by
  refine MetFree.of_bodySF (plainFor_of_name pn_1) hisR ?_
  intro p e s m args below meth c s₁ Bd hml0 hP hK
  obtain ⟨rfl, hZ, hh⟩ := hP
  have hx := Bd.exec
  have hby := Bd.bytes
  have hml : c.maxLocals = 3 := hml0
  have hown : s.vm.findClass "java/lang/AbstractStringBuilder" = some m.cls := findClass_of_methodNamed Bd.named
  have hnm := (name_of_methodNamed Bd.named Bd.method).1
  have X0 : Stand p l e ({ frames := 3, cells := 1, slots := 34, locals := 48 } : Room) s m #[(.ref r0), (vI 27)] below meth c s₁ [] 0 0 := Stand.of_body Bd
  have e0 : s₁.heap = h0 := by rw [← hh, Bd.state]; rfl
  have N0 := Fr.nil n0
  have pre0 : ∀ t, Steps p.tables e below (s₁.setTop (mkF m 0 #[vr r0, vi (27 : Int32), uu] [])) t → Steps p.tables e below (s₁.setTop (entryFrame m #[(.ref r0), (vI 27)] 3)) t := fun t k => castTop (ef_39 m r0) k
  obtain ⟨T1, X1, e1, st1⟩ := getF X0 hx hZ hown (host := "") (Or.inl (wd hw 24 rfl)) Via.refl e0 uv (g := (mkF m 1 #[vr r0, vi (27 : Int32), uu] [(.ref r0)])) rfl rfl (hb hby d9_1)
  obtain ⟨cl2, Ar2, q2, S2, Nn2, H2, G2⟩ := (id uV)
  obtain ⟨T3, X3, e3, st3⟩ := getF X1 hx hZ hown (host := "") (Or.inl (wd hw 26 rfl)) Via.refl e1 uc (g := (mkF m 6 #[vr r0, vi (27 : Int32), uu] [(.ref r0), (vI 16)])) rfl rfl (hb hby d9_6)
  obtain ⟨T4, X4, e4, st4⟩ := getF X3 hx hZ hown (host := "") (Or.inl (wd hw 24 rfl)) Via.refl e3 uv (g := (mkF m 19 #[vr r0, vi (27 : Int32), vi (16 : Int32)] [(.ref r0), (.ref r0)])) rfl rfl (hb hby d9_19)
  obtain ⟨cq5, kq5, q5a, q5b, q5c⟩ := isOf hZ e4 uE
  obtain ⟨_, _, ⟨T5, Lw5, kw5, nw5⟩, -, X5, ⟨Lc5, hQ5, lq5, yq5, zq5⟩, st5⟩ := X4.virtualBack hx (y := M23) (z := M23) hown (mvT hZ (wd hw 64 rfl)) (mvT hZ (own_decl (wd hw 65 rfl) (wd hw 68 rfl))) (notFace_of_selects (args := #[]) (mvT hZ (wd hw 67 rfl))) (mvT hZ (wd hw 67 rfl)) (mvT hZ (wd hw 65 rfl)) (by decide) (backOf (W := 2) (rm_nc_27_16 l Z a0 hw [] r0 rv kv vv h0 n0 Z0 uE uv uc uV) hZ (wd hw 68 rfl) (wd hw 16 rfl) (by decide) (by decide)) q5a q5c (g := (mkF m 24 #[vr r0, vi (27 : Int32), vi (16 : Int32)] [(vI 27), (.ref r0), (.ref rv), (.ref r0)])) rfl (by rw [hml]; rfl) (Steps.refl _) (argsL := [(vI 27)]) (rest := [(.ref rv), (.ref r0)]) (lenOf pd_15 rfl) rfl (by show 2 * 0 + _ ≤ _; exact Nat.le_of_eq rfl) (hb hby d9_24) (fun _ _ => ⟨rfl, e4, (by decide : 0 + 0 ≤ _), (by decide : 0 + 0 ≤ _)⟩)
  dsimp only [Pt.U, Pt.locs, Pt.cells, Pt.slots] at X5 lq5 yq5 zq5 st5 hQ5
  have X5 := own_reb X5 lq5 yq5 zq5
  obtain ⟨rfl, Nq5, eh5⟩ := hQ5
  have N5 := Fr.app N0 Nq5
  obtain ⟨T6, X6, e6, st6⟩ := getF X5 hx hZ hown (host := "") (Or.inl (wd hw 26 rfl)) Via.refl eh5 uc (g := (mkF m 28 #[vr r0, vi (27 : Int32), vi (16 : Int32)] [(.ref r0), (vI 34), (.ref rv), (.ref r0)])) rfl rfl (hb hby d9_28)
  obtain ⟨_, _, ⟨T7, Lw7, kw7, nw7⟩, -, X7, ⟨Lc7, hQ7, lq7, yq7, zq7⟩, st7⟩ := Jvm.LawKit.callS X6 hx (y := M24) hown (mvT hZ (wd hw 79 rfl)) (mvT hZ (wd hw 80 rfl)) (mvT hZ (wd hw 81 rfl)) (mvT hZ (wd hw 82 rfl)) (by decide) (backOf (W := 1) (rm_co_16_34 l Z a0 hw [] rv kv vv h0 n0 Z0 uV) hZ (wd hw 82 rfl) (wd hw 81 rfl) (by decide) (by decide)) (g := (mkF m 32 #[vr r0, vi (27 : Int32), vi (16 : Int32)] [(vI 34), (.ref rv), (.ref r0)])) rfl (by rw [hml]; rfl) (argsL := [(.ref rv), (vI 34)]) (rest := [(.ref r0)]) (lenOf pd_16 rfl) rfl (by show 2 * 0 + _ ≤ _; exact Nat.le_of_eq rfl) (hb hby d9_32) (fun _ _ => ⟨rfl, e6, (by decide : 0 + 1 ≤ _), (by decide : 0 + 34 ≤ _)⟩)
  dsimp only [Pt.U, Pt.locs, Pt.cells, Pt.slots] at X7 lq7 yq7 zq7 st7 hQ7
  have X7 := own_reb X7 lq7 yq7 zq7
  obtain ⟨nb_7, nk_7, nv_7, rfl, Nq7, Kq7, f7_0, f7_1, f7_2, f7_3, f7_4⟩ := hQ7
  have N7 := Fr.app N5 Nq7
  have ne_r0_nb_7 : r0 ≠ nb_7 := Nat.ne_of_lt (Nat.lt_of_lt_of_le uE.lt f7_0)
  have ne_rv_nb_7 : rv ≠ nb_7 := Nat.ne_of_lt (Nat.lt_of_lt_of_le uV.lt f7_0)
  have g_nb_7 : n0 ≤ nb_7 := Nat.le_trans Z0 f7_0
  have sz_nb_7 : h0.size ≤ nb_7 := Nat.le_trans (Keep.refl h0 [r0]).1 f7_0
  have K7 : Keep h0 T7.heap [r0] := (Keep.refl h0 [r0]).trans Kq7 all0
  have Z7 : n0 ≤ T7.heap.size := Nat.le_trans Z0 Kq7.1
  have c9 := (uE.keep Kq7)
  have c10 := (uv.keep Kq7 nin0)
  obtain ⟨T8, h8, X8, e8, W8, st8⟩ := putF X7 hx hZ hown (host := "") (Or.inl (wd hw 24 rfl)) Via.refl rfl c10 c9 (Or.inl (wd hw 25 rfl)) (wd hw 7 rfl) (ty := (.array .byte)) (by decide) rfl rfl (g := (mkF m 35 #[vr r0, vi (27 : Int32), vi (16 : Int32)] [(.ref nb_7), (.ref r0)])) rfl rfl (hb hby d9_35)
  have Fw8 := c10.same W8
  have N8 := Fr.snoc X8 N7 ug
  have K8 : Keep h0 h8 [r0] := K7.wr W8 (Or.inl (List.mem_of_getElem? (i := 0) rfl))
  have Z8 : n0 ≤ h8.size := by rw [W8.size]; exact Z7
  have c11 := ((uc.keep Kq7 nin0).other W8 (Or.inr (slot_ne (Or.inl (wd hw 27 rfl)) (Or.inl (wd hw 25 rfl)) (by decide) (t := .byte) (t' := (.array .byte)) (by decide) (by decide))))
  have c12 := ((uk.keep Kq7 nin0).other W8 (Or.inr (slot_ne (Or.inl (wd hw 58 rfl)) (Or.inl (wd hw 25 rfl)) (by decide) (t := .int) (t' := (.array .byte)) (by decide) (by decide))))
  have c13 := (f7_1.wr W8)
  have c14 := (f7_2.other W8 (Ne.symm ne_r0_nb_7))
  obtain ⟨fs, hr, hrun, hended, hW, hsame⟩ := X8.leave (v := none) (fun _ => rfl)
  refine ⟨_, _, pre0 _ ?_, hrun, hended, _, _, rfl, ?_, ⟨_, rfl⟩, hW, hsame.mono (by decide) (by decide)⟩
  · show SS p e below s₁ (mkF m 0 #[vr r0, vi (27 : Int32), uu] []) _
    refine XS.aloadN X0.here hx rfl (hb hby d9_0) rfl rfl ?_
    refine st1 _ ?_
    show SS p e below T1 (mkF m 4 #[vr r0, vi (27 : Int32), uu] [(.ref rv)]) _
    refine X1.arraylength hx (own_at e1 Ar2.1) (State.isArrayOf_alike hZ.alike Ar2.2.1) (g := (mkF m 4 #[vr r0, vi (27 : Int32), uu] [(.ref rv)])) rfl rfl (hb hby d9_4) _ ?_
    rw [len_of S2 Nn2]
    refine XS.aloadN X1.here hx rfl (hb hby d9_5) rfl rfl ?_
    refine st3 _ ?_
    show SS p e below T3 (mkF m 9 #[vr r0, vi (27 : Int32), uu] [z0, (vI 16)]) _
    refine XS.ishr X3.here hx rfl (hb hby d9_9) rfl ?_
    show SS p e below T3 (mkF m 10 #[vr r0, vi (27 : Int32), uu] [(.int ((16 : Int32) >>> ((0 : Int32) &&& 31)))]) _
    rw [own_shr0 _]
    refine XS.istoreN X3.here hx rfl (hb hby d9_10) rfl (l' := #[vr r0, vi (27 : Int32), vi (16 : Int32)]) rfl ?_
    refine XS.iloadN X3.here hx rfl (hb hby d9_11) rfl ?_
    refine XS.iloadN X3.here hx rfl (hb hby d9_12) rfl ?_
    refine XS.isub X3.here hx rfl (hb hby d9_13) rfl ?_
    show SS p e below T3 (mkF m 14 #[vr r0, vi (27 : Int32), vi (16 : Int32)] [(.int ((27 : Int32) - (16 : Int32)))]) _
    refine XS.ifNo X3.here hx rfl (hb hby d9_14) rfl ((if0 _ _).trans (tlt (by decide : (0 : Int32) < ((27 : Int32) - (16 : Int32)))).2.2.2) ?_
    refine XS.aloadN X3.here hx rfl (hb hby d9_17) rfl rfl ?_
    refine XS.aloadN X3.here hx rfl (hb hby d9_18) rfl rfl ?_
    refine st4 _ ?_
    refine XS.aloadN X4.here hx rfl (hb hby d9_22) rfl rfl ?_
    refine XS.iloadN X4.here hx rfl (hb hby d9_23) rfl ?_
    show SS p e below T4 (mkF m 24 #[vr r0, vi (27 : Int32), vi (16 : Int32)] [(vI 27), (.ref r0), (.ref rv), (.ref r0)]) _
    refine st5.trans ?_
    refine XS.aloadN X5.here hx rfl (hb hby d9_27) rfl rfl ?_
    refine st6 _ ?_
    show SS p e below T6 (mkF m 31 #[vr r0, vi (27 : Int32), vi (16 : Int32)] [z0, (vI 34), (.ref rv), (.ref r0)]) _
    refine XS.ishl X6.here hx rfl (hb hby d9_31) rfl ?_
    show SS p e below T6 (mkF m 32 #[vr r0, vi (27 : Int32), vi (16 : Int32)] [(.int ((34 : Int32) <<< ((0 : Int32) &&& 31))), (.ref rv), (.ref r0)]) _
    rw [(show ((34 : Int32) <<< ((0 : Int32) &&& 31)) = (34 : Int32) from by decide)]
    show SS p e below T6 (mkF m 32 #[vr r0, vi (27 : Int32), vi (16 : Int32)] [(vI 34), (.ref rv), (.ref r0)]) _
    refine st7 _ ?_
    refine st8 _ ?_
    exact X8.returnOut hx Bd.returns (hb hby d9_38) hr
  · show Q_rm_ensG_27_16_0 Z r0 rv kv vv h0 n0 _ T8.heap _
    rw [e8]
    exact ⟨nb_7, nk_7, nv_7, rfl, N8, K8, Fw8, c11, c12, sz_nb_7, c13, c14, f7_3, f7_4⟩
def Q_rm_app_asb_0_27_16 (Z : State) (r0 : Addr) (r1 : Addr) (zc : Int32) (rv : Addr) (kv : ClassId) (vv : List Value) (rt : Addr) (kt : ClassId) (vt : List Value) (h0 : Heap) (n0 : Nat) (v : Option Value) (h : Heap) (L : List Loc) : Prop := ∃ (nb : Addr), ∃ (nk : ClassId), ∃ (nv : List Value), (v = some (.ref r0) ∧ Fr n0 L ∧ Keep h0 h [r0] ∧ Fld Z h r0 "java/lang/AbstractStringBuilder" "value" "[B" (.ref nb) ∧ Fld Z h r0 "java/lang/AbstractStringBuilder" "coder" "B" z0 ∧ Fld Z h r0 "java/lang/AbstractStringBuilder" "count" "I" (vI 27) ∧ h0.size ≤ nb ∧ Exa Z h nb "[B" ∧ Arv Z h nb nk .byte (34 : Int32) nv z0 ∧ nv.length = 34 ∧ nv = own_put 0 27 (own_grow 16 34 vv) vt)
set_option maxRecDepth 65536 in
set_option maxHeartbeats 40000000 in
theorem rm_app_asb_0_27_16 (l : Launch) (Z : State) (a0 : Array Value) (hw : ∀ d ∈ tables_1, d.before a0 Z = true) (ws : List Jvm.Cond) (r0 : Addr) (r1 : Addr) (zc : Int32) (rv : Addr) (kv : ClassId) (vv : List Value) (rt : Addr) (kt : ClassId) (vt : List Value) (h0 : Heap) (n0 : Nat) (Z0 : n0 ≤ h0.size) (uO : Old Z n0 h0) (uS : Sta Z Z.heap "java/lang/String" "COMPACT_STRINGS" "Z" (.int zc)) (uP : ¬ zc = 0) (uE : Exa Z h0 r0 "java/lang/StringBuilder") (uv : Fld Z h0 r0 "java/lang/AbstractStringBuilder" "value" "[B" (.ref rv)) (uc : Fld Z h0 r0 "java/lang/AbstractStringBuilder" "coder" "B" z0) (uV : Arv Z h0 rv kv .byte (16 : Int32) vv z0) (uL : vv.length = 16) (uk : Fld Z h0 r0 "java/lang/AbstractStringBuilder" "count" "I" z0) (us : Exa Z h0 r1 "java/lang/String") (usv : Fld Z h0 r1 "java/lang/String" "value" "[B" (.ref rt)) (usc : Fld Z h0 r1 "java/lang/String" "coder" "B" z0) (usV : Arv Z h0 rt kt .byte (27 : Int32) vt z0) (ug : n0 ≤ r0) (ugv : n0 ≤ rv) :
    MetFree l M15 (head1 (Jvm.Cond.code M15 jdk_68_method_22_code 3 (some (.object "java/lang/AbstractStringBuilder")) :: ws) ({ frames := 4, cells := 1, slots := 34, locals := 62 } : Room)) (fun a U => a = #[(.ref r0), (.ref r1)] ∧ Z.Warmed39 U.vm ∧ U.heap = h0) (fun _ _ _ _ _ => True) (fun _ U o U' => ∃ v L, o = .returned v ∧ Q_rm_app_asb_0_27_16 Z r0 r1 zc rv kv vv rt kt vt h0 n0 v U'.heap L ∧ FrameEnd U o U' L ({ frames := 4, cells := 1, slots := 34, locals := 62 } : Room).cells ({ frames := 4, cells := 1, slots := 34, locals := 62 } : Room).slots) := by
  refine MetFree.of_bodySF (plainFor_of_name pn_1) hisR ?_
  intro p e s m args below meth c s₁ Bd hml0 hP hK
  obtain ⟨rfl, hZ, hh⟩ := hP
  have hx := Bd.exec
  have hby := Bd.bytes
  have hml : c.maxLocals = 3 := hml0
  have hown : s.vm.findClass "java/lang/AbstractStringBuilder" = some m.cls := findClass_of_methodNamed Bd.named
  have hnm := (name_of_methodNamed Bd.named Bd.method).1
  have X0 : Stand p l e ({ frames := 4, cells := 1, slots := 34, locals := 62 } : Room) s m #[(.ref r0), (.ref r1)] below meth c s₁ [] 0 0 := Stand.of_body Bd
  have e0 : s₁.heap = h0 := by rw [← hh, Bd.state]; rfl
  have N0 := Fr.nil n0
  have pre0 : ∀ t, Steps p.tables e below (s₁.setTop (mkF m 0 #[vr r0, vr r1, uu] [])) t → Steps p.tables e below (s₁.setTop (entryFrame m #[(.ref r0), (.ref r1)] 3)) t := fun t k => castTop (ef_15 m r0 r1) k
  obtain ⟨cq1, kq1, q1a, q1b, q1c⟩ := isOf hZ e0 us
  obtain ⟨_, _, ⟨T1, Lw1, kw1, nw1⟩, -, X1, ⟨Lc1, hQ1, lq1, yq1, zq1⟩, st1⟩ := X0.virtualBack hx (y := M3) (z := M3) hown (mvT hZ (wd hw 44 rfl)) (mvT hZ (wd hw 45 rfl)) (notFace_of_selects (args := #[]) (mvT hZ (wd hw 47 rfl))) (mvT hZ (wd hw 47 rfl)) (mvT hZ (wd hw 46 rfl)) (by decide) (backOf (W := 0) (rmLen l Z a0 hw [] r1 zc rt kt (27 : Int32) vt h0 n0 Z0 uO uS uP us usv usc usV) hZ (wd hw 48 rfl) (wd hw 22 rfl) (by decide) (by decide)) q1a q1c (g := (mkF m 10 #[vr r0, vr r1, uu] [(.ref r1)])) rfl (by rw [hml]; rfl) (Steps.refl _) (argsL := []) (rest := []) (lenOf pd_2 rfl) rfl (by show 2 * 0 + _ ≤ _; exact Nat.le_of_eq rfl) (hb hby d6_10) (fun _ _ => ⟨rfl, e0, (by decide : 0 + 0 ≤ _), (by decide : 0 + 0 ≤ _)⟩)
  dsimp only [Pt.U, Pt.locs, Pt.cells, Pt.slots] at X1 lq1 yq1 zq1 st1 hQ1
  have X1 := own_reb X1 lq1 yq1 zq1
  obtain ⟨rfl, Nq1, eh1⟩ := hQ1
  have N1 := Fr.app N0 Nq1
  obtain ⟨T2, X2, e2, st2⟩ := getF X1 hx hZ hown (host := "") (Or.inl (wd hw 57 rfl)) Via.refl eh1 uk (g := (mkF m 16 #[vr r0, vr r1, vi (27 : Int32)] [(.ref r0), (.ref r0)])) rfl rfl (hb hby d6_16)
  obtain ⟨cq3, kq3, q3a, q3b, q3c⟩ := isOf hZ e2 uE
  obtain ⟨_, _, ⟨T3, Lw3, kw3, nw3⟩, -, X3, ⟨Lc3, hQ3, lq3, yq3, zq3⟩, st3⟩ := X2.virtualBack hx (y := M12) (z := M12) hown (mvT hZ (wd hw 59 rfl)) (mvT hZ (own_decl (wd hw 60 rfl) (wd hw 63 rfl))) (notFace_of_selects (args := #[]) (mvT hZ (wd hw 62 rfl))) (mvT hZ (wd hw 62 rfl)) (mvT hZ (wd hw 60 rfl)) (by decide) (backOf (W := 0) (rm_ensG_27_16_0 l Z a0 hw [] r0 rv kv vv h0 n0 Z0 uE uv uc uV uk ug) hZ (wd hw 63 rfl) (wd hw 16 rfl) (by decide) (by decide)) q3a q3c (g := (mkF m 21 #[vr r0, vr r1, vi (27 : Int32)] [(vI 27), (.ref r0)])) rfl (by rw [hml]; rfl) (Steps.refl _) (argsL := [(vI 27)]) (rest := []) (lenOf pd_1 rfl) rfl (by show 2 * 0 + _ ≤ _; exact Nat.le_of_eq rfl) (hb hby d6_21) (fun _ _ => ⟨rfl, e2, (by decide : 0 + 1 ≤ _), (by decide : 0 + 34 ≤ _)⟩)
  dsimp only [Pt.U, Pt.locs, Pt.cells, Pt.slots] at X3 lq3 yq3 zq3 st3 hQ3
  have X3 := own_reb X3 lq3 yq3 zq3
  obtain ⟨nb_3, nk_3, nv_3, rfl, Nq3, Kq3, f3_0, f3_1, f3_2, f3_3, f3_4, f3_5, f3_6, f3_7⟩ := hQ3
  have N3 := Fr.app N1 Nq3
  have ne_r0_nb_3 : r0 ≠ nb_3 := Nat.ne_of_lt (Nat.lt_of_lt_of_le uE.lt f3_3)
  have ne_rv_nb_3 : rv ≠ nb_3 := Nat.ne_of_lt (Nat.lt_of_lt_of_le uV.lt f3_3)
  have ne_r1_nb_3 : r1 ≠ nb_3 := Nat.ne_of_lt (Nat.lt_of_lt_of_le us.lt f3_3)
  have ne_rt_nb_3 : rt ≠ nb_3 := Nat.ne_of_lt (Nat.lt_of_lt_of_le usV.lt f3_3)
  have g_nb_3 : n0 ≤ nb_3 := Nat.le_trans Z0 f3_3
  have sz_nb_3 : h0.size ≤ nb_3 := Nat.le_trans (Keep.refl h0 [r0]).1 f3_3
  have K3 : Keep h0 T3.heap [r0] := (Keep.refl h0 [r0]).trans Kq3 (allS (Or.inl (List.mem_of_getElem? (i := 0) rfl)) all0)
  have Z3 : n0 ≤ T3.heap.size := Nat.le_trans Z0 Kq3.1
  obtain ⟨T4, X4, e4, st4⟩ := getF X3 hx hZ hown (host := "") (Or.inl (wd hw 57 rfl)) Via.refl rfl f3_2 (g := (mkF m 26 #[vr r0, vr r1, vi (27 : Int32)] [(.ref r0), (.ref r0)])) rfl rfl (hb hby d6_26)
  have c6 := (uO.keep Kq3 (allS ug all0))
  have c7 := (uE.keep Kq3)
  have c8 := (us.keep Kq3)
  have c9 := (usv.keep Kq3 (ninS (Exa.ne us uE (by decide)) nin0))
  have c10 := (usc.keep Kq3 (ninS (Exa.ne us uE (by decide)) nin0))
  have c11 := (usV.keep Kq3 (ninS (Ne.symm (Exa.neArv uE usV (wd hw 7 rfl))) nin0))
  obtain ⟨cq5, kq5, q5a, q5b, q5c⟩ := isOf hZ e4 c7
  obtain ⟨_, _, ⟨T5, Lw5, kw5, nw5⟩, -, X5, ⟨Lc5, hQ5, lq5, yq5, zq5⟩, st5⟩ := X4.virtualBack hx (y := M14) (z := M14) hown (mvT hZ (wd hw 90 rfl)) (mvT hZ (own_decl (wd hw 91 rfl) (wd hw 94 rfl))) (notFace_of_selects (args := #[]) (mvT hZ (wd hw 93 rfl))) (mvT hZ (wd hw 93 rfl)) (mvT hZ (wd hw 91 rfl)) (by decide) (backOf (W := 0) (rm_ps_0_27_34 l Z a0 hw [] r0 r1 zc nb_3 nk_3 nv_3 rt kt vt T3.heap n0 Z3 c6 uS uP c7 f3_0 f3_1 f3_5 f3_6 c8 c9 c10 c11 g_nb_3) hZ (wd hw 94 rfl) (wd hw 16 rfl) (by decide) (by decide)) q5a q5c (g := (mkF m 30 #[vr r0, vr r1, vi (27 : Int32)] [(.ref r1), z0, (.ref r0)])) rfl (by rw [hml]; rfl) (Steps.refl _) (argsL := [z0, (.ref r1)]) (rest := []) (lenOf pd_5 rfl) rfl (by show 2 * 0 + _ ≤ _; exact Nat.le_of_eq rfl) (hb hby d6_30) (fun _ _ => ⟨rfl, e4, (by decide : 1 + 0 ≤ _), (by decide : 34 + 0 ≤ _)⟩)
  dsimp only [Pt.U, Pt.locs, Pt.cells, Pt.slots] at X5 lq5 yq5 zq5 st5 hQ5
  have X5 := own_reb X5 lq5 yq5 zq5
  obtain ⟨nv_5, rfl, Nq5, Kq5, f5_0, f5_1, f5_2⟩ := hQ5
  have N5 := Fr.app N3 Nq5
  have K5 : Keep h0 T5.heap [r0] := K3.trans Kq5 (allS (Or.inr sz_nb_3) all0)
  have Z5 : n0 ≤ T5.heap.size := Nat.le_trans Z3 Kq5.1
  have c13 := (f3_2.keep Kq5 (ninS ne_r0_nb_3 nin0))
  obtain ⟨T12, X12, e12, st12⟩ := getF X5 hx hZ hown (host := "") (Or.inl (wd hw 57 rfl)) Via.refl rfl c13 (g := (mkF m 35 #[vr r0, vr r1, vi (27 : Int32)] [(.ref r0), (.ref r0)])) rfl rfl (hb hby d6_35)
  have c15 := (c7.keep Kq5)
  obtain ⟨T14, h14, X14, e14, W14, st14⟩ := putF X12 hx hZ hown (host := "") (Or.inl (wd hw 57 rfl)) Via.refl e12 c13 c15 (Or.inl (wd hw 58 rfl)) (wd hw 7 rfl) (ty := .int) (by decide) rfl rfl (g := (mkF m 40 #[vr r0, vr r1, vi (27 : Int32)] [(vI 27), (.ref r0)])) rfl rfl (hb hby d6_40)
  have Fw14 := c13.same W14
  have N14 := Fr.snoc X14 N5 ug
  have K14 : Keep h0 h14 [r0] := K5.wr W14 (Or.inl (List.mem_of_getElem? (i := 0) rfl))
  have Z14 : n0 ≤ h14.size := by rw [W14.size]; exact Z5
  have c16 := ((f3_0.keep Kq5 (ninS ne_r0_nb_3 nin0)).other W14 (Or.inr (slot_ne (Or.inl (wd hw 25 rfl)) (Or.inl (wd hw 58 rfl)) (by decide) (t := (.array .byte)) (t' := .int) (by decide) (by decide))))
  have c17 := ((f3_1.keep Kq5 (ninS ne_r0_nb_3 nin0)).other W14 (Or.inr (slot_ne (Or.inl (wd hw 27 rfl)) (Or.inl (wd hw 58 rfl)) (by decide) (t := .byte) (t' := .int) (by decide) (by decide))))
  have c18 := ((f3_4.keep Kq5).wr W14)
  have c19 := (f5_0.other W14 (Ne.symm ne_r0_nb_3))
  obtain ⟨fs, hr, hrun, hended, hW, hsame⟩ := X14.leave (v := some (.ref r0)) (fun h => by rw [Bd.returns] at h; cases h)
  refine ⟨_, _, pre0 _ ?_, hrun, hended, _, _, rfl, ?_, ⟨_, rfl⟩, hW, hsame.mono (by decide) (by decide)⟩
  · show SS p e below s₁ (mkF m 0 #[vr r0, vr r1, uu] []) _
    refine XS.aloadN X0.here hx rfl (hb hby d6_0) rfl rfl ?_
    show SS p e below s₁ (mkF m 1 #[vr r0, vr r1, uu] [(.ref r1)]) _
    refine XS.ifnonnullYes X0.here hx rfl (pc0 := 1) (pc' := 9) rfl (hb hby d6_1) rfl (by decide) (by decide) ?_
    refine XS.aloadN X0.here hx rfl (hb hby d6_9) rfl rfl ?_
    show SS p e below s₁ (mkF m 10 #[vr r0, vr r1, uu] [(.ref r1)]) _
    refine st1.trans ?_
    refine XS.istoreN X1.here hx rfl (hb hby d6_13) rfl (l' := #[vr r0, vr r1, vi (27 : Int32)]) rfl ?_
    refine XS.aloadN X1.here hx rfl (hb hby d6_14) rfl rfl ?_
    refine XS.aloadN X1.here hx rfl (hb hby d6_15) rfl rfl ?_
    refine st2 _ ?_
    refine XS.iloadN X2.here hx rfl (hb hby d6_19) rfl ?_
    refine XS.iadd X2.here hx rfl (hb hby d6_20) rfl ?_
    show SS p e below T2 (mkF m 21 #[vr r0, vr r1, vi (27 : Int32)] [(.int ((0 : Int32) + (27 : Int32))), (.ref r0)]) _
    rw [(show ((0 : Int32) + (27 : Int32)) = (27 : Int32) from by decide)]
    show SS p e below T2 (mkF m 21 #[vr r0, vr r1, vi (27 : Int32)] [(vI 27), (.ref r0)]) _
    refine st3.trans ?_
    refine XS.aloadN X3.here hx rfl (hb hby d6_24) rfl rfl ?_
    refine XS.aloadN X3.here hx rfl (hb hby d6_25) rfl rfl ?_
    refine st4 _ ?_
    refine XS.aloadN X4.here hx rfl (hb hby d6_29) rfl rfl ?_
    show SS p e below T4 (mkF m 30 #[vr r0, vr r1, vi (27 : Int32)] [(.ref r1), z0, (.ref r0)]) _
    refine st5.trans ?_
    refine XS.aloadN X5.here hx rfl (hb hby d6_33) rfl rfl ?_
    refine XS.dup X5.here hx rfl (hb hby d6_34) rfl rfl ?_
    refine st12 _ ?_
    refine XS.iloadN X12.here hx rfl (hb hby d6_38) rfl ?_
    refine XS.iadd X12.here hx rfl (hb hby d6_39) rfl ?_
    show SS p e below T12 (mkF m 40 #[vr r0, vr r1, vi (27 : Int32)] [(.int ((0 : Int32) + (27 : Int32))), (.ref r0)]) _
    rw [(show ((0 : Int32) + (27 : Int32)) = (27 : Int32) from by decide)]
    refine st14 _ ?_
    refine XS.aloadN X14.here hx rfl (hb hby d6_43) rfl rfl ?_
    exact retOut X14 hx Bd.returns rfl (Or.inr (Or.inr (Or.inr (Or.inr ⟨rfl, rfl, rfl⟩)))) (hb hby d6_44) hr
  · show Q_rm_app_asb_0_27_16 Z r0 r1 zc rv kv vv rt kt vt h0 n0 _ T14.heap _
    rw [e14]
    exact ⟨nb_3, nk_3, nv_5, rfl, N14, K14, c16, c17, Fw14, sz_nb_3, c18, c19, f5_1, (by rw [f5_2, f3_7])⟩
def Q_rm_app_sb_0_27_16 (Z : State) (r0 : Addr) (r1 : Addr) (zc : Int32) (rv : Addr) (kv : ClassId) (vv : List Value) (rt : Addr) (kt : ClassId) (vt : List Value) (h0 : Heap) (n0 : Nat) (v : Option Value) (h : Heap) (L : List Loc) : Prop := ∃ (nb : Addr), ∃ (nk : ClassId), ∃ (nv : List Value), (v = some (.ref r0) ∧ Fr n0 L ∧ Keep h0 h [r0] ∧ Fld Z h r0 "java/lang/AbstractStringBuilder" "value" "[B" (.ref nb) ∧ Fld Z h r0 "java/lang/AbstractStringBuilder" "coder" "B" z0 ∧ Fld Z h r0 "java/lang/AbstractStringBuilder" "count" "I" (vI 27) ∧ h0.size ≤ nb ∧ Exa Z h nb "[B" ∧ Arv Z h nb nk .byte (34 : Int32) nv z0 ∧ nv.length = 34 ∧ nv = own_put 0 27 (own_grow 16 34 vv) vt)
set_option maxRecDepth 65536 in
set_option maxHeartbeats 40000000 in
theorem rm_app_sb_0_27_16 (l : Launch) (Z : State) (a0 : Array Value) (hw : ∀ d ∈ tables_1, d.before a0 Z = true) (ws : List Jvm.Cond) (r0 : Addr) (r1 : Addr) (zc : Int32) (rv : Addr) (kv : ClassId) (vv : List Value) (rt : Addr) (kt : ClassId) (vt : List Value) (h0 : Heap) (n0 : Nat) (Z0 : n0 ≤ h0.size) (uO : Old Z n0 h0) (uS : Sta Z Z.heap "java/lang/String" "COMPACT_STRINGS" "Z" (.int zc)) (uP : ¬ zc = 0) (uE : Exa Z h0 r0 "java/lang/StringBuilder") (uv : Fld Z h0 r0 "java/lang/AbstractStringBuilder" "value" "[B" (.ref rv)) (uc : Fld Z h0 r0 "java/lang/AbstractStringBuilder" "coder" "B" z0) (uV : Arv Z h0 rv kv .byte (16 : Int32) vv z0) (uL : vv.length = 16) (uk : Fld Z h0 r0 "java/lang/AbstractStringBuilder" "count" "I" z0) (us : Exa Z h0 r1 "java/lang/String") (usv : Fld Z h0 r1 "java/lang/String" "value" "[B" (.ref rt)) (usc : Fld Z h0 r1 "java/lang/String" "coder" "B" z0) (usV : Arv Z h0 rt kt .byte (27 : Int32) vt z0) (ug : n0 ≤ r0) (ugv : n0 ≤ rv) :
    MetFree l M16 (head1 (Jvm.Cond.code M16 jdk_67_method_7_code 2 (some (.object "java/lang/StringBuilder")) :: ws) ({ frames := 5, cells := 1, slots := 34, locals := 76 } : Room)) (fun a U => a = #[(.ref r0), (.ref r1)] ∧ Z.Warmed39 U.vm ∧ U.heap = h0) (fun _ _ _ _ _ => True) (fun _ U o U' => ∃ v L, o = .returned v ∧ Q_rm_app_sb_0_27_16 Z r0 r1 zc rv kv vv rt kt vt h0 n0 v U'.heap L ∧ FrameEnd U o U' L ({ frames := 5, cells := 1, slots := 34, locals := 76 } : Room).cells ({ frames := 5, cells := 1, slots := 34, locals := 76 } : Room).slots) := by
  refine MetFree.of_bodySF (plainFor_of_name pn_2) hisR ?_
  intro p e s m args below meth c s₁ Bd hml0 hP hK
  obtain ⟨rfl, hZ, hh⟩ := hP
  have hx := Bd.exec
  have hby := Bd.bytes
  have hml : c.maxLocals = 2 := hml0
  have hown : s.vm.findClass "java/lang/StringBuilder" = some m.cls := findClass_of_methodNamed Bd.named
  have hnm := (name_of_methodNamed Bd.named Bd.method).1
  have X0 : Stand p l e ({ frames := 5, cells := 1, slots := 34, locals := 76 } : Room) s m #[(.ref r0), (.ref r1)] below meth c s₁ [] 0 0 := Stand.of_body Bd
  have e0 : s₁.heap = h0 := by rw [← hh, Bd.state]; rfl
  have N0 := Fr.nil n0
  have pre0 : ∀ t, Steps p.tables e below (s₁.setTop (mkF m 0 #[vr r0, vr r1] [])) t → Steps p.tables e below (s₁.setTop (entryFrame m #[(.ref r0), (.ref r1)] 2)) t := fun t k => castTop (ef_16 m r0 r1) k
  obtain ⟨_, _, ⟨T1, Lw1, kw1, nw1⟩, -, X1, ⟨Lc1, hQ1, lq1, yq1, zq1⟩, st1⟩ := superBack X0 hx hZ (y := M15) hown (wd hw 39 rfl) (own_same (wd hw 40 rfl) (own_face (wd hw 62 rfl) rfl) (by decide)) (wd hw 40 rfl) (wd hw 41 rfl) (by decide) (backOf (W := 0) (rm_app_asb_0_27_16 l Z a0 hw [] r0 r1 zc rv kv vv rt kt vt h0 n0 Z0 uO uS uP uE uv uc uV uL uk us usv usc usV ug ugv) hZ (wd hw 43 rfl) (wd hw 16 rfl) (by decide) (by decide)) e0 (Ins.self uE) (g := (mkF m 2 #[vr r0, vr r1] [(.ref r1), (.ref r0)])) rfl (by rw [hml]; rfl) (wd hw 43 rfl) (argsL := [(.ref r1)]) (rest := []) (lenOf pd_6 rfl) rfl (by show 2 * 0 + _ ≤ _; exact Nat.le_of_eq rfl) (hb hby d5_2) (fun _ _ => ⟨rfl, e0, (by decide : 0 + 1 ≤ _), (by decide : 0 + 34 ≤ _)⟩)
  dsimp only [Pt.U, Pt.locs, Pt.cells, Pt.slots] at X1 lq1 yq1 zq1 st1 hQ1
  have X1 := own_reb X1 lq1 yq1 zq1
  obtain ⟨nb_1, nk_1, nv_1, rfl, Nq1, Kq1, f1_0, f1_1, f1_2, f1_3, f1_4, f1_5, f1_6, f1_7⟩ := hQ1
  have N1 := Fr.app N0 Nq1
  have ne_r0_nb_1 : r0 ≠ nb_1 := Nat.ne_of_lt (Nat.lt_of_lt_of_le uE.lt f1_3)
  have ne_rv_nb_1 : rv ≠ nb_1 := Nat.ne_of_lt (Nat.lt_of_lt_of_le uV.lt f1_3)
  have ne_r1_nb_1 : r1 ≠ nb_1 := Nat.ne_of_lt (Nat.lt_of_lt_of_le us.lt f1_3)
  have ne_rt_nb_1 : rt ≠ nb_1 := Nat.ne_of_lt (Nat.lt_of_lt_of_le usV.lt f1_3)
  have g_nb_1 : n0 ≤ nb_1 := Nat.le_trans Z0 f1_3
  have sz_nb_1 : h0.size ≤ nb_1 := Nat.le_trans (Keep.refl h0 [r0]).1 f1_3
  have K1 : Keep h0 T1.heap [r0] := (Keep.refl h0 [r0]).trans Kq1 (allS (Or.inl (List.mem_of_getElem? (i := 0) rfl)) all0)
  have Z1 : n0 ≤ T1.heap.size := Nat.le_trans Z0 Kq1.1
  obtain ⟨fs, hr, hrun, hended, hW, hsame⟩ := X1.leave (v := some (.ref r0)) (fun h => by rw [Bd.returns] at h; cases h)
  refine ⟨_, _, pre0 _ ?_, hrun, hended, _, _, rfl, ?_, ⟨_, rfl⟩, hW, hsame.mono (by decide) (by decide)⟩
  · show SS p e below s₁ (mkF m 0 #[vr r0, vr r1] []) _
    refine XS.aloadN X0.here hx rfl (hb hby d5_0) rfl rfl ?_
    refine XS.aloadN X0.here hx rfl (hb hby d5_1) rfl rfl ?_
    show SS p e below s₁ (mkF m 2 #[vr r0, vr r1] [(.ref r1), (.ref r0)]) _
    refine st1.trans ?_
    refine XS.pop X1.here hx rfl (hb hby d5_5) rfl rfl ?_
    refine XS.aloadN X1.here hx rfl (hb hby d5_6) rfl rfl ?_
    exact retOut X1 hx Bd.returns rfl (Or.inr (Or.inr (Or.inr (Or.inr ⟨rfl, rfl, rfl⟩)))) (hb hby d5_7) hr
  · show Q_rm_app_sb_0_27_16 Z r0 r1 zc rv kv vv rt kt vt h0 n0 _ T1.heap _
    exact ⟨nb_1, nk_1, nv_1, rfl, N1, K1, f1_0, f1_1, f1_2, sz_nb_1, f1_4, f1_5, f1_6, f1_7⟩
theorem ef_40 (m : MethodId) (x0 : Int32) : entryFrame m #[(.int x0)] 1 = mkF m 0 #[vi x0] [] := by first | (simp [entryFrame, mkF, argsToLocals, Value.category]; done) | rfl
theorem d1_0 : decode prog_2_method_7_code 0 = .ok (.new 8, 3) := by decide +kernel
theorem d1_3 : decode prog_2_method_7_code 3 = .ok (.dup, 1) := by decide +kernel
theorem d1_4 : decode prog_2_method_7_code 4 = .ok (.sipush 413, 3) := by decide +kernel
theorem d1_7 : decode prog_2_method_7_code 7 = .ok (.sipush 430, 3) := by decide +kernel
theorem d1_10 : decode prog_2_method_7_code 10 = .ok (.new 21, 3) := by decide +kernel
theorem d1_13 : decode prog_2_method_7_code 13 = .ok (.dup, 1) := by decide +kernel
theorem d1_14 : decode prog_2_method_7_code 14 = .ok (.invokespecial 23, 3) := by decide +kernel
theorem pd_19 : parseMethodDescriptor "()V" = some ⟨[], none⟩ := by decide +kernel
theorem d1_17 : decode prog_2_method_7_code 17 = .ok (.ldc 36, 2) := by decide +kernel
theorem own_strAtoms : ∀ d ∈ Bundle.stringAtoms, d ∈ tables_1 := by decide +kernel
theorem d1_19 : decode prog_2_method_7_code 19 = .ok (.invokevirtual 28, 3) := by decide +kernel
theorem pd_20 : parseMethodDescriptor "(Ljava/lang/String;)Ljava/lang/StringBuilder;" = some ⟨[(.object "java/lang/String")], some (.object "java/lang/StringBuilder")⟩ := by decide +kernel
theorem d1_22 : decode prog_2_method_7_code 22 = .ok (.iload_n 0, 1) := by decide +kernel
theorem d1_23 : decode prog_2_method_7_code 23 = .ok (.invokevirtual 38, 3) := by decide +kernel
theorem pd_21 : parseMethodDescriptor "(I)Ljava/lang/StringBuilder;" = some ⟨[.int], some (.object "java/lang/StringBuilder")⟩ := by decide +kernel
theorem d1_26 : decode prog_2_method_7_code 26 = .ok (.ldc 41, 2) := by decide +kernel
theorem d1_28 : decode prog_2_method_7_code 28 = .ok (.invokevirtual 28, 3) := by decide +kernel
theorem d1_31 : decode prog_2_method_7_code 31 = .ok (.invokevirtual 32, 3) := by decide +kernel
theorem pd_22 : parseMethodDescriptor "()Ljava/lang/String;" = some ⟨[], some (.object "java/lang/String")⟩ := by decide +kernel
theorem d1_34 : decode prog_2_method_7_code 34 = .ok (.invokespecial 16, 3) := by decide +kernel
theorem pd_23 : parseMethodDescriptor "(IILjava/lang/String;)V" = some ⟨[.int, .int, (.object "java/lang/String")], none⟩ := by decide +kernel
theorem d1_37 : decode prog_2_method_7_code 37 = .ok (.areturn, 1) := by decide +kernel
def Q_rmTL (Z : State) (p0 : Int32) (zc : Int32) (vu : Value) (vq : Value) (dg1 : Addr) (dg2 : Addr) (kd1 : ClassId) (kd2 : ClassId) (N : Nat) (sg : Nat) (d : Nat) (zs : Int32) (n1 : Int32) (n2 : Int32) (h0 : Heap) (n0 : Nat) (v : Option Value) (h : Heap) (L : List Loc) : Prop := ∃ (nx : Addr), ∃ (nm : Addr), ∃ (nt : Addr), ∃ (nk : ClassId), (v = some (.ref nx) ∧ Fr n0 L ∧ Keep h0 h [] ∧ h0.size ≤ nx ∧ Exa Z h nx "com/example/plain_hub/plainhub/HubException" ∧ Fld Z h nx "com/example/plain_hub/plainhub/HubException" "status" "I" (vI 413) ∧ Fld Z h nx "com/example/plain_hub/plainhub/HubException" "code" "I" (vI 430) ∧ Fld Z h nx "java/lang/Throwable" "detailMessage" "Ljava/lang/String;" (.ref nm) ∧ h0.size ≤ nm ∧ Exa Z h nm "java/lang/String" ∧ Fld Z h nm "java/lang/String" "coder" "B" z0 ∧ Fld Z h nm "java/lang/String" "value" "[B" (.ref nt) ∧ h0.size ≤ nt ∧ Arv Z h nt nk .byte (Int32.ofNat (own_cs N sg d).length) (((own_cs N sg d).map (fun c => c.toInt8.toInt32)).map Value.int) z0)
set_option maxRecDepth 65536 in
set_option maxHeartbeats 40000000 in
theorem rmTL (l : Launch) (Z : State) (a0 : Array Value) (hw : ∀ d ∈ tables_1, d.before a0 Z = true) (ws : List Jvm.Cond) (p0 : Int32) (zc : Int32) (vu : Value) (vq : Value) (dg1 : Addr) (dg2 : Addr) (kd1 : ClassId) (kd2 : ClassId) (N : Nat) (sg : Nat) (d : Nat) (zs : Int32) (n1 : Int32) (n2 : Int32) (h0 : Heap) (n0 : Nat) (Z0 : n0 ≤ h0.size) (uO : Old Z n0 h0) (uS : Sta Z Z.heap "java/lang/String" "COMPACT_STRINGS" "Z" (.int zc)) (uP : ¬ zc = 0) (uLt : l.stackTraces = true) (uZu : Sta Z Z.heap "java/lang/Throwable" "UNASSIGNED_STACK" "[Ljava/lang/StackTraceElement;" vu) (uRu : vu.isRef = true) (uZs : Sta Z Z.heap "java/lang/Throwable" "SUPPRESSED_SENTINEL" "Ljava/util/List;" vq) (uRs : vq.isRef = true) (uD : Sta Z Z.heap "java/lang/Integer" "DigitOnes" "[B" (.ref dg1)) (uDV : Arv Z Z.heap dg1 kd1 .byte (100 : Int32) own_ones z0) (uT : Sta Z Z.heap "java/lang/Integer" "DigitTens" "[B" (.ref dg2)) (uTV : Arv Z Z.heap dg2 kd2 .byte (100 : Int32) own_tens z0) (uL1 : (Jvm.Cond.laysStatic "java/lang/Integer" "DigitOnes" "[B").before a0 Z = true) (uL2 : (Jvm.Cond.laysStatic "java/lang/Integer" "DigitTens" "[B").before a0 Z = true) (uN : (if p0 < 0 then p0 else -p0) = Jvm.Free.SBG.negI N) (uNb : N ≤ 2 ^ 31) (usg : Jvm.Free.SBG.GetChars.sgn p0 = sg) (ud : Jvm.Free.SBG.digits N = d) (uSz : Jvm.Free.SBG.strSizeOf p0 = zs) (uN1 : ((27 : Int32) + zs) = n1) (ui : Int32.ofNat (27 + (d + sg)) = n1) (uN2 : (n1 + (6 : Int32)) = n2) (uML : n2 = Int32.ofNat (33 + (d + sg))) (uC3 : (¬ ((0 : Int32) < (n1 - (34 : Int32))) ∧ 27 + (d + sg) ≤ (34 : Int32).toNatClampNeg ∧ ¬ ((0 : Int32) < (n2 - (34 : Int32))) ∧ ¬ n1 < 0 ∧ n1.toNatClampNeg + (6 : Int32).toNatClampNeg ≤ (34 : Int32).toNatClampNeg ∧ n2 = (34 : Int32) ∧ n1.toNatClampNeg = 27 + (d + sg) ∧ d + sg = 1) ∨ (¬ ((0 : Int32) < (n1 - (34 : Int32))) ∧ 27 + (d + sg) ≤ (34 : Int32).toNatClampNeg ∧ (0 : Int32) < (n2 - (34 : Int32)) ∧ (n2 - (34 : Int32)) < (36 : Int32) ∧ ¬ n1 < 0 ∧ n1.toNatClampNeg + (6 : Int32).toNatClampNeg ≤ (70 : Int32).toNatClampNeg ∧ ¬ n2 < 0 ∧ n2 < (70 : Int32) ∧ n2.toNatClampNeg ≤ (70 : Int32).toNatClampNeg ∧ n2.toNatClampNeg ≤ 64 ∧ n1.toNatClampNeg = 27 + (d + sg) ∧ n2.toNatClampNeg = 33 + (d + sg) ∧ 27 + (d + sg) ≤ 34) ∨ ((0 : Int32) < (n1 - (34 : Int32)) ∧ (n1 - (34 : Int32)) < (36 : Int32) ∧ 27 + (d + sg) ≤ (70 : Int32).toNatClampNeg ∧ ¬ ((0 : Int32) < (n2 - (70 : Int32))) ∧ ¬ n1 < 0 ∧ n1.toNatClampNeg + (6 : Int32).toNatClampNeg ≤ (70 : Int32).toNatClampNeg ∧ ¬ n2 < 0 ∧ n2 < (70 : Int32) ∧ n2.toNatClampNeg ≤ (70 : Int32).toNatClampNeg ∧ n2.toNatClampNeg ≤ 64 ∧ n1.toNatClampNeg = 27 + (d + sg) ∧ n2.toNatClampNeg = 33 + (d + sg) ∧ 33 + (d + sg) ≤ 64)) :
    MetFree l M36 (head1 (Jvm.Cond.code M36 prog_2_method_7_code 1 (some (.object "com/example/plain_hub/plainhub/HubException")) :: ws) ({ frames := 7, cells := 12, slots := 3092, locals := 110 } : Room)) (fun a U => a = #[(.int p0)] ∧ Z.Warmed39 U.vm ∧ U.heap = h0 ∧ CHv Z own_EL U.vm h0) (fun _ _ bl s _ => s.vm.MethodsKnown ∧ s.vm.FramesKnown bl) (fun _ U o U' => ∃ v L, o = .returned v ∧ Q_rmTL Z p0 zc vu vq dg1 dg2 kd1 kd2 N sg d zs n1 n2 h0 n0 v U'.heap L ∧ CHr Z own_EL U.vm U.heap U'.vm U'.heap ∧ ReturnedEndW U o U' L ({ frames := 7, cells := 12, slots := 3092, locals := 110 } : Room).cells ({ frames := 7, cells := 12, slots := 3092, locals := 110 } : Room).slots) := by
  refine MetFree.of_bodySF (plainFor_of_name pn_8) hisR ?_
  intro p e s m args below meth c s₁ Bd hml0 hP hK
  obtain ⟨rfl, hZ, hh, hC0⟩ := hP
  have hx := Bd.exec
  have hby := Bd.bytes
  have hml : c.maxLocals = 1 := hml0
  have hown : s.vm.findClass "com/example/plain_hub/plainhub/HubException" = some m.cls := findClass_of_methodNamed Bd.named
  have hnm := (name_of_methodNamed Bd.named Bd.method).1
  have X0 : Stand p l e ({ frames := 7, cells := 12, slots := 3092, locals := 110 } : Room) (s.setVm s.vm) m #[(.int p0)] below meth c s₁ [] 0 0 := Stand.of_body Bd
  have e0 : s₁.heap = h0 := by rw [← hh, Bd.state]; rfl
  have N0 := Fr.nil n0
  have pre0 : ∀ t, Steps p.tables e below (s₁.setTop (mkF m 0 #[vi p0] [])) t → Steps p.tables e below (s₁.setTop (entryFrame m #[(.int p0)] 1)) t := fun t k => castTop (ef_40 m p0) k
  have hS0 : s.Since s.vm 0 := (State.WarmedH.refl s).since _
  have hk0 : 0 ≤ h0.size := Nat.zero_le _
  have R0 := CHr.refl hC0
  obtain ⟨T1, h1, X1, e1, E1, A1, D1, Un1, st1⟩ := newO X0 hx hZ hown (wd hw 4 rfl) (wd hw 5 rfl) (wd hw 2 rfl) e0 (g := (mkF m 0 #[vi p0] [])) rfl (hb hby d1_0) (by decide) (by decide)
  obtain ⟨b1, g1⟩ : ∃ z, z = h0.size := ⟨_, rfl⟩
  rw [← g1] at A1 D1 Un1 st1
  have Re2 := R0.trans (CHr.ext E1 hC0)
  have hCe2 := Re2.1
  have Ut1 : Unt h1 b1 := Un1
  have F1_cause : Fld Z h1 b1 "java/lang/Throwable" "cause" "Ljava/lang/Throwable;" .null := D1 (Or.inl (wd hw 192 rfl)) (ty := (.object "java/lang/Throwable")) (by decide)
  have F1_stackTrace : Fld Z h1 b1 "java/lang/Throwable" "stackTrace" "[Ljava/lang/StackTraceElement;" .null := D1 (Or.inl (wd hw 195 rfl)) (ty := (.array (.object "java/lang/StackTraceElement"))) (by decide)
  have F1_suppressedExceptions : Fld Z h1 b1 "java/lang/Throwable" "suppressedExceptions" "Ljava/util/List;" .null := D1 (Or.inl (wd hw 198 rfl)) (ty := (.object "java/util/List")) (by decide)
  have F1_detailMessage : Fld Z h1 b1 "java/lang/Throwable" "detailMessage" "Ljava/lang/String;" .null := D1 (Or.inl (wd hw 222 rfl)) (ty := (.object "java/lang/String")) (by decide)
  have F1_backtrace : Fld Z h1 b1 "java/lang/Throwable" "backtrace" "Ljava/lang/Object;" .null := D1 (Or.inl (wd hw 223 rfl)) (ty := (.object "java/lang/Object")) (by decide)
  have F1_depth : Fld Z h1 b1 "java/lang/Throwable" "depth" "I" z0 := D1 (Or.inl (wd hw 224 rfl)) (ty := .int) (by decide)
  have F1_status : Fld Z h1 b1 "com/example/plain_hub/plainhub/HubException" "status" "I" z0 := D1 (Or.inr (wd hw 228 rfl)) (ty := .int) (by decide)
  have F1_code : Fld Z h1 b1 "com/example/plain_hub/plainhub/HubException" "code" "I" z0 := D1 (Or.inr (wd hw 230 rfl)) (ty := .int) (by decide)
  have g_b1 : n0 ≤ b1 := Nat.le_trans Z0 (Nat.le_of_eq g1.symm)
  have sz_b1 : h0.size ≤ b1 := Nat.le_trans (Keep.refl h0 []).1 (Nat.le_of_eq g1.symm)
  have K1 : Keep h0 h1 [] := (Keep.refl h0 []).ext E1
  have Z1 : n0 ≤ h1.size := Nat.le_trans Z0 E1.1
  have hk1 : _ ≤ h1.size := Nat.le_trans hk0 E1.1
  obtain ⟨T3, h3, X3, e3, E3, A3, D3, Un3, st3⟩ := newO X1 hx hZ hown (wd hw 6 rfl) (wd hw 7 rfl) (wd hw 8 rfl) e1 (g := (mkF m 10 #[vi p0] [(vI 430), (vI 413), (.ref b1), (.ref b1)])) rfl (hb hby d1_10) (by decide) (by decide)
  obtain ⟨b3, g3⟩ : ∃ z, z = h1.size := ⟨_, rfl⟩
  rw [← g3] at A3 D3 Un3 st3
  have ne_b1_b3 : b1 ≠ b3 := Nat.ne_of_lt (Nat.lt_of_lt_of_le A1.lt (Nat.le_of_eq g3.symm))
  have Re4 := Re2.trans (CHr.ext E3 hCe2)
  have hCe4 := Re4.1
  have Ut3 : Unt h3 b3 := Un3
  have F3_value : Fld Z h3 b3 "java/lang/AbstractStringBuilder" "value" "[B" .null := D3 (Or.inl (wd hw 25 rfl)) (ty := (.array .byte)) (by decide)
  have F3_coder : Fld Z h3 b3 "java/lang/AbstractStringBuilder" "coder" "B" z0 := D3 (Or.inl (wd hw 27 rfl)) (ty := .byte) (by decide)
  have F3_count : Fld Z h3 b3 "java/lang/AbstractStringBuilder" "count" "I" z0 := D3 (Or.inl (wd hw 58 rfl)) (ty := .int) (by decide)
  have g_b3 : n0 ≤ b3 := Nat.le_trans Z1 (Nat.le_of_eq g3.symm)
  have sz_b3 : h0.size ≤ b3 := Nat.le_trans K1.1 (Nat.le_of_eq g3.symm)
  have K3 : Keep h0 h3 [] := K1.ext E3
  have Z3 : n0 ≤ h3.size := Nat.le_trans Z1 E3.1
  have hk3 : _ ≤ h3.size := Nat.le_trans hk1 E3.1
  have c6 := ((uO.ext E1).ext E3)
  obtain ⟨_, _, ⟨T5, Lw5, kw5, nw5⟩, -, X5, ⟨Lc5, hQ5, lq5, yq5, zq5⟩, st5⟩ := X3.specialBack hx (y := M7) rfl hown (mvT hZ (wd hw 9 rfl)) (mvT hZ (wd hw 10 rfl)) (mvT hZ (wd hw 11 rfl)) (by decide) (backOf (W := 5) (rmSB l Z a0 hw [] b3 zc h3 n0 Z3 c6 uS uP A3 F3_value F3_coder F3_count g_b3) hZ (wd hw 11 rfl) (wd hw 8 rfl) (by decide) (by decide)) (g := (mkF m 14 #[vi p0] [(.ref b3), (.ref b3), (vI 430), (vI 413), (.ref b1), (.ref b1)])) rfl (by rw [hml]; rfl) (Steps.refl _) (a := b3) (argsL := []) (rest := [(.ref b3), (vI 430), (vI 413), (.ref b1), (.ref b1)]) (lenOf pd_19 rfl) rfl (by show 2 * 0 + _ ≤ _; exact Nat.le_of_eq rfl) (hb hby d1_14) (fun _ _ => ⟨rfl, e3, (by decide : 2 + 1 ≤ _), (by decide : 12 + 16 ≤ _)⟩)
  dsimp only [Pt.U, Pt.locs, Pt.cells, Pt.slots] at X5 lq5 yq5 zq5 st5 hQ5
  have X5 := own_reb X5 lq5 yq5 zq5
  obtain ⟨nb_5, nk_5, rfl, Nq5, Kq5, f5_0, f5_1, f5_2, f5_3, f5_4, f5_5⟩ := hQ5
  have N5 := Fr.app N0 Nq5
  have c7 := (A1.ext E3)
  have ne_b1_nb_5 : b1 ≠ nb_5 := Nat.ne_of_lt (Nat.lt_of_lt_of_le c7.lt f5_3)
  have ne_b3_nb_5 : b3 ≠ nb_5 := Nat.ne_of_lt (Nat.lt_of_lt_of_le A3.lt f5_3)
  have g_nb_5 : n0 ≤ nb_5 := Nat.le_trans Z3 f5_3
  have sz_nb_5 : h0.size ≤ nb_5 := Nat.le_trans K3.1 f5_3
  have Re8 := Re4.trans (CHr.keep Kq5 (allS (Safe.exa hZ.alike A3 (by decide) (by decide)) all0) hCe4)
  have hCe8 := Re8.1
  have sf_nb_5 := Safe.keep Kq5 (allS (Safe.exa hZ.alike A3 (by decide) (by decide)) all0) hCe4 (Safe.new f5_3)
  have K5 : Keep h0 T5.heap [] := K3.trans Kq5 (allS (Or.inr sz_b3) all0)
  have Z5 : n0 ≤ T5.heap.size := Nat.le_trans Z3 Kq5.1
  have hk5 : _ ≤ T5.heap.size := Nat.le_trans hk3 Kq5.1
  obtain ⟨b9, T9, h9, kk9, t9, kc9, X9, e9, E9, hS9, hk9, hZ9, hown9, fE9, fC9, fV9, fK9, lta9, ltb9, CH9, -, SF9, st9⟩ := ldcCH X5 hx hZ hown (wd hw 28 rfl) (fun d hd => hw d (own_strAtoms d hd)) rfl hS0 hk5 (own_EW hw) (by decide) hCe8 (vs := [(vI 84), (vI 104), (vI 101), (vI 32), (vI 112), (vI 97), (vI 121), (vI 108), (vI 111), (vI 97), (vI 100), (vI 32), (vI 105), (vI 115), (vI 32), (vI 108), (vI 97), (vI 114), (vI 103), (vI 101), (vI 114), (vI 32), (vI 116), (vI 104), (vI 97), (vI 110), (vI 32)]) (z := (27 : Int32)) ⟨by decide, by decide⟩ (by decide) (by decide) (g := (mkF m 17 #[vi p0] [(.ref b3), (vI 430), (vI 413), (.ref b1), (.ref b1)])) rfl (hb hby d1_17) (n := 108) (by decide) (by decide) (by decide) (by decide)
  have Re10 := Re8.trans CH9
  have hCe10 := Re10.1
  have c11 := (((A1.ext E3).keep Kq5).ext E9)
  have nlb1_9 := SF9 b1 (Safe.exa hZ9.alike c11 (by decide) (by decide))
  have c12 := ((A3.keep Kq5).ext E9)
  have nlb3_9 := SF9 b3 (Safe.exa hZ9.alike c12 (by decide) (by decide))
  have c13 := (CHr.safe CH9 f5_4.lt sf_nb_5)
  have nlnb_5_9 := SF9 nb_5 c13
  have K9 : Keep h0 h9 [] := K5.ext E9
  have Z9 : n0 ≤ h9.size := Nat.le_trans Z5 E9.1
  have c15 := ((c6.keep Kq5 (allS g_b3 all0)).ext E9)
  have c16 := (f5_0.ext E9)
  have c17 := (f5_1.ext E9)
  have c18 := (f5_5.ext E9)
  have c19 := (f5_2.ext E9)
  obtain ⟨cq14, kq14, q14a, q14b, q14c⟩ := isOf hZ9 e9 c12
  obtain ⟨_, _, ⟨T14, Lw14, kw14, nw14⟩, -, X14, ⟨Lc14, hQ14, lq14, yq14, zq14⟩, st14⟩ := X9.virtualBack hx (y := M16) (z := M16) hown9 (mvT hZ9 (wd hw 34 rfl)) (mvT hZ9 (wd hw 35 rfl)) (notFace_of_selects (args := #[]) (mvT hZ9 (wd hw 37 rfl))) (mvT hZ9 (wd hw 37 rfl)) (mvT hZ9 (wd hw 36 rfl)) (by decide) (backOf (W := 4) (rm_app_sb_0_27_16 l Z a0 hw [] b3 b9 zc nb_5 nk_5 [z0, z0, z0, z0, z0, z0, z0, z0, z0, z0, z0, z0, z0, z0, z0, z0] t9 kc9 [(vI 84), (vI 104), (vI 101), (vI 32), (vI 112), (vI 97), (vI 121), (vI 108), (vI 111), (vI 97), (vI 100), (vI 32), (vI 105), (vI 115), (vI 32), (vI 108), (vI 97), (vI 114), (vI 103), (vI 101), (vI 114), (vI 32), (vI 116), (vI 104), (vI 97), (vI 110), (vI 32)] h9 n0 Z9 c15 uS uP c12 c16 c17 c18 rfl c19 fE9 fV9 fC9 fK9 g_b3 g_nb_5) hZ9 (wd hw 38 rfl) (wd hw 8 rfl) (by decide) (by decide)) q14a q14c (g := (mkF m 19 #[vi p0] [(.ref b9), (.ref b3), (vI 430), (vI 413), (.ref b1), (.ref b1)])) rfl (by rw [hml]; rfl) (Steps.refl _) (argsL := [(.ref b9)]) (rest := [(vI 430), (vI 413), (.ref b1), (.ref b1)]) (lenOf pd_20 rfl) rfl (by show 2 * 0 + _ ≤ _; exact Nat.le_of_eq rfl) (hb hby d1_19) (fun _ _ => ⟨rfl, e9, (by decide : 5 + 1 ≤ _), (by decide : 140 + 34 ≤ _)⟩)
  dsimp only [Pt.U, Pt.locs, Pt.cells, Pt.slots] at X14 lq14 yq14 zq14 st14 hQ14
  have X14 := own_reb X14 lq14 yq14 zq14
  obtain ⟨nb_14, nk_14, nv_14, rfl, Nq14, Kq14, f14_0, f14_1, f14_2, f14_3, f14_4, f14_5, f14_6, f14_7⟩ := hQ14
  have N14 := Fr.app N5 Nq14
  have ne_b1_nb_14 : b1 ≠ nb_14 := Nat.ne_of_lt (Nat.lt_of_lt_of_le c11.lt f14_3)
  have ne_b3_nb_14 : b3 ≠ nb_14 := Nat.ne_of_lt (Nat.lt_of_lt_of_le c12.lt f14_3)
  have c20 := (f5_4.ext E9)
  have ne_nb_5_nb_14 : nb_5 ≠ nb_14 := Nat.ne_of_lt (Nat.lt_of_lt_of_le c20.lt f14_3)
  have ne_b9_nb_14 : b9 ≠ nb_14 := Nat.ne_of_lt (Nat.lt_of_lt_of_le fE9.lt f14_3)
  have ne_t9_nb_14 : t9 ≠ nb_14 := Nat.ne_of_lt (Nat.lt_of_lt_of_le fK9.lt f14_3)
  have g_nb_14 : n0 ≤ nb_14 := Nat.le_trans Z9 f14_3
  have sz_nb_14 : h0.size ≤ nb_14 := Nat.le_trans K9.1 f14_3
  have Re21 := Re10.trans (CHr.keep Kq14 (allS (Safe.exa hZ9.alike c12 (by decide) (by decide)) all0) hCe10)
  have hCe21 := Re21.1
  have sf_nb_14 := Safe.keep Kq14 (allS (Safe.exa hZ9.alike c12 (by decide) (by decide)) all0) hCe10 (Safe.new f14_3)
  have K14 : Keep h0 T14.heap [] := K9.trans Kq14 (allS (Or.inr sz_b3) all0)
  have Z14 : n0 ≤ T14.heap.size := Nat.le_trans Z9 Kq14.1
  have hk14 : _ ≤ T14.heap.size := Nat.le_trans hk9 Kq14.1
  have sg22 : ∀ target, SS p e below T14 (mkF m 23 #[vi p0] [(.int p0), (.ref b3), (vI 430), (vI 413), (.ref b1), (.ref b1)]) target → SS p e below s₁ (mkF m 0 #[vi p0] []) target := by
    intro target kt
    show SS p e below s₁ (mkF m 0 #[vi p0] []) _
    refine st1 _ ?_
    refine XS.dup X1.here hx rfl (hb hby d1_3) rfl rfl ?_
    refine XS.sipush X1.here hx rfl (hb hby d1_4) ?_
    refine XS.sipush X1.here hx rfl (hb hby d1_7) ?_
    refine st3 _ ?_
    refine XS.dup X3.here hx rfl (hb hby d1_13) rfl rfl ?_
    show SS p e below T3 (mkF m 14 #[vi p0] [(.ref b3), (.ref b3), (vI 430), (vI 413), (.ref b1), (.ref b1)]) _
    refine st5.trans ?_
    show SS p e below T5 (mkF m 17 #[vi p0] [(.ref b3), (vI 430), (vI 413), (.ref b1), (.ref b1)]) _
    refine st9 _ ?_
    show SS p e below T9 (mkF m 19 #[vi p0] [(.ref b9), (.ref b3), (vI 430), (vI 413), (.ref b1), (.ref b1)]) _
    refine st14.trans ?_
    refine XS.iloadN X14.here hx rfl (hb hby d1_22) rfl ?_
    exact kt
  rcases uC3 with hA | hB | hC
  · have c24 := (c15.keep Kq14 (allS g_b3 all0))
    have c25 := (c12.keep Kq14)
    obtain ⟨cq23, kq23, q23a, q23b, q23c⟩ := isOf hZ9 rfl c25
    obtain ⟨_, _, ⟨T23, Lw23, kw23, nw23⟩, -, X23, ⟨Lc23, hQ23, lq23, yq23, zq23⟩, st23⟩ := X14.virtualBack hx (y := M28) (z := M28) hown9 (mvT hZ9 (wd hw 107 rfl)) (mvT hZ9 (wd hw 108 rfl)) (notFace_of_selects (args := #[]) (mvT hZ9 (wd hw 110 rfl))) (mvT hZ9 (wd hw 110 rfl)) (mvT hZ9 (wd hw 109 rfl)) (by decide) (backOf (W := 4) (rs_appIks l Z a0 hw [] b3 p0 zc dg1 dg2 kd1 kd2 N sg d zs n1 nb_14 nk_14 nv_14 T14.heap n0 Z14 c24 uS uP uD uDV uT uTV uL1 uL2 uN uNb usg ud uSz uN1 ui hA.2.1 hA.1 c25 f14_0 f14_1 f14_5 f14_2 g_b3 g_nb_14) hZ9 (wd hw 111 rfl) (wd hw 8 rfl) (by decide) (by decide)) q23a q23c (g := (mkF m 23 #[vi p0] [(.int p0), (.ref b3), (vI 430), (vI 413), (.ref b1), (.ref b1)])) rfl (by rw [hml]; rfl) (Steps.refl _) (argsL := [(.int p0)]) (rest := [(vI 430), (vI 413), (.ref b1), (.ref b1)]) (lenOf pd_21 rfl) rfl (by show 2 * 0 + _ ≤ _; exact Nat.le_of_eq rfl) (hb hby d1_23) (fun _ _ => ⟨rfl, rfl, (by decide : 6 + 0 ≤ _), (by decide : 174 + 0 ≤ _)⟩)
    dsimp only [Pt.U, Pt.locs, Pt.cells, Pt.slots] at X23 lq23 yq23 zq23 st23 hQ23
    have X23 := own_reb X23 lq23 yq23 zq23
    obtain ⟨nv_23, rfl, Nq23, Kq23, f23_0, f23_1, f23_2, f23_3, f23_4, f23_5, f23_6⟩ := hQ23
    have N23 := Fr.app N14 Nq23
    have Re26 := Re21.trans (CHr.keep Kq23 (allS (Safe.exa hZ9.alike c25 (by decide) (by decide)) (allS sf_nb_14 all0)) hCe21)
    have hCe26 := Re26.1
    have K23 : Keep h0 T23.heap [] := K14.trans Kq23 (allS (Or.inr sz_b3) (allS (Or.inr sz_nb_14) all0))
    have Z23 : n0 ≤ T23.heap.size := Nat.le_trans Z14 Kq23.1
    have hk23 : _ ≤ T23.heap.size := Nat.le_trans hk14 Kq23.1
    obtain ⟨b27, T27, h27, kk27, t27, kc27, X27, e27, E27, hS27, hk27, hZ27, hown27, fE27, fC27, fV27, fK27, lta27, ltb27, CH27, -, SF27, st27⟩ := ldcCH X23 hx hZ9 hown9 (wd hw 129 rfl) (fun d hd => hw d (own_strAtoms d hd)) rfl hS9 hk23 (own_EW hw) (by decide) hCe26 (vs := [(vI 32), (vI 98), (vI 121), (vI 116), (vI 101), (vI 115)]) (z := (6 : Int32)) ⟨by decide, by decide⟩ (by decide) (by decide) (g := (mkF m 26 #[vi p0] [(.ref b3), (vI 430), (vI 413), (.ref b1), (.ref b1)])) rfl (hb hby d1_26) (n := 24) (by decide) (by decide) (by decide) (by decide)
    have Re28 := Re26.trans CH27
    have hCe28 := Re28.1
    have c29 := (((c11.keep Kq14).keep Kq23).ext E27)
    have nlb1_27 := SF27 b1 (Safe.exa hZ27.alike c29 (by decide) (by decide))
    have c30 := ((c25.keep Kq23).ext E27)
    have nlb3_27 := SF27 b3 (Safe.exa hZ27.alike c30 (by decide) (by decide))
    have c31 := (((f5_4.ext E9).keep Kq14).keep Kq23)
    have c32 := (CHr.safe CH27 c31.lt (Safe.keep Kq23 (allS (Safe.exa hZ9.alike c25 (by decide) (by decide)) (allS sf_nb_14 all0)) hCe21 (Safe.keep Kq14 (allS (Safe.exa hZ9.alike c12 (by decide) (by decide)) all0) hCe10 c13)))
    have nlnb_5_27 := SF27 nb_5 c32
    have c33 := (f14_4.keep Kq23)
    have c34 := (CHr.safe CH27 c33.lt (Safe.keep Kq23 (allS (Safe.exa hZ9.alike c25 (by decide) (by decide)) (allS sf_nb_14 all0)) hCe21 sf_nb_14))
    have nlnb_14_27 := SF27 nb_14 c34
    have K27 : Keep h0 h27 [] := K23.ext E27
    have Z27 : n0 ≤ h27.size := Nat.le_trans Z23 E27.1
    have c36 := ((c24.keep Kq23 (allS g_b3 (allS g_nb_14 all0))).ext E27)
    have c37 := (f23_0.ext E27)
    have c38 := (f23_1.ext E27)
    have c39 := (f23_3.ext E27)
    have c40 := (f23_2.ext E27)
    obtain ⟨cq35, kq35, q35a, q35b, q35c⟩ := isOf hZ27 e27 c30
    obtain ⟨_, _, ⟨T35, Lw35, kw35, nw35⟩, -, X35, ⟨Lc35, hQ35, lq35, yq35, zq35⟩, st35⟩ := X27.virtualBack hx (y := M16) (z := M16) hown27 (mvT hZ27 (wd hw 34 rfl)) (mvT hZ27 (wd hw 35 rfl)) (notFace_of_selects (args := #[]) (mvT hZ27 (wd hw 37 rfl))) (mvT hZ27 (wd hw 37 rfl)) (mvT hZ27 (wd hw 36 rfl)) (by decide) (backOf (W := 4) (rg_app l Z a0 hw [] b3 b27 zc nb_14 nk_14 (34 : Int32) nv_23 t27 kc27 (6 : Int32) [(vI 32), (vI 98), (vI 121), (vI 116), (vI 101), (vI 115)] n1 n2 h27 n0 Z27 c36 uS uP c30 c37 c38 c39 f23_4 c40 fE27 fV27 fC27 fK27 uN2 hA.2.2.1 hA.2.2.2.1 (by decide) hA.2.2.2.2.1 g_b3 g_nb_14) hZ27 (wd hw 38 rfl) (wd hw 8 rfl) (by decide) (by decide)) q35a q35c (g := (mkF m 28 #[vi p0] [(.ref b27), (.ref b3), (vI 430), (vI 413), (.ref b1), (.ref b1)])) rfl (by rw [hml]; rfl) (Steps.refl _) (argsL := [(.ref b27)]) (rest := [(vI 430), (vI 413), (.ref b1), (.ref b1)]) (lenOf pd_20 rfl) rfl (by show 2 * 0 + _ ≤ _; exact Nat.le_of_eq rfl) (hb hby d1_28) (fun _ _ => ⟨rfl, e27, (by decide : 8 + 0 ≤ _), (by decide : 202 + 0 ≤ _)⟩)
    dsimp only [Pt.U, Pt.locs, Pt.cells, Pt.slots] at X35 lq35 yq35 zq35 st35 hQ35
    have X35 := own_reb X35 lq35 yq35 zq35
    obtain ⟨rfl, Nq35, Kq35, f35_0, f35_1, f35_2, f35_3⟩ := hQ35
    have N35 := Fr.app N23 Nq35
    have Re41 := Re28.trans (CHr.keep Kq35 (allS (Safe.exa hZ27.alike c30 (by decide) (by decide)) (allS c34 all0)) hCe28)
    have hCe41 := Re41.1
    have K35 : Keep h0 T35.heap [] := K27.trans Kq35 (allS (Or.inr sz_b3) (allS (Or.inr sz_nb_14) all0))
    have Z35 : n0 ≤ T35.heap.size := Nat.le_trans Z27 Kq35.1
    have hk35 : _ ≤ T35.heap.size := Nat.le_trans hk27 Kq35.1
    have c43 := (c36.keep Kq35 (allS g_b3 (allS g_nb_14 all0)))
    have c44 := (c30.keep Kq35)
    have c45 := (((f14_4.keep Kq23).ext E27).keep Kq35)
    obtain ⟨cq42, kq42, q42a, q42b, q42c⟩ := isOf hZ27 rfl c44
    obtain ⟨_, _, ⟨T42, Lw42, kw42, nw42⟩, -, X42, ⟨Lc42, hQ42, lq42, yq42, zq42⟩, st42⟩ := X35.virtualBack hx (y := M21) (z := M21) hown27 (mvT hZ27 (wd hw 130 rfl)) (mvT hZ27 (wd hw 131 rfl)) (notFace_of_selects (args := #[]) (mvT hZ27 (wd hw 133 rfl))) (mvT hZ27 (wd hw 133 rfl)) (mvT hZ27 (wd hw 132 rfl)) (by decide) (backOf (W := 4) (rs_tos l Z a0 hw [] b3 zc nb_14 nk_14 (34 : Int32) (own_put n1.toNatClampNeg (6 : Int32).toNatClampNeg nv_23 [(vI 32), (vI 98), (vI 121), (vI 116), (vI 101), (vI 115)]) n2 T35.heap n0 Z35 c43 uS uP c44 f35_0 f35_1 f35_3 c45 f35_2 hA.2.2.2.2.2.1 (by decide)) hZ27 (wd hw 134 rfl) (wd hw 8 rfl) (by decide) (by decide)) q42a q42c (g := (mkF m 31 #[vi p0] [(.ref b3), (vI 430), (vI 413), (.ref b1), (.ref b1)])) rfl (by rw [hml]; rfl) (Steps.refl _) (argsL := []) (rest := [(vI 430), (vI 413), (.ref b1), (.ref b1)]) (lenOf pd_22 rfl) rfl (by show 2 * 0 + _ ≤ _; exact Nat.le_of_eq rfl) (hb hby d1_31) (fun _ _ => ⟨rfl, rfl, (by decide : 8 + 2 ≤ _), (by decide : 202 + 68 ≤ _)⟩)
    dsimp only [Pt.U, Pt.locs, Pt.cells, Pt.slots] at X42 lq42 yq42 zq42 st42 hQ42
    have X42 := own_reb X42 lq42 yq42 zq42
    obtain ⟨nx_42, nb_42, nk_42, rfl, Nq42, Kq42, f42_0, f42_1, f42_2, f42_3, f42_4, f42_5⟩ := hQ42
    have N42 := Fr.app N35 Nq42
    have c46 := (c29.keep Kq35)
    have ne_b1_nx_42 : b1 ≠ nx_42 := Nat.ne_of_lt (Nat.lt_of_lt_of_le c46.lt f42_0)
    have ne_b3_nx_42 : b3 ≠ nx_42 := Nat.ne_of_lt (Nat.lt_of_lt_of_le c44.lt f42_0)
    have c47 := (((((f5_4.ext E9).keep Kq14).keep Kq23).ext E27).keep Kq35)
    have ne_nb_5_nx_42 : nb_5 ≠ nx_42 := Nat.ne_of_lt (Nat.lt_of_lt_of_le c47.lt f42_0)
    have c48 := ((((fE9.keep Kq14).keep Kq23).ext E27).keep Kq35)
    have ne_b9_nx_42 : b9 ≠ nx_42 := Nat.ne_of_lt (Nat.lt_of_lt_of_le c48.lt f42_0)
    have c49 := ((((fK9.keep Kq14 (ninS (Ne.symm nlb3_9.2) nin0)).keep Kq23 (ninS (Ne.symm nlb3_9.2) (ninS ne_t9_nb_14 nin0))).ext E27).keep Kq35 (ninS (Ne.symm nlb3_9.2) (ninS ne_t9_nb_14 nin0)))
    have ne_t9_nx_42 : t9 ≠ nx_42 := Nat.ne_of_lt (Nat.lt_of_lt_of_le c49.lt f42_0)
    have ne_nb_14_nx_42 : nb_14 ≠ nx_42 := Nat.ne_of_lt (Nat.lt_of_lt_of_le c45.lt f42_0)
    have c50 := (fE27.keep Kq35)
    have ne_b27_nx_42 : b27 ≠ nx_42 := Nat.ne_of_lt (Nat.lt_of_lt_of_le c50.lt f42_0)
    have c51 := (fK27.keep Kq35 (ninS (Ne.symm nlb3_27.2) (ninS (Ne.symm nlnb_14_27.2) nin0)))
    have ne_t27_nx_42 : t27 ≠ nx_42 := Nat.ne_of_lt (Nat.lt_of_lt_of_le c51.lt f42_0)
    have g_nx_42 : n0 ≤ nx_42 := Nat.le_trans Z35 f42_0
    have sz_nx_42 : h0.size ≤ nx_42 := Nat.le_trans K35.1 f42_0
    have c52 := (c29.keep Kq35)
    have ne_b1_nb_42 : b1 ≠ nb_42 := Nat.ne_of_lt (Nat.lt_of_lt_of_le c52.lt f42_4)
    have ne_b3_nb_42 : b3 ≠ nb_42 := Nat.ne_of_lt (Nat.lt_of_lt_of_le c44.lt f42_4)
    have c53 := (((((f5_4.ext E9).keep Kq14).keep Kq23).ext E27).keep Kq35)
    have ne_nb_5_nb_42 : nb_5 ≠ nb_42 := Nat.ne_of_lt (Nat.lt_of_lt_of_le c53.lt f42_4)
    have c54 := ((((fE9.keep Kq14).keep Kq23).ext E27).keep Kq35)
    have ne_b9_nb_42 : b9 ≠ nb_42 := Nat.ne_of_lt (Nat.lt_of_lt_of_le c54.lt f42_4)
    have c55 := ((((fK9.keep Kq14 (ninS (Ne.symm nlb3_9.2) nin0)).keep Kq23 (ninS (Ne.symm nlb3_9.2) (ninS ne_t9_nb_14 nin0))).ext E27).keep Kq35 (ninS (Ne.symm nlb3_9.2) (ninS ne_t9_nb_14 nin0)))
    have ne_t9_nb_42 : t9 ≠ nb_42 := Nat.ne_of_lt (Nat.lt_of_lt_of_le c55.lt f42_4)
    have ne_nb_14_nb_42 : nb_14 ≠ nb_42 := Nat.ne_of_lt (Nat.lt_of_lt_of_le c45.lt f42_4)
    have c56 := (fE27.keep Kq35)
    have ne_b27_nb_42 : b27 ≠ nb_42 := Nat.ne_of_lt (Nat.lt_of_lt_of_le c56.lt f42_4)
    have c57 := (fK27.keep Kq35 (ninS (Ne.symm nlb3_27.2) (ninS (Ne.symm nlnb_14_27.2) nin0)))
    have ne_t27_nb_42 : t27 ≠ nb_42 := Nat.ne_of_lt (Nat.lt_of_lt_of_le c57.lt f42_4)
    have g_nb_42 : n0 ≤ nb_42 := Nat.le_trans Z35 f42_4
    have sz_nb_42 : h0.size ≤ nb_42 := Nat.le_trans K35.1 f42_4
    have Re58 := Re41.trans (CHr.keep Kq42 all0 hCe41)
    have hCe58 := Re58.1
    have sf_nx_42 := Safe.keep Kq42 all0 hCe41 (Safe.new f42_0)
    have sf_nb_42 := Safe.keep Kq42 all0 hCe41 (Safe.new f42_4)
    have K42 : Keep h0 T42.heap [] := K35.trans Kq42 all0
    have Z42 : n0 ≤ T42.heap.size := Nat.le_trans Z35 Kq42.1
    have hk42 : _ ≤ T42.heap.size := Nat.le_trans hk35 Kq42.1
    have Vmsg : Arv Z T42.heap nb_42 nk_42 .byte (Int32.ofNat (own_cs N sg d).length) (((own_cs N sg d).map (fun c => c.toInt8.toInt32)).map Value.int) z0 := own_finA (f42_5) f14_7 f23_4 f23_5 f23_6 uML hA
    have c60 := (c43.keep Kq42 all0)
    have c61 := ((c29.keep Kq35).keep Kq42)
    have c62 := ((((((((Ut1.ext E3).keep Kq5 (ninS ne_b1_b3 nin0)).ext E9).keep Kq14 (ninS ne_b1_b3 nin0)).keep Kq23 (ninS ne_b1_b3 (ninS ne_b1_nb_14 nin0))).ext E27).keep Kq35 (ninS ne_b1_b3 (ninS ne_b1_nb_14 nin0))).keep Kq42 nin0)
    have c63 := ((((((((F1_cause.ext E3).keep Kq5 (ninS ne_b1_b3 nin0)).ext E9).keep Kq14 (ninS ne_b1_b3 nin0)).keep Kq23 (ninS ne_b1_b3 (ninS ne_b1_nb_14 nin0))).ext E27).keep Kq35 (ninS ne_b1_b3 (ninS ne_b1_nb_14 nin0))).keep Kq42 nin0)
    have c64 := ((((((((F1_stackTrace.ext E3).keep Kq5 (ninS ne_b1_b3 nin0)).ext E9).keep Kq14 (ninS ne_b1_b3 nin0)).keep Kq23 (ninS ne_b1_b3 (ninS ne_b1_nb_14 nin0))).ext E27).keep Kq35 (ninS ne_b1_b3 (ninS ne_b1_nb_14 nin0))).keep Kq42 nin0)
    have c65 := ((((((((F1_suppressedExceptions.ext E3).keep Kq5 (ninS ne_b1_b3 nin0)).ext E9).keep Kq14 (ninS ne_b1_b3 nin0)).keep Kq23 (ninS ne_b1_b3 (ninS ne_b1_nb_14 nin0))).ext E27).keep Kq35 (ninS ne_b1_b3 (ninS ne_b1_nb_14 nin0))).keep Kq42 nin0)
    have c66 := ((((((((F1_backtrace.ext E3).keep Kq5 (ninS ne_b1_b3 nin0)).ext E9).keep Kq14 (ninS ne_b1_b3 nin0)).keep Kq23 (ninS ne_b1_b3 (ninS ne_b1_nb_14 nin0))).ext E27).keep Kq35 (ninS ne_b1_b3 (ninS ne_b1_nb_14 nin0))).keep Kq42 nin0)
    have c67 := ((((((((F1_detailMessage.ext E3).keep Kq5 (ninS ne_b1_b3 nin0)).ext E9).keep Kq14 (ninS ne_b1_b3 nin0)).keep Kq23 (ninS ne_b1_b3 (ninS ne_b1_nb_14 nin0))).ext E27).keep Kq35 (ninS ne_b1_b3 (ninS ne_b1_nb_14 nin0))).keep Kq42 nin0)
    have c68 := ((((((((F1_status.ext E3).keep Kq5 (ninS ne_b1_b3 nin0)).ext E9).keep Kq14 (ninS ne_b1_b3 nin0)).keep Kq23 (ninS ne_b1_b3 (ninS ne_b1_nb_14 nin0))).ext E27).keep Kq35 (ninS ne_b1_b3 (ninS ne_b1_nb_14 nin0))).keep Kq42 nin0)
    have c69 := ((((((((F1_code.ext E3).keep Kq5 (ninS ne_b1_b3 nin0)).ext E9).keep Kq14 (ninS ne_b1_b3 nin0)).keep Kq23 (ninS ne_b1_b3 (ninS ne_b1_nb_14 nin0))).ext E27).keep Kq35 (ninS ne_b1_b3 (ninS ne_b1_nb_14 nin0))).keep Kq42 nin0)
    obtain ⟨_, _, ⟨T59, Lw59, kw59, nw59⟩, -, X59', hS59', hg59, ⟨Lc59, hQ59, lq59, yq59, zq59, CH59⟩, st59⟩ := X42.specialBackS hx (y := M32) rfl hown27 (mvT hZ27 (wd hw 170 rfl)) (mvT hZ27 (wd hw 171 rfl)) (mvT hZ27 (wd hw 172 rfl)) (by decide) (backOfSKH (W := 1) (rmX l Z a0 hw [] b1 (413 : Int32) (430 : Int32) nx_42 zc vu vq T42.heap n0 Z42 c60 uS uP uLt uZu uRu uZs uRs c61 c62 c63 c64 c65 c66 c67 c68 c69 g_b1) hZ27 (wd hw 172 rfl) (wd hw 2 rfl) (by decide) (by decide) (own_EW hw) hCe58 (Vm.MethodsKnown.alikeC hS27.1.alike hK.1) (Vm.FramesKnown.alikeC hS27.1.alike hK.2)) (g := (mkF m 34 #[vi p0] [(.ref nx_42), (vI 430), (vI 413), (.ref b1), (.ref b1)])) rfl (by rw [hml]; rfl) (Steps.refl _) (a := b1) (argsL := [(vI 413), (vI 430), (.ref nx_42)]) (rest := [(.ref b1)]) (lenOf pd_23 rfl) rfl (by show 2 * 0 + _ ≤ _; exact Nat.le_of_eq rfl) (hb hby d1_34) (fun _ _ => ⟨rfl, rfl, (by decide : 10 + 1 ≤ _), (by decide : 270 + 2752 ≤ _)⟩)
    dsimp only [Pt.U, Pt.locs, Pt.cells, Pt.slots] at X59' hS59' hg59 lq59 yq59 zq59 st59 hQ59 CH59
    have X59' := own_reb X59' lq59 yq59 zq59
    obtain ⟨X59, hS59, hZ59, hown59⟩ := rebS hS27 (own_hk rfl hk42) X59' hS59' hg59 hZ27 hown27
    obtain ⟨rfl, Nq59, Kq59, f59_0, f59_1, f59_2⟩ := hQ59
    have N59 := Fr.app N42 Nq59
    have Re70 := Re58.trans CH59
    have hCe70 := Re70.1
    have K59 : Keep h0 T59.heap [] := K42.trans Kq59 (allS (Or.inr sz_b1) all0)
    have Z59 : n0 ≤ T59.heap.size := Nat.le_trans Z42 Kq59.1
    have hk59 : T59.heap.size ≤ T59.heap.size := Nat.le_refl _
    have c71 := (c61.keep Kq59)
    have c72 := (f42_1.keep Kq59)
    have c73 := (f42_2.keep Kq59 (ninS (Ne.symm ne_b1_nx_42) nin0))
    have c74 := (f42_3.keep Kq59 (ninS (Ne.symm ne_b1_nx_42) nin0))
    have c75 := (Vmsg.keep Kq59 (ninS (Ne.symm ne_b1_nb_42) nin0))
    obtain ⟨fs, hr, hrun, hended, en1, en2, en3, en4⟩ := X59.leaveW hS59 (own_hk rfl hk59) (v := some (.ref b1)) (fun h => by rw [Bd.returns] at h; cases h)
    refine ⟨_, _, pre0 _ ?_, hrun, hended, _, _, rfl, ?_, own_chr (T := T59) hh rfl (Re70.trans (CHv.at X59 hZ59 (own_EW hw) hCe70)), en1, en2, en3, en4.mono (by decide) (by decide)⟩
    · refine sg22 _ ?_
      show SS p e below T14 (mkF m 23 #[vi p0] [(.int p0), (.ref b3), (vI 430), (vI 413), (.ref b1), (.ref b1)]) _
      refine st23.trans ?_
      show SS p e below T23 (mkF m 26 #[vi p0] [(.ref b3), (vI 430), (vI 413), (.ref b1), (.ref b1)]) _
      refine st27 _ ?_
      show SS p e below T27 (mkF m 28 #[vi p0] [(.ref b27), (.ref b3), (vI 430), (vI 413), (.ref b1), (.ref b1)]) _
      refine st35.trans ?_
      show SS p e below T35 (mkF m 31 #[vi p0] [(.ref b3), (vI 430), (vI 413), (.ref b1), (.ref b1)]) _
      refine st42.trans ?_
      show SS p e below T42 (mkF m 34 #[vi p0] [(.ref nx_42), (vI 430), (vI 413), (.ref b1), (.ref b1)]) _
      refine st59.trans ?_
      exact retOut X59 hx Bd.returns rfl (Or.inr (Or.inr (Or.inr (Or.inr ⟨rfl, rfl, rfl⟩)))) (hb hby d1_37) hr
    · show Q_rmTL Z p0 zc vu vq dg1 dg2 kd1 kd2 N sg d zs n1 n2 h0 n0 _ T59.heap _
      exact ⟨b1, nx_42, nb_42, nk_42, rfl, N59, K59, sz_b1, c71, f59_0, f59_1, f59_2, sz_nx_42, c72, c73, c74, sz_nb_42, c75⟩
  · have c77 := (c15.keep Kq14 (allS g_b3 all0))
    have c78 := (c12.keep Kq14)
    obtain ⟨cq76, kq76, q76a, q76b, q76c⟩ := isOf hZ9 rfl c78
    obtain ⟨_, _, ⟨T76, Lw76, kw76, nw76⟩, -, X76, ⟨Lc76, hQ76, lq76, yq76, zq76⟩, st76⟩ := X14.virtualBack hx (y := M28) (z := M28) hown9 (mvT hZ9 (wd hw 107 rfl)) (mvT hZ9 (wd hw 108 rfl)) (notFace_of_selects (args := #[]) (mvT hZ9 (wd hw 110 rfl))) (mvT hZ9 (wd hw 110 rfl)) (mvT hZ9 (wd hw 109 rfl)) (by decide) (backOf (W := 4) (rs_appIks l Z a0 hw [] b3 p0 zc dg1 dg2 kd1 kd2 N sg d zs n1 nb_14 nk_14 nv_14 T14.heap n0 Z14 c77 uS uP uD uDV uT uTV uL1 uL2 uN uNb usg ud uSz uN1 ui hB.2.1 hB.1 c78 f14_0 f14_1 f14_5 f14_2 g_b3 g_nb_14) hZ9 (wd hw 111 rfl) (wd hw 8 rfl) (by decide) (by decide)) q76a q76c (g := (mkF m 23 #[vi p0] [(.int p0), (.ref b3), (vI 430), (vI 413), (.ref b1), (.ref b1)])) rfl (by rw [hml]; rfl) (Steps.refl _) (argsL := [(.int p0)]) (rest := [(vI 430), (vI 413), (.ref b1), (.ref b1)]) (lenOf pd_21 rfl) rfl (by show 2 * 0 + _ ≤ _; exact Nat.le_of_eq rfl) (hb hby d1_23) (fun _ _ => ⟨rfl, rfl, (by decide : 6 + 0 ≤ _), (by decide : 174 + 0 ≤ _)⟩)
    dsimp only [Pt.U, Pt.locs, Pt.cells, Pt.slots] at X76 lq76 yq76 zq76 st76 hQ76
    have X76 := own_reb X76 lq76 yq76 zq76
    obtain ⟨nv_76, rfl, Nq76, Kq76, f76_0, f76_1, f76_2, f76_3, f76_4, f76_5, f76_6⟩ := hQ76
    have N76 := Fr.app N14 Nq76
    have Re79 := Re21.trans (CHr.keep Kq76 (allS (Safe.exa hZ9.alike c78 (by decide) (by decide)) (allS sf_nb_14 all0)) hCe21)
    have hCe79 := Re79.1
    have K76 : Keep h0 T76.heap [] := K14.trans Kq76 (allS (Or.inr sz_b3) (allS (Or.inr sz_nb_14) all0))
    have Z76 : n0 ≤ T76.heap.size := Nat.le_trans Z14 Kq76.1
    have hk76 : _ ≤ T76.heap.size := Nat.le_trans hk14 Kq76.1
    obtain ⟨b80, T80, h80, kk80, t80, kc80, X80, e80, E80, hS80, hk80, hZ80, hown80, fE80, fC80, fV80, fK80, lta80, ltb80, CH80, -, SF80, st80⟩ := ldcCH X76 hx hZ9 hown9 (wd hw 129 rfl) (fun d hd => hw d (own_strAtoms d hd)) rfl hS9 hk76 (own_EW hw) (by decide) hCe79 (vs := [(vI 32), (vI 98), (vI 121), (vI 116), (vI 101), (vI 115)]) (z := (6 : Int32)) ⟨by decide, by decide⟩ (by decide) (by decide) (g := (mkF m 26 #[vi p0] [(.ref b3), (vI 430), (vI 413), (.ref b1), (.ref b1)])) rfl (hb hby d1_26) (n := 24) (by decide) (by decide) (by decide) (by decide)
    have Re81 := Re79.trans CH80
    have hCe81 := Re81.1
    have c82 := (((c11.keep Kq14).keep Kq76).ext E80)
    have nlb1_80 := SF80 b1 (Safe.exa hZ80.alike c82 (by decide) (by decide))
    have c83 := ((c78.keep Kq76).ext E80)
    have nlb3_80 := SF80 b3 (Safe.exa hZ80.alike c83 (by decide) (by decide))
    have c84 := (((f5_4.ext E9).keep Kq14).keep Kq76)
    have c85 := (CHr.safe CH80 c84.lt (Safe.keep Kq76 (allS (Safe.exa hZ9.alike c78 (by decide) (by decide)) (allS sf_nb_14 all0)) hCe21 (Safe.keep Kq14 (allS (Safe.exa hZ9.alike c12 (by decide) (by decide)) all0) hCe10 c13)))
    have nlnb_5_80 := SF80 nb_5 c85
    have c86 := (f14_4.keep Kq76)
    have c87 := (CHr.safe CH80 c86.lt (Safe.keep Kq76 (allS (Safe.exa hZ9.alike c78 (by decide) (by decide)) (allS sf_nb_14 all0)) hCe21 sf_nb_14))
    have nlnb_14_80 := SF80 nb_14 c87
    have K80 : Keep h0 h80 [] := K76.ext E80
    have Z80 : n0 ≤ h80.size := Nat.le_trans Z76 E80.1
    have c89 := ((c77.keep Kq76 (allS g_b3 (allS g_nb_14 all0))).ext E80)
    have c90 := (f76_0.ext E80)
    have c91 := (f76_1.ext E80)
    have c92 := (f76_3.ext E80)
    have c93 := (f76_2.ext E80)
    obtain ⟨cq88, kq88, q88a, q88b, q88c⟩ := isOf hZ80 e80 c83
    obtain ⟨_, _, ⟨T88, Lw88, kw88, nw88⟩, -, X88, ⟨Lc88, hQ88, lq88, yq88, zq88⟩, st88⟩ := X80.virtualBack hx (y := M16) (z := M16) hown80 (mvT hZ80 (wd hw 34 rfl)) (mvT hZ80 (wd hw 35 rfl)) (notFace_of_selects (args := #[]) (mvT hZ80 (wd hw 37 rfl))) (mvT hZ80 (wd hw 37 rfl)) (mvT hZ80 (wd hw 36 rfl)) (by decide) (backOf (W := 4) (rs_appG l Z a0 hw [] b3 b80 zc nb_14 nk_14 nv_76 t80 kc80 [(vI 32), (vI 98), (vI 121), (vI 116), (vI 101), (vI 115)] n1 n2 h80 n0 Z80 c89 uS uP c83 c90 c91 c92 (f76_4.trans (by decide)) c93 fE80 fV80 fC80 fK80 uN2 hB.2.2.1 hB.2.2.2.1 hB.2.2.2.2.1 hB.2.2.2.2.2.1 g_b3) hZ80 (wd hw 38 rfl) (wd hw 8 rfl) (by decide) (by decide)) q88a q88c (g := (mkF m 28 #[vi p0] [(.ref b80), (.ref b3), (vI 430), (vI 413), (.ref b1), (.ref b1)])) rfl (by rw [hml]; rfl) (Steps.refl _) (argsL := [(.ref b80)]) (rest := [(vI 430), (vI 413), (.ref b1), (.ref b1)]) (lenOf pd_20 rfl) rfl (by show 2 * 0 + _ ≤ _; exact Nat.le_of_eq rfl) (hb hby d1_28) (fun _ _ => ⟨rfl, e80, (by decide : 8 + 1 ≤ _), (by decide : 202 + 70 ≤ _)⟩)
    dsimp only [Pt.U, Pt.locs, Pt.cells, Pt.slots] at X88 lq88 yq88 zq88 st88 hQ88
    have X88 := own_reb X88 lq88 yq88 zq88
    obtain ⟨nb_88, nk_88, rfl, Nq88, Kq88, f88_0, f88_1, f88_2, f88_3, f88_4, f88_5⟩ := hQ88
    have N88 := Fr.app N76 Nq88
    have ne_b1_nb_88 : b1 ≠ nb_88 := Nat.ne_of_lt (Nat.lt_of_lt_of_le c82.lt f88_3)
    have ne_b3_nb_88 : b3 ≠ nb_88 := Nat.ne_of_lt (Nat.lt_of_lt_of_le c83.lt f88_3)
    have c94 := ((((f5_4.ext E9).keep Kq14).keep Kq76).ext E80)
    have ne_nb_5_nb_88 : nb_5 ≠ nb_88 := Nat.ne_of_lt (Nat.lt_of_lt_of_le c94.lt f88_3)
    have c95 := (((fE9.keep Kq14).keep Kq76).ext E80)
    have ne_b9_nb_88 : b9 ≠ nb_88 := Nat.ne_of_lt (Nat.lt_of_lt_of_le c95.lt f88_3)
    have c96 := (((fK9.keep Kq14 (ninS (Ne.symm nlb3_9.2) nin0)).keep Kq76 (ninS (Ne.symm nlb3_9.2) (ninS ne_t9_nb_14 nin0))).ext E80)
    have ne_t9_nb_88 : t9 ≠ nb_88 := Nat.ne_of_lt (Nat.lt_of_lt_of_le c96.lt f88_3)
    have c97 := ((f14_4.keep Kq76).ext E80)
    have ne_nb_14_nb_88 : nb_14 ≠ nb_88 := Nat.ne_of_lt (Nat.lt_of_lt_of_le c97.lt f88_3)
    have ne_b80_nb_88 : b80 ≠ nb_88 := Nat.ne_of_lt (Nat.lt_of_lt_of_le fE80.lt f88_3)
    have ne_t80_nb_88 : t80 ≠ nb_88 := Nat.ne_of_lt (Nat.lt_of_lt_of_le fK80.lt f88_3)
    have g_nb_88 : n0 ≤ nb_88 := Nat.le_trans Z80 f88_3
    have sz_nb_88 : h0.size ≤ nb_88 := Nat.le_trans K80.1 f88_3
    have Re98 := Re81.trans (CHr.keep Kq88 (allS (Safe.exa hZ80.alike c83 (by decide) (by decide)) all0) hCe81)
    have hCe98 := Re98.1
    have sf_nb_88 := Safe.keep Kq88 (allS (Safe.exa hZ80.alike c83 (by decide) (by decide)) all0) hCe81 (Safe.new f88_3)
    have K88 : Keep h0 T88.heap [] := K80.trans Kq88 (allS (Or.inr sz_b3) all0)
    have Z88 : n0 ≤ T88.heap.size := Nat.le_trans Z80 Kq88.1
    have hk88 : _ ≤ T88.heap.size := Nat.le_trans hk80 Kq88.1
    have c100 := (c89.keep Kq88 (allS g_b3 all0))
    have c101 := (c83.keep Kq88)
    obtain ⟨cq99, kq99, q99a, q99b, q99c⟩ := isOf hZ80 rfl c101
    obtain ⟨_, _, ⟨T99, Lw99, kw99, nw99⟩, -, X99, ⟨Lc99, hQ99, lq99, yq99, zq99⟩, st99⟩ := X88.virtualBack hx (y := M21) (z := M21) hown80 (mvT hZ80 (wd hw 130 rfl)) (mvT hZ80 (wd hw 131 rfl)) (notFace_of_selects (args := #[]) (mvT hZ80 (wd hw 133 rfl))) (mvT hZ80 (wd hw 133 rfl)) (mvT hZ80 (wd hw 132 rfl)) (by decide) (backOf (W := 4) (rg_tos l Z a0 hw [] b3 zc nb_88 nk_88 (70 : Int32) (own_put n1.toNatClampNeg (6 : Int32).toNatClampNeg (own_grow 34 70 nv_76) [(vI 32), (vI 98), (vI 121), (vI 116), (vI 101), (vI 115)]) n2 T88.heap n0 Z88 c100 uS uP c101 f88_0 f88_1 f88_5 f88_2 hB.2.2.2.2.2.2.1 hB.2.2.2.2.2.2.2.1 hB.2.2.2.2.2.2.2.2.1 hB.2.2.2.2.2.2.2.2.2.1) hZ80 (wd hw 134 rfl) (wd hw 8 rfl) (by decide) (by decide)) q99a q99c (g := (mkF m 31 #[vi p0] [(.ref b3), (vI 430), (vI 413), (.ref b1), (.ref b1)])) rfl (by rw [hml]; rfl) (Steps.refl _) (argsL := []) (rest := [(vI 430), (vI 413), (.ref b1), (.ref b1)]) (lenOf pd_22 rfl) rfl (by show 2 * 0 + _ ≤ _; exact Nat.le_of_eq rfl) (hb hby d1_31) (fun _ _ => ⟨rfl, rfl, (by decide : 9 + 2 ≤ _), (by decide : 272 + 68 ≤ _)⟩)
    dsimp only [Pt.U, Pt.locs, Pt.cells, Pt.slots] at X99 lq99 yq99 zq99 st99 hQ99
    have X99 := own_reb X99 lq99 yq99 zq99
    obtain ⟨nx_99, nb_99, nk_99, rfl, Nq99, Kq99, f99_0, f99_1, f99_2, f99_3, f99_4, f99_5⟩ := hQ99
    have N99 := Fr.app N88 Nq99
    have c102 := (c82.keep Kq88)
    have ne_b1_nx_99 : b1 ≠ nx_99 := Nat.ne_of_lt (Nat.lt_of_lt_of_le c102.lt f99_0)
    have ne_b3_nx_99 : b3 ≠ nx_99 := Nat.ne_of_lt (Nat.lt_of_lt_of_le c101.lt f99_0)
    have c103 := (((((f5_4.ext E9).keep Kq14).keep Kq76).ext E80).keep Kq88)
    have ne_nb_5_nx_99 : nb_5 ≠ nx_99 := Nat.ne_of_lt (Nat.lt_of_lt_of_le c103.lt f99_0)
    have c104 := ((((fE9.keep Kq14).keep Kq76).ext E80).keep Kq88)
    have ne_b9_nx_99 : b9 ≠ nx_99 := Nat.ne_of_lt (Nat.lt_of_lt_of_le c104.lt f99_0)
    have c105 := ((((fK9.keep Kq14 (ninS (Ne.symm nlb3_9.2) nin0)).keep Kq76 (ninS (Ne.symm nlb3_9.2) (ninS ne_t9_nb_14 nin0))).ext E80).keep Kq88 (ninS (Ne.symm nlb3_9.2) nin0))
    have ne_t9_nx_99 : t9 ≠ nx_99 := Nat.ne_of_lt (Nat.lt_of_lt_of_le c105.lt f99_0)
    have c106 := (((f14_4.keep Kq76).ext E80).keep Kq88)
    have ne_nb_14_nx_99 : nb_14 ≠ nx_99 := Nat.ne_of_lt (Nat.lt_of_lt_of_le c106.lt f99_0)
    have c107 := (fE80.keep Kq88)
    have ne_b80_nx_99 : b80 ≠ nx_99 := Nat.ne_of_lt (Nat.lt_of_lt_of_le c107.lt f99_0)
    have c108 := (fK80.keep Kq88 (ninS (Ne.symm nlb3_80.2) nin0))
    have ne_t80_nx_99 : t80 ≠ nx_99 := Nat.ne_of_lt (Nat.lt_of_lt_of_le c108.lt f99_0)
    have ne_nb_88_nx_99 : nb_88 ≠ nx_99 := Nat.ne_of_lt (Nat.lt_of_lt_of_le f88_4.lt f99_0)
    have g_nx_99 : n0 ≤ nx_99 := Nat.le_trans Z88 f99_0
    have sz_nx_99 : h0.size ≤ nx_99 := Nat.le_trans K88.1 f99_0
    have c109 := (c82.keep Kq88)
    have ne_b1_nb_99 : b1 ≠ nb_99 := Nat.ne_of_lt (Nat.lt_of_lt_of_le c109.lt f99_4)
    have ne_b3_nb_99 : b3 ≠ nb_99 := Nat.ne_of_lt (Nat.lt_of_lt_of_le c101.lt f99_4)
    have c110 := (((((f5_4.ext E9).keep Kq14).keep Kq76).ext E80).keep Kq88)
    have ne_nb_5_nb_99 : nb_5 ≠ nb_99 := Nat.ne_of_lt (Nat.lt_of_lt_of_le c110.lt f99_4)
    have c111 := ((((fE9.keep Kq14).keep Kq76).ext E80).keep Kq88)
    have ne_b9_nb_99 : b9 ≠ nb_99 := Nat.ne_of_lt (Nat.lt_of_lt_of_le c111.lt f99_4)
    have c112 := ((((fK9.keep Kq14 (ninS (Ne.symm nlb3_9.2) nin0)).keep Kq76 (ninS (Ne.symm nlb3_9.2) (ninS ne_t9_nb_14 nin0))).ext E80).keep Kq88 (ninS (Ne.symm nlb3_9.2) nin0))
    have ne_t9_nb_99 : t9 ≠ nb_99 := Nat.ne_of_lt (Nat.lt_of_lt_of_le c112.lt f99_4)
    have c113 := (((f14_4.keep Kq76).ext E80).keep Kq88)
    have ne_nb_14_nb_99 : nb_14 ≠ nb_99 := Nat.ne_of_lt (Nat.lt_of_lt_of_le c113.lt f99_4)
    have c114 := (fE80.keep Kq88)
    have ne_b80_nb_99 : b80 ≠ nb_99 := Nat.ne_of_lt (Nat.lt_of_lt_of_le c114.lt f99_4)
    have c115 := (fK80.keep Kq88 (ninS (Ne.symm nlb3_80.2) nin0))
    have ne_t80_nb_99 : t80 ≠ nb_99 := Nat.ne_of_lt (Nat.lt_of_lt_of_le c115.lt f99_4)
    have ne_nb_88_nb_99 : nb_88 ≠ nb_99 := Nat.ne_of_lt (Nat.lt_of_lt_of_le f88_4.lt f99_4)
    have g_nb_99 : n0 ≤ nb_99 := Nat.le_trans Z88 f99_4
    have sz_nb_99 : h0.size ≤ nb_99 := Nat.le_trans K88.1 f99_4
    have Re116 := Re98.trans (CHr.keep Kq99 all0 hCe98)
    have hCe116 := Re116.1
    have sf_nx_99 := Safe.keep Kq99 all0 hCe98 (Safe.new f99_0)
    have sf_nb_99 := Safe.keep Kq99 all0 hCe98 (Safe.new f99_4)
    have K99 : Keep h0 T99.heap [] := K88.trans Kq99 all0
    have Z99 : n0 ≤ T99.heap.size := Nat.le_trans Z88 Kq99.1
    have hk99 : _ ≤ T99.heap.size := Nat.le_trans hk88 Kq99.1
    have Vmsg : Arv Z T99.heap nb_99 nk_99 .byte (Int32.ofNat (own_cs N sg d).length) (((own_cs N sg d).map (fun c => c.toInt8.toInt32)).map Value.int) z0 := own_finB (f99_5) f14_7 f76_4 f76_5 f76_6 uML hB
    have c118 := (c100.keep Kq99 all0)
    have c119 := ((c82.keep Kq88).keep Kq99)
    have c120 := ((((((((Ut1.ext E3).keep Kq5 (ninS ne_b1_b3 nin0)).ext E9).keep Kq14 (ninS ne_b1_b3 nin0)).keep Kq76 (ninS ne_b1_b3 (ninS ne_b1_nb_14 nin0))).ext E80).keep Kq88 (ninS ne_b1_b3 nin0)).keep Kq99 nin0)
    have c121 := ((((((((F1_cause.ext E3).keep Kq5 (ninS ne_b1_b3 nin0)).ext E9).keep Kq14 (ninS ne_b1_b3 nin0)).keep Kq76 (ninS ne_b1_b3 (ninS ne_b1_nb_14 nin0))).ext E80).keep Kq88 (ninS ne_b1_b3 nin0)).keep Kq99 nin0)
    have c122 := ((((((((F1_stackTrace.ext E3).keep Kq5 (ninS ne_b1_b3 nin0)).ext E9).keep Kq14 (ninS ne_b1_b3 nin0)).keep Kq76 (ninS ne_b1_b3 (ninS ne_b1_nb_14 nin0))).ext E80).keep Kq88 (ninS ne_b1_b3 nin0)).keep Kq99 nin0)
    have c123 := ((((((((F1_suppressedExceptions.ext E3).keep Kq5 (ninS ne_b1_b3 nin0)).ext E9).keep Kq14 (ninS ne_b1_b3 nin0)).keep Kq76 (ninS ne_b1_b3 (ninS ne_b1_nb_14 nin0))).ext E80).keep Kq88 (ninS ne_b1_b3 nin0)).keep Kq99 nin0)
    have c124 := ((((((((F1_backtrace.ext E3).keep Kq5 (ninS ne_b1_b3 nin0)).ext E9).keep Kq14 (ninS ne_b1_b3 nin0)).keep Kq76 (ninS ne_b1_b3 (ninS ne_b1_nb_14 nin0))).ext E80).keep Kq88 (ninS ne_b1_b3 nin0)).keep Kq99 nin0)
    have c125 := ((((((((F1_detailMessage.ext E3).keep Kq5 (ninS ne_b1_b3 nin0)).ext E9).keep Kq14 (ninS ne_b1_b3 nin0)).keep Kq76 (ninS ne_b1_b3 (ninS ne_b1_nb_14 nin0))).ext E80).keep Kq88 (ninS ne_b1_b3 nin0)).keep Kq99 nin0)
    have c126 := ((((((((F1_status.ext E3).keep Kq5 (ninS ne_b1_b3 nin0)).ext E9).keep Kq14 (ninS ne_b1_b3 nin0)).keep Kq76 (ninS ne_b1_b3 (ninS ne_b1_nb_14 nin0))).ext E80).keep Kq88 (ninS ne_b1_b3 nin0)).keep Kq99 nin0)
    have c127 := ((((((((F1_code.ext E3).keep Kq5 (ninS ne_b1_b3 nin0)).ext E9).keep Kq14 (ninS ne_b1_b3 nin0)).keep Kq76 (ninS ne_b1_b3 (ninS ne_b1_nb_14 nin0))).ext E80).keep Kq88 (ninS ne_b1_b3 nin0)).keep Kq99 nin0)
    obtain ⟨_, _, ⟨T117, Lw117, kw117, nw117⟩, -, X117', hS117', hg117, ⟨Lc117, hQ117, lq117, yq117, zq117, CH117⟩, st117⟩ := X99.specialBackS hx (y := M32) rfl hown80 (mvT hZ80 (wd hw 170 rfl)) (mvT hZ80 (wd hw 171 rfl)) (mvT hZ80 (wd hw 172 rfl)) (by decide) (backOfSKH (W := 1) (rmX l Z a0 hw [] b1 (413 : Int32) (430 : Int32) nx_99 zc vu vq T99.heap n0 Z99 c118 uS uP uLt uZu uRu uZs uRs c119 c120 c121 c122 c123 c124 c125 c126 c127 g_b1) hZ80 (wd hw 172 rfl) (wd hw 2 rfl) (by decide) (by decide) (own_EW hw) hCe116 (Vm.MethodsKnown.alikeC hS80.1.alike hK.1) (Vm.FramesKnown.alikeC hS80.1.alike hK.2)) (g := (mkF m 34 #[vi p0] [(.ref nx_99), (vI 430), (vI 413), (.ref b1), (.ref b1)])) rfl (by rw [hml]; rfl) (Steps.refl _) (a := b1) (argsL := [(vI 413), (vI 430), (.ref nx_99)]) (rest := [(.ref b1)]) (lenOf pd_23 rfl) rfl (by show 2 * 0 + _ ≤ _; exact Nat.le_of_eq rfl) (hb hby d1_34) (fun _ _ => ⟨rfl, rfl, (by decide : 11 + 1 ≤ _), (by decide : 340 + 2752 ≤ _)⟩)
    dsimp only [Pt.U, Pt.locs, Pt.cells, Pt.slots] at X117' hS117' hg117 lq117 yq117 zq117 st117 hQ117 CH117
    have X117' := own_reb X117' lq117 yq117 zq117
    obtain ⟨X117, hS117, hZ117, hown117⟩ := rebS hS80 (own_hk rfl hk99) X117' hS117' hg117 hZ80 hown80
    obtain ⟨rfl, Nq117, Kq117, f117_0, f117_1, f117_2⟩ := hQ117
    have N117 := Fr.app N99 Nq117
    have Re128 := Re116.trans CH117
    have hCe128 := Re128.1
    have K117 : Keep h0 T117.heap [] := K99.trans Kq117 (allS (Or.inr sz_b1) all0)
    have Z117 : n0 ≤ T117.heap.size := Nat.le_trans Z99 Kq117.1
    have hk117 : T117.heap.size ≤ T117.heap.size := Nat.le_refl _
    have c129 := (c119.keep Kq117)
    have c130 := (f99_1.keep Kq117)
    have c131 := (f99_2.keep Kq117 (ninS (Ne.symm ne_b1_nx_99) nin0))
    have c132 := (f99_3.keep Kq117 (ninS (Ne.symm ne_b1_nx_99) nin0))
    have c133 := (Vmsg.keep Kq117 (ninS (Ne.symm ne_b1_nb_99) nin0))
    obtain ⟨fs, hr, hrun, hended, en1, en2, en3, en4⟩ := X117.leaveW hS117 (own_hk rfl hk117) (v := some (.ref b1)) (fun h => by rw [Bd.returns] at h; cases h)
    refine ⟨_, _, pre0 _ ?_, hrun, hended, _, _, rfl, ?_, own_chr (T := T117) hh rfl (Re128.trans (CHv.at X117 hZ117 (own_EW hw) hCe128)), en1, en2, en3, en4.mono (by decide) (by decide)⟩
    · refine sg22 _ ?_
      show SS p e below T14 (mkF m 23 #[vi p0] [(.int p0), (.ref b3), (vI 430), (vI 413), (.ref b1), (.ref b1)]) _
      refine st76.trans ?_
      show SS p e below T76 (mkF m 26 #[vi p0] [(.ref b3), (vI 430), (vI 413), (.ref b1), (.ref b1)]) _
      refine st80 _ ?_
      show SS p e below T80 (mkF m 28 #[vi p0] [(.ref b80), (.ref b3), (vI 430), (vI 413), (.ref b1), (.ref b1)]) _
      refine st88.trans ?_
      show SS p e below T88 (mkF m 31 #[vi p0] [(.ref b3), (vI 430), (vI 413), (.ref b1), (.ref b1)]) _
      refine st99.trans ?_
      show SS p e below T99 (mkF m 34 #[vi p0] [(.ref nx_99), (vI 430), (vI 413), (.ref b1), (.ref b1)]) _
      refine st117.trans ?_
      exact retOut X117 hx Bd.returns rfl (Or.inr (Or.inr (Or.inr (Or.inr ⟨rfl, rfl, rfl⟩)))) (hb hby d1_37) hr
    · show Q_rmTL Z p0 zc vu vq dg1 dg2 kd1 kd2 N sg d zs n1 n2 h0 n0 _ T117.heap _
      exact ⟨b1, nx_99, nb_99, nk_99, rfl, N117, K117, sz_b1, c129, f117_0, f117_1, f117_2, sz_nx_99, c130, c131, c132, sz_nb_99, c133⟩
  · have c135 := (c15.keep Kq14 (allS g_b3 all0))
    have c136 := (c12.keep Kq14)
    obtain ⟨cq134, kq134, q134a, q134b, q134c⟩ := isOf hZ9 rfl c136
    obtain ⟨_, _, ⟨T134, Lw134, kw134, nw134⟩, -, X134, ⟨Lc134, hQ134, lq134, yq134, zq134⟩, st134⟩ := X14.virtualBack hx (y := M28) (z := M28) hown9 (mvT hZ9 (wd hw 107 rfl)) (mvT hZ9 (wd hw 108 rfl)) (notFace_of_selects (args := #[]) (mvT hZ9 (wd hw 110 rfl))) (mvT hZ9 (wd hw 110 rfl)) (mvT hZ9 (wd hw 109 rfl)) (by decide) (backOf (W := 4) (rs_appIgs l Z a0 hw [] b3 p0 zc dg1 dg2 kd1 kd2 N sg d zs n1 nb_14 nk_14 nv_14 T14.heap n0 Z14 c135 uS uP uD uDV uT uTV uL1 uL2 uN uNb usg ud uSz uN1 ui hC.2.2.1 hC.1 hC.2.1 c136 f14_0 f14_1 f14_5 f14_2 g_b3 g_nb_14) hZ9 (wd hw 111 rfl) (wd hw 8 rfl) (by decide) (by decide)) q134a q134c (g := (mkF m 23 #[vi p0] [(.int p0), (.ref b3), (vI 430), (vI 413), (.ref b1), (.ref b1)])) rfl (by rw [hml]; rfl) (Steps.refl _) (argsL := [(.int p0)]) (rest := [(vI 430), (vI 413), (.ref b1), (.ref b1)]) (lenOf pd_21 rfl) rfl (by show 2 * 0 + _ ≤ _; exact Nat.le_of_eq rfl) (hb hby d1_23) (fun _ _ => ⟨rfl, rfl, (by decide : 6 + 1 ≤ _), (by decide : 174 + 70 ≤ _)⟩)
    dsimp only [Pt.U, Pt.locs, Pt.cells, Pt.slots] at X134 lq134 yq134 zq134 st134 hQ134
    have X134 := own_reb X134 lq134 yq134 zq134
    obtain ⟨nb_134, nk_134, nv_134, rfl, Nq134, Kq134, f134_0, f134_1, f134_2, f134_3, f134_4, f134_5, f134_6, f134_7, f134_8⟩ := hQ134
    have N134 := Fr.app N14 Nq134
    have c137 := (c11.keep Kq14)
    have ne_b1_nb_134 : b1 ≠ nb_134 := Nat.ne_of_lt (Nat.lt_of_lt_of_le c137.lt f134_3)
    have ne_b3_nb_134 : b3 ≠ nb_134 := Nat.ne_of_lt (Nat.lt_of_lt_of_le c136.lt f134_3)
    have c138 := ((f5_4.ext E9).keep Kq14)
    have ne_nb_5_nb_134 : nb_5 ≠ nb_134 := Nat.ne_of_lt (Nat.lt_of_lt_of_le c138.lt f134_3)
    have c139 := (fE9.keep Kq14)
    have ne_b9_nb_134 : b9 ≠ nb_134 := Nat.ne_of_lt (Nat.lt_of_lt_of_le c139.lt f134_3)
    have c140 := (fK9.keep Kq14 (ninS (Ne.symm nlb3_9.2) nin0))
    have ne_t9_nb_134 : t9 ≠ nb_134 := Nat.ne_of_lt (Nat.lt_of_lt_of_le c140.lt f134_3)
    have ne_nb_14_nb_134 : nb_14 ≠ nb_134 := Nat.ne_of_lt (Nat.lt_of_lt_of_le f14_4.lt f134_3)
    have g_nb_134 : n0 ≤ nb_134 := Nat.le_trans Z14 f134_3
    have sz_nb_134 : h0.size ≤ nb_134 := Nat.le_trans K14.1 f134_3
    have Re141 := Re21.trans (CHr.keep Kq134 (allS (Safe.exa hZ9.alike c136 (by decide) (by decide)) all0) hCe21)
    have hCe141 := Re141.1
    have sf_nb_134 := Safe.keep Kq134 (allS (Safe.exa hZ9.alike c136 (by decide) (by decide)) all0) hCe21 (Safe.new f134_3)
    have K134 : Keep h0 T134.heap [] := K14.trans Kq134 (allS (Or.inr sz_b3) all0)
    have Z134 : n0 ≤ T134.heap.size := Nat.le_trans Z14 Kq134.1
    have hk134 : _ ≤ T134.heap.size := Nat.le_trans hk14 Kq134.1
    obtain ⟨b142, T142, h142, kk142, t142, kc142, X142, e142, E142, hS142, hk142, hZ142, hown142, fE142, fC142, fV142, fK142, lta142, ltb142, CH142, -, SF142, st142⟩ := ldcCH X134 hx hZ9 hown9 (wd hw 129 rfl) (fun d hd => hw d (own_strAtoms d hd)) rfl hS9 hk134 (own_EW hw) (by decide) hCe141 (vs := [(vI 32), (vI 98), (vI 121), (vI 116), (vI 101), (vI 115)]) (z := (6 : Int32)) ⟨by decide, by decide⟩ (by decide) (by decide) (g := (mkF m 26 #[vi p0] [(.ref b3), (vI 430), (vI 413), (.ref b1), (.ref b1)])) rfl (hb hby d1_26) (n := 24) (by decide) (by decide) (by decide) (by decide)
    have Re143 := Re141.trans CH142
    have hCe143 := Re143.1
    have c144 := (((c11.keep Kq14).keep Kq134).ext E142)
    have nlb1_142 := SF142 b1 (Safe.exa hZ142.alike c144 (by decide) (by decide))
    have c145 := ((c136.keep Kq134).ext E142)
    have nlb3_142 := SF142 b3 (Safe.exa hZ142.alike c145 (by decide) (by decide))
    have c146 := (((f5_4.ext E9).keep Kq14).keep Kq134)
    have c147 := (CHr.safe CH142 c146.lt (Safe.keep Kq134 (allS (Safe.exa hZ9.alike c136 (by decide) (by decide)) all0) hCe21 (Safe.keep Kq14 (allS (Safe.exa hZ9.alike c12 (by decide) (by decide)) all0) hCe10 c13)))
    have nlnb_5_142 := SF142 nb_5 c147
    have c148 := (f14_4.keep Kq134)
    have c149 := (CHr.safe CH142 c148.lt (Safe.keep Kq134 (allS (Safe.exa hZ9.alike c136 (by decide) (by decide)) all0) hCe21 sf_nb_14))
    have nlnb_14_142 := SF142 nb_14 c149
    have c150 := (CHr.safe CH142 f134_4.lt sf_nb_134)
    have nlnb_134_142 := SF142 nb_134 c150
    have K142 : Keep h0 h142 [] := K134.ext E142
    have Z142 : n0 ≤ h142.size := Nat.le_trans Z134 E142.1
    have c152 := ((c135.keep Kq134 (allS g_b3 all0)).ext E142)
    have c153 := (f134_0.ext E142)
    have c154 := (f134_1.ext E142)
    have c155 := (f134_5.ext E142)
    have c156 := (f134_2.ext E142)
    obtain ⟨cq151, kq151, q151a, q151b, q151c⟩ := isOf hZ142 e142 c145
    obtain ⟨_, _, ⟨T151, Lw151, kw151, nw151⟩, -, X151, ⟨Lc151, hQ151, lq151, yq151, zq151⟩, st151⟩ := X142.virtualBack hx (y := M16) (z := M16) hown142 (mvT hZ142 (wd hw 34 rfl)) (mvT hZ142 (wd hw 35 rfl)) (notFace_of_selects (args := #[]) (mvT hZ142 (wd hw 37 rfl))) (mvT hZ142 (wd hw 37 rfl)) (mvT hZ142 (wd hw 36 rfl)) (by decide) (backOf (W := 4) (rg_app l Z a0 hw [] b3 b142 zc nb_134 nk_134 (70 : Int32) nv_134 t142 kc142 (6 : Int32) [(vI 32), (vI 98), (vI 121), (vI 116), (vI 101), (vI 115)] n1 n2 h142 n0 Z142 c152 uS uP c145 c153 c154 c155 f134_6 c156 fE142 fV142 fC142 fK142 uN2 hC.2.2.2.1 hC.2.2.2.2.1 (by decide) hC.2.2.2.2.2.1 g_b3 g_nb_134) hZ142 (wd hw 38 rfl) (wd hw 8 rfl) (by decide) (by decide)) q151a q151c (g := (mkF m 28 #[vi p0] [(.ref b142), (.ref b3), (vI 430), (vI 413), (.ref b1), (.ref b1)])) rfl (by rw [hml]; rfl) (Steps.refl _) (argsL := [(.ref b142)]) (rest := [(vI 430), (vI 413), (.ref b1), (.ref b1)]) (lenOf pd_20 rfl) rfl (by show 2 * 0 + _ ≤ _; exact Nat.le_of_eq rfl) (hb hby d1_28) (fun _ _ => ⟨rfl, e142, (by decide : 9 + 0 ≤ _), (by decide : 272 + 0 ≤ _)⟩)
    dsimp only [Pt.U, Pt.locs, Pt.cells, Pt.slots] at X151 lq151 yq151 zq151 st151 hQ151
    have X151 := own_reb X151 lq151 yq151 zq151
    obtain ⟨rfl, Nq151, Kq151, f151_0, f151_1, f151_2, f151_3⟩ := hQ151
    have N151 := Fr.app N134 Nq151
    have Re157 := Re143.trans (CHr.keep Kq151 (allS (Safe.exa hZ142.alike c145 (by decide) (by decide)) (allS c150 all0)) hCe143)
    have hCe157 := Re157.1
    have K151 : Keep h0 T151.heap [] := K142.trans Kq151 (allS (Or.inr sz_b3) (allS (Or.inr sz_nb_134) all0))
    have Z151 : n0 ≤ T151.heap.size := Nat.le_trans Z142 Kq151.1
    have hk151 : _ ≤ T151.heap.size := Nat.le_trans hk142 Kq151.1
    have c159 := (c152.keep Kq151 (allS g_b3 (allS g_nb_134 all0)))
    have c160 := (c145.keep Kq151)
    obtain ⟨cq158, kq158, q158a, q158b, q158c⟩ := isOf hZ142 rfl c160
    obtain ⟨_, _, ⟨T158, Lw158, kw158, nw158⟩, -, X158, ⟨Lc158, hQ158, lq158, yq158, zq158⟩, st158⟩ := X151.virtualBack hx (y := M21) (z := M21) hown142 (mvT hZ142 (wd hw 130 rfl)) (mvT hZ142 (wd hw 131 rfl)) (notFace_of_selects (args := #[]) (mvT hZ142 (wd hw 133 rfl))) (mvT hZ142 (wd hw 133 rfl)) (mvT hZ142 (wd hw 132 rfl)) (by decide) (backOf (W := 4) (rg_tos l Z a0 hw [] b3 zc nb_134 nk_134 (70 : Int32) (own_put n1.toNatClampNeg (6 : Int32).toNatClampNeg nv_134 [(vI 32), (vI 98), (vI 121), (vI 116), (vI 101), (vI 115)]) n2 T151.heap n0 Z151 c159 uS uP c160 f151_0 f151_1 f151_3 f151_2 hC.2.2.2.2.2.2.1 hC.2.2.2.2.2.2.2.1 hC.2.2.2.2.2.2.2.2.1 hC.2.2.2.2.2.2.2.2.2.1) hZ142 (wd hw 134 rfl) (wd hw 8 rfl) (by decide) (by decide)) q158a q158c (g := (mkF m 31 #[vi p0] [(.ref b3), (vI 430), (vI 413), (.ref b1), (.ref b1)])) rfl (by rw [hml]; rfl) (Steps.refl _) (argsL := []) (rest := [(vI 430), (vI 413), (.ref b1), (.ref b1)]) (lenOf pd_22 rfl) rfl (by show 2 * 0 + _ ≤ _; exact Nat.le_of_eq rfl) (hb hby d1_31) (fun _ _ => ⟨rfl, rfl, (by decide : 9 + 2 ≤ _), (by decide : 272 + 68 ≤ _)⟩)
    dsimp only [Pt.U, Pt.locs, Pt.cells, Pt.slots] at X158 lq158 yq158 zq158 st158 hQ158
    have X158 := own_reb X158 lq158 yq158 zq158
    obtain ⟨nx_158, nb_158, nk_158, rfl, Nq158, Kq158, f158_0, f158_1, f158_2, f158_3, f158_4, f158_5⟩ := hQ158
    have N158 := Fr.app N151 Nq158
    have c161 := (c144.keep Kq151)
    have ne_b1_nx_158 : b1 ≠ nx_158 := Nat.ne_of_lt (Nat.lt_of_lt_of_le c161.lt f158_0)
    have ne_b3_nx_158 : b3 ≠ nx_158 := Nat.ne_of_lt (Nat.lt_of_lt_of_le c160.lt f158_0)
    have c162 := (((((f5_4.ext E9).keep Kq14).keep Kq134).ext E142).keep Kq151)
    have ne_nb_5_nx_158 : nb_5 ≠ nx_158 := Nat.ne_of_lt (Nat.lt_of_lt_of_le c162.lt f158_0)
    have c163 := ((((fE9.keep Kq14).keep Kq134).ext E142).keep Kq151)
    have ne_b9_nx_158 : b9 ≠ nx_158 := Nat.ne_of_lt (Nat.lt_of_lt_of_le c163.lt f158_0)
    have c164 := ((((fK9.keep Kq14 (ninS (Ne.symm nlb3_9.2) nin0)).keep Kq134 (ninS (Ne.symm nlb3_9.2) nin0)).ext E142).keep Kq151 (ninS (Ne.symm nlb3_9.2) (ninS ne_t9_nb_134 nin0)))
    have ne_t9_nx_158 : t9 ≠ nx_158 := Nat.ne_of_lt (Nat.lt_of_lt_of_le c164.lt f158_0)
    have c165 := (((f14_4.keep Kq134).ext E142).keep Kq151)
    have ne_nb_14_nx_158 : nb_14 ≠ nx_158 := Nat.ne_of_lt (Nat.lt_of_lt_of_le c165.lt f158_0)
    have c166 := ((f134_4.ext E142).keep Kq151)
    have ne_nb_134_nx_158 : nb_134 ≠ nx_158 := Nat.ne_of_lt (Nat.lt_of_lt_of_le c166.lt f158_0)
    have c167 := (fE142.keep Kq151)
    have ne_b142_nx_158 : b142 ≠ nx_158 := Nat.ne_of_lt (Nat.lt_of_lt_of_le c167.lt f158_0)
    have c168 := (fK142.keep Kq151 (ninS (Ne.symm nlb3_142.2) (ninS (Ne.symm nlnb_134_142.2) nin0)))
    have ne_t142_nx_158 : t142 ≠ nx_158 := Nat.ne_of_lt (Nat.lt_of_lt_of_le c168.lt f158_0)
    have g_nx_158 : n0 ≤ nx_158 := Nat.le_trans Z151 f158_0
    have sz_nx_158 : h0.size ≤ nx_158 := Nat.le_trans K151.1 f158_0
    have c169 := (c144.keep Kq151)
    have ne_b1_nb_158 : b1 ≠ nb_158 := Nat.ne_of_lt (Nat.lt_of_lt_of_le c169.lt f158_4)
    have ne_b3_nb_158 : b3 ≠ nb_158 := Nat.ne_of_lt (Nat.lt_of_lt_of_le c160.lt f158_4)
    have c170 := (((((f5_4.ext E9).keep Kq14).keep Kq134).ext E142).keep Kq151)
    have ne_nb_5_nb_158 : nb_5 ≠ nb_158 := Nat.ne_of_lt (Nat.lt_of_lt_of_le c170.lt f158_4)
    have c171 := ((((fE9.keep Kq14).keep Kq134).ext E142).keep Kq151)
    have ne_b9_nb_158 : b9 ≠ nb_158 := Nat.ne_of_lt (Nat.lt_of_lt_of_le c171.lt f158_4)
    have c172 := ((((fK9.keep Kq14 (ninS (Ne.symm nlb3_9.2) nin0)).keep Kq134 (ninS (Ne.symm nlb3_9.2) nin0)).ext E142).keep Kq151 (ninS (Ne.symm nlb3_9.2) (ninS ne_t9_nb_134 nin0)))
    have ne_t9_nb_158 : t9 ≠ nb_158 := Nat.ne_of_lt (Nat.lt_of_lt_of_le c172.lt f158_4)
    have c173 := (((f14_4.keep Kq134).ext E142).keep Kq151)
    have ne_nb_14_nb_158 : nb_14 ≠ nb_158 := Nat.ne_of_lt (Nat.lt_of_lt_of_le c173.lt f158_4)
    have c174 := ((f134_4.ext E142).keep Kq151)
    have ne_nb_134_nb_158 : nb_134 ≠ nb_158 := Nat.ne_of_lt (Nat.lt_of_lt_of_le c174.lt f158_4)
    have c175 := (fE142.keep Kq151)
    have ne_b142_nb_158 : b142 ≠ nb_158 := Nat.ne_of_lt (Nat.lt_of_lt_of_le c175.lt f158_4)
    have c176 := (fK142.keep Kq151 (ninS (Ne.symm nlb3_142.2) (ninS (Ne.symm nlnb_134_142.2) nin0)))
    have ne_t142_nb_158 : t142 ≠ nb_158 := Nat.ne_of_lt (Nat.lt_of_lt_of_le c176.lt f158_4)
    have g_nb_158 : n0 ≤ nb_158 := Nat.le_trans Z151 f158_4
    have sz_nb_158 : h0.size ≤ nb_158 := Nat.le_trans K151.1 f158_4
    have Re177 := Re157.trans (CHr.keep Kq158 all0 hCe157)
    have hCe177 := Re177.1
    have sf_nx_158 := Safe.keep Kq158 all0 hCe157 (Safe.new f158_0)
    have sf_nb_158 := Safe.keep Kq158 all0 hCe157 (Safe.new f158_4)
    have K158 : Keep h0 T158.heap [] := K151.trans Kq158 all0
    have Z158 : n0 ≤ T158.heap.size := Nat.le_trans Z151 Kq158.1
    have hk158 : _ ≤ T158.heap.size := Nat.le_trans hk151 Kq158.1
    have Vmsg : Arv Z T158.heap nb_158 nk_158 .byte (Int32.ofNat (own_cs N sg d).length) (((own_cs N sg d).map (fun c => c.toInt8.toInt32)).map Value.int) z0 := own_finC (f158_5) f14_7 f134_6 f134_7 f134_8 uML hC
    have c179 := (c159.keep Kq158 all0)
    have c180 := ((c144.keep Kq151).keep Kq158)
    have c181 := ((((((((Ut1.ext E3).keep Kq5 (ninS ne_b1_b3 nin0)).ext E9).keep Kq14 (ninS ne_b1_b3 nin0)).keep Kq134 (ninS ne_b1_b3 nin0)).ext E142).keep Kq151 (ninS ne_b1_b3 (ninS ne_b1_nb_134 nin0))).keep Kq158 nin0)
    have c182 := ((((((((F1_cause.ext E3).keep Kq5 (ninS ne_b1_b3 nin0)).ext E9).keep Kq14 (ninS ne_b1_b3 nin0)).keep Kq134 (ninS ne_b1_b3 nin0)).ext E142).keep Kq151 (ninS ne_b1_b3 (ninS ne_b1_nb_134 nin0))).keep Kq158 nin0)
    have c183 := ((((((((F1_stackTrace.ext E3).keep Kq5 (ninS ne_b1_b3 nin0)).ext E9).keep Kq14 (ninS ne_b1_b3 nin0)).keep Kq134 (ninS ne_b1_b3 nin0)).ext E142).keep Kq151 (ninS ne_b1_b3 (ninS ne_b1_nb_134 nin0))).keep Kq158 nin0)
    have c184 := ((((((((F1_suppressedExceptions.ext E3).keep Kq5 (ninS ne_b1_b3 nin0)).ext E9).keep Kq14 (ninS ne_b1_b3 nin0)).keep Kq134 (ninS ne_b1_b3 nin0)).ext E142).keep Kq151 (ninS ne_b1_b3 (ninS ne_b1_nb_134 nin0))).keep Kq158 nin0)
    have c185 := ((((((((F1_backtrace.ext E3).keep Kq5 (ninS ne_b1_b3 nin0)).ext E9).keep Kq14 (ninS ne_b1_b3 nin0)).keep Kq134 (ninS ne_b1_b3 nin0)).ext E142).keep Kq151 (ninS ne_b1_b3 (ninS ne_b1_nb_134 nin0))).keep Kq158 nin0)
    have c186 := ((((((((F1_detailMessage.ext E3).keep Kq5 (ninS ne_b1_b3 nin0)).ext E9).keep Kq14 (ninS ne_b1_b3 nin0)).keep Kq134 (ninS ne_b1_b3 nin0)).ext E142).keep Kq151 (ninS ne_b1_b3 (ninS ne_b1_nb_134 nin0))).keep Kq158 nin0)
    have c187 := ((((((((F1_status.ext E3).keep Kq5 (ninS ne_b1_b3 nin0)).ext E9).keep Kq14 (ninS ne_b1_b3 nin0)).keep Kq134 (ninS ne_b1_b3 nin0)).ext E142).keep Kq151 (ninS ne_b1_b3 (ninS ne_b1_nb_134 nin0))).keep Kq158 nin0)
    have c188 := ((((((((F1_code.ext E3).keep Kq5 (ninS ne_b1_b3 nin0)).ext E9).keep Kq14 (ninS ne_b1_b3 nin0)).keep Kq134 (ninS ne_b1_b3 nin0)).ext E142).keep Kq151 (ninS ne_b1_b3 (ninS ne_b1_nb_134 nin0))).keep Kq158 nin0)
    obtain ⟨_, _, ⟨T178, Lw178, kw178, nw178⟩, -, X178', hS178', hg178, ⟨Lc178, hQ178, lq178, yq178, zq178, CH178⟩, st178⟩ := X158.specialBackS hx (y := M32) rfl hown142 (mvT hZ142 (wd hw 170 rfl)) (mvT hZ142 (wd hw 171 rfl)) (mvT hZ142 (wd hw 172 rfl)) (by decide) (backOfSKH (W := 1) (rmX l Z a0 hw [] b1 (413 : Int32) (430 : Int32) nx_158 zc vu vq T158.heap n0 Z158 c179 uS uP uLt uZu uRu uZs uRs c180 c181 c182 c183 c184 c185 c186 c187 c188 g_b1) hZ142 (wd hw 172 rfl) (wd hw 2 rfl) (by decide) (by decide) (own_EW hw) hCe177 (Vm.MethodsKnown.alikeC hS142.1.alike hK.1) (Vm.FramesKnown.alikeC hS142.1.alike hK.2)) (g := (mkF m 34 #[vi p0] [(.ref nx_158), (vI 430), (vI 413), (.ref b1), (.ref b1)])) rfl (by rw [hml]; rfl) (Steps.refl _) (a := b1) (argsL := [(vI 413), (vI 430), (.ref nx_158)]) (rest := [(.ref b1)]) (lenOf pd_23 rfl) rfl (by show 2 * 0 + _ ≤ _; exact Nat.le_of_eq rfl) (hb hby d1_34) (fun _ _ => ⟨rfl, rfl, (by decide : 11 + 1 ≤ _), (by decide : 340 + 2752 ≤ _)⟩)
    dsimp only [Pt.U, Pt.locs, Pt.cells, Pt.slots] at X178' hS178' hg178 lq178 yq178 zq178 st178 hQ178 CH178
    have X178' := own_reb X178' lq178 yq178 zq178
    obtain ⟨X178, hS178, hZ178, hown178⟩ := rebS hS142 (own_hk rfl hk158) X178' hS178' hg178 hZ142 hown142
    obtain ⟨rfl, Nq178, Kq178, f178_0, f178_1, f178_2⟩ := hQ178
    have N178 := Fr.app N158 Nq178
    have Re189 := Re177.trans CH178
    have hCe189 := Re189.1
    have K178 : Keep h0 T178.heap [] := K158.trans Kq178 (allS (Or.inr sz_b1) all0)
    have Z178 : n0 ≤ T178.heap.size := Nat.le_trans Z158 Kq178.1
    have hk178 : T178.heap.size ≤ T178.heap.size := Nat.le_refl _
    have c190 := (c180.keep Kq178)
    have c191 := (f158_1.keep Kq178)
    have c192 := (f158_2.keep Kq178 (ninS (Ne.symm ne_b1_nx_158) nin0))
    have c193 := (f158_3.keep Kq178 (ninS (Ne.symm ne_b1_nx_158) nin0))
    have c194 := (Vmsg.keep Kq178 (ninS (Ne.symm ne_b1_nb_158) nin0))
    obtain ⟨fs, hr, hrun, hended, en1, en2, en3, en4⟩ := X178.leaveW hS178 (own_hk rfl hk178) (v := some (.ref b1)) (fun h => by rw [Bd.returns] at h; cases h)
    refine ⟨_, _, pre0 _ ?_, hrun, hended, _, _, rfl, ?_, own_chr (T := T178) hh rfl (Re189.trans (CHv.at X178 hZ178 (own_EW hw) hCe189)), en1, en2, en3, en4.mono (by decide) (by decide)⟩
    · refine sg22 _ ?_
      show SS p e below T14 (mkF m 23 #[vi p0] [(.int p0), (.ref b3), (vI 430), (vI 413), (.ref b1), (.ref b1)]) _
      refine st134.trans ?_
      show SS p e below T134 (mkF m 26 #[vi p0] [(.ref b3), (vI 430), (vI 413), (.ref b1), (.ref b1)]) _
      refine st142 _ ?_
      show SS p e below T142 (mkF m 28 #[vi p0] [(.ref b142), (.ref b3), (vI 430), (vI 413), (.ref b1), (.ref b1)]) _
      refine st151.trans ?_
      show SS p e below T151 (mkF m 31 #[vi p0] [(.ref b3), (vI 430), (vI 413), (.ref b1), (.ref b1)]) _
      refine st158.trans ?_
      show SS p e below T158 (mkF m 34 #[vi p0] [(.ref nx_158), (vI 430), (vI 413), (.ref b1), (.ref b1)]) _
      refine st178.trans ?_
      exact retOut X178 hx Bd.returns rfl (Or.inr (Or.inr (Or.inr (Or.inr ⟨rfl, rfl, rfl⟩)))) (hb hby d1_37) hr
    · show Q_rmTL Z p0 zc vu vq dg1 dg2 kd1 kd2 N sg d zs n1 n2 h0 n0 _ T178.heap _
      exact ⟨b1, nx_158, nb_158, nk_158, rfl, N178, K178, sz_b1, c190, f178_0, f178_1, f178_2, sz_nx_158, c191, c192, c193, sz_nb_158, c194⟩
theorem own_w_wordsChN : ∀ d ∈ StrChars.Road.wordsChN, d ∈ tables_1 := by decide +kernel
theorem pd_24 : parseMethodDescriptor "(I)C" = some ⟨[.int], some .char⟩ := by decide +kernel
theorem own_chAt {p : Program} {l : Launch} {e : Env} {R : Room} {s : State} {m : MethodId} {args : Array Value} {below : List Frame} {meth : Method} {c : Code} {T : State} {locs : List Loc} {cells slots : Nat} {Z : State} {a0 : Array Value} {h : Heap} (X : Stand p l e R s m args below meth c T locs cells slots) (hx : p.tables.exec = Jvm.exec) (hZ : Z.Warmed39 s.vm) (hown : s.vm.findClass "com/example/plain_hub/plainhub/HubExceptionTooLargePinLaw" = some m.cls) (hw : ∀ d ∈ tables_1, d.before a0 Z = true) (eT : T.heap = h) {x t : Addr} {kb : ClassId} {cs : List Int32} {z : Int32} {fm : Value} (E : Exa Z h x "java/lang/String") (V : Fld Z h x "java/lang/String" "value" "[B" (.ref t)) (C : Fld Z h x "java/lang/String" "coder" "B" z0) (K : Arv Z h t kb .byte (Int32.ofNat cs.length) (own_V cs) z0) (hbd : ∀ c ∈ cs, ¬ c < 0 ∧ ¬ (255 : Int32) < c) (l2 : cs.length ≤ 4000) (S : Sta Z h "java/lang/String" "COMPACT_STRINGS" "Z" (.int z)) (hz : ¬ z = 0) (F : Sta Z h "jdk/internal/util/Preconditions" "SIOOBE_FORMATTER" "Ljava/util/function/BiFunction;" fm) (rf : fm.isRef = true) {i : Nat} (hi : i < cs.length) {j : Int32} (hj : j = Int32.ofNat i) {g : JFrame} (hg : g.method = m) (hsize : g.locals.size = c.maxLocals) {rest : List Value} (hs : g.stack = .int j :: .ref x :: rest) (hd : decode c.code g.pc = .ok (.invokevirtual 41, 3)) (hf : 4 ≤ R.frames) (hlo : 2 * g.monitorRoom + (rest.map fun v => v.category).sum + 53 ≤ R.locals) (hc : cells ≤ R.cells) (hsl : slots ≤ R.slots) :
    ∃ T', Stand p l e R s m args below meth c T' locs cells slots ∧ T'.heap = h ∧ ∀ target, Steps p.tables e below (T'.setTop { g with pc := g.pc + 3, stack := .int (cs.getD i 0) :: rest }) target → Steps p.tables e below (T.setTop g) target := by
  obtain ⟨cq, kq, qa, qb, qc⟩ := isOf hZ eT E
  obtain ⟨_, _, ⟨T', L', k', n'⟩, -, X', ⟨Lc, ⟨rfl, rfl, eh⟩, l1, y1, z1⟩, st⟩ := X.virtualBack hx (y := M37) (z := M37) hown (mvT hZ (wd hw 258 rfl)) (mvT hZ (wd hw 259 rfl)) (notFace_of_selects (args := #[]) (mvT hZ (wd hw 261 rfl))) (mvT hZ (wd hw 261 rfl)) (mvT hZ (wd hw 260 rfl)) (by decide) (StrChars.Road.chN (W := 2 * g.monitorRoom + (rest.map fun v => v.category).sum) hZ (fun d hd => hw d (own_w_wordsChN d hd)) (kI := 4) (wd hw 29 rfl) E V C K (StrChars.Road.codOf (cs := cs) (n := cs.length) rfl (fun c hc => (hbd c hc).2)) (own_up hbd) S hz F rf l2 (i := i) hi (j := j) hj hf hlo) qa qc (g := g) hg hsize (Steps.refl _) (argsL := [.int j]) (rest := rest) (lenOf pd_24 rfl) hs (Nat.le_refl _) hd (fun _ _ => ⟨rfl, eT, hc, hsl⟩)
  dsimp only [Pt.U, Pt.locs, Pt.cells, Pt.slots] at X' l1 y1 z1 st eh
  exact ⟨T', own_reb X' (l1.trans (List.append_nil _)) y1 z1, eh, fun target k => st.trans k⟩
theorem own_minus {p : Program} {l : Launch} {e : Env} {R : Room} {s : State} {m : MethodId} {args : Array Value} {below : List Frame} {meth : Method} {c : Code} {T : State} {locs : List Loc} {cells slots : Nat} {Z : State} {a0 : Array Value} {h : Heap} (X : Stand p l e R s m args below meth c T locs cells slots) (hx : p.tables.exec = Jvm.exec) (hZ : Z.Warmed39 s.vm) (hown : s.vm.findClass "com/example/plain_hub/plainhub/HubExceptionTooLargePinLaw" = some m.cls) (hw : ∀ d ∈ tables_1, d.before a0 Z = true) (eT : T.heap = h) {x t : Addr} {kb : ClassId} {cs : List Int32} {z : Int32} {fm : Value} (E : Exa Z h x "java/lang/String") (V : Fld Z h x "java/lang/String" "value" "[B" (.ref t)) (C : Fld Z h x "java/lang/String" "coder" "B" z0) (K : Arv Z h t kb .byte (Int32.ofNat cs.length) (own_V cs) z0) (hbd : ∀ c ∈ cs, ¬ c < 0 ∧ ¬ (255 : Int32) < c) (l2 : cs.length ≤ 4000) (S : Sta Z h "java/lang/String" "COMPACT_STRINGS" "Z" (.int z)) (hz : ¬ z = 0) (F : Sta Z h "jdk/internal/util/Preconditions" "SIOOBE_FORMATTER" "Ljava/util/function/BiFunction;" fm) (rf : fm.isRef = true) (hby : c.code = code) {ng : Int32} (h27 : ng = (1 : Int32) → cs.getD 27 0 = (45 : Int32)) (hi : 27 < cs.length) {Ls : Array Slot} (hsz : Ls.size = c.maxLocals) (h5 : Ls[5]? = some (vi ng)) (h2 : Ls[2]? = some (vr x)) (hf : 4 ≤ R.frames) (hlo : 53 ≤ R.locals) (hc : cells ≤ R.cells) (hsl : slots ≤ R.slots) :
    ∃ T', Stand p l e R s m args below meth c T' locs cells slots ∧ T'.heap = h ∧ ∀ target, SS p e below T' (mkF m 482 Ls []) target → SS p e below T (mkF m 463 Ls []) target := by
  by_cases hng : ng = (1 : Int32)
  · obtain ⟨T', X', e', st⟩ := own_chAt X hx hZ hown hw eT E V C K hbd l2 S hz F rf hi (j := (27 : Int32)) rfl (g := mkF m 472 Ls [.int (27 : Int32), .ref x]) rfl hsz (rest := []) rfl (hb hby at_472) hf (by show 2 * 0 + 0 + 53 ≤ _; omega) hc hsl
    refine ⟨T', X', e', fun target kt => ?_⟩
    refine XS.iload X.here hx rfl (hb hby at_463) h5 ?_
    refine XS.iconst X.here hx rfl (hb hby at_465) ?_
    refine XS.icmpNo X.here hx rfl (hb hby at_466) rfl (teq (hng : ng = (1 : Int32))).2 ?_
    refine XS.aloadN X.here hx rfl (hb hby at_469) h2 rfl ?_
    refine XS.bipush X.here hx rfl (hb hby at_470) ?_
    refine st _ ?_
    show SS p e below T' (mkF m 475 Ls [.int (cs.getD 27 0)]) target
    rw [h27 hng]
    refine XS.bipush X'.here hx rfl (hb hby at_475) ?_
    refine XS.icmpYes X'.here hx rfl (pc0 := 477) (pc' := 482) rfl (hb hby at_477) rfl (teq (rfl : (45 : Int32) = (45 : Int32))).1 (by decide) (by decide) ?_
    exact kt
  · refine ⟨T, X, eT, fun target kt => ?_⟩
    refine XS.iload X.here hx rfl (hb hby at_463) h5 ?_
    refine XS.iconst X.here hx rfl (hb hby at_465) ?_
    refine XS.icmpYes X.here hx rfl (pc0 := 466) (pc' := 482) rfl (hb hby at_466) rfl (feq (hng : ¬ ng = (1 : Int32))).2 (by decide) (by decide) ?_
    exact kt
theorem ef_41 (m : MethodId) (x0 : Int64) : entryFrame m #[(.long x0)] 2 = mkF m 0 #[vl x0, us] [] := by first | (simp [entryFrame, mkF, argsToLocals, Value.category]; done) | rfl
theorem d39_0 : decode jdk_29_method_61_code 0 = .ok (.lload_n 0, 1) := by decide +kernel
theorem d39_1 : decode jdk_29_method_61_code 1 = .ok (.lconst 0, 1) := by decide +kernel
theorem d39_2 : decode jdk_29_method_61_code 2 = .ok (.lcmp, 1) := by decide +kernel
theorem d39_3 : decode jdk_29_method_61_code 3 = .ok (.ifCond .ge 8, 3) := by decide +kernel
theorem d39_6 : decode jdk_29_method_61_code 6 = .ok (.lload_n 0, 1) := by decide +kernel
theorem d39_7 : decode jdk_29_method_61_code 7 = .ok (.lneg, 1) := by decide +kernel
theorem d39_8 : decode jdk_29_method_61_code 8 = .ok (.goto 4, 3) := by decide +kernel
theorem d39_12 : decode jdk_29_method_61_code 12 = .ok (.lreturn, 1) := by decide +kernel
theorem d39_11 : decode jdk_29_method_61_code 11 = .ok (.lload_n 0, 1) := by decide +kernel
def Q_rmAbs (Z : State) (q0 : Int64) (qa : Int64) (h0 : Heap) (n0 : Nat) (v : Option Value) (h : Heap) (L : List Loc) : Prop := (v = some (.long qa) ∧ Fr n0 L ∧ h = h0)
set_option maxRecDepth 65536 in
set_option maxHeartbeats 40000000 in
theorem rmAbs (l : Launch) (Z : State) (a0 : Array Value) (hw : ∀ d ∈ tables_1, d.before a0 Z = true) (ws : List Jvm.Cond) (q0 : Int64) (qa : Int64) (h0 : Heap) (n0 : Nat) (Z0 : n0 ≤ h0.size) (uAb : (if (lcmpW q0 (0 : Int64)) < (0 : Int32) then (-q0) else q0) = qa) :
    MetFree l M38 (head1 (Jvm.Cond.code M38 jdk_29_method_61_code 2 (some .long) :: ws) ({ frames := 0, cells := 0, slots := 0, locals := 0 } : Room)) (fun a U => a = #[(.long q0)] ∧ Z.Warmed39 U.vm ∧ U.heap = h0) (fun _ _ _ _ _ => True) (fun _ U o U' => ∃ v L, o = .returned v ∧ Q_rmAbs Z q0 qa h0 n0 v U'.heap L ∧ FrameEnd U o U' L ({ frames := 0, cells := 0, slots := 0, locals := 0 } : Room).cells ({ frames := 0, cells := 0, slots := 0, locals := 0 } : Room).slots) := by
  refine MetFree.of_bodySF (Jvm.Free.JP.mathPlain rfl (by decide +kernel)) hisR ?_
  intro p e s m args below meth c s₁ Bd hml0 hP hK
  obtain ⟨rfl, hZ, hh⟩ := hP
  have hx := Bd.exec
  have hby := Bd.bytes
  have hml : c.maxLocals = 2 := hml0
  have hown : s.vm.findClass "java/lang/Math" = some m.cls := findClass_of_methodNamed Bd.named
  have hnm := (name_of_methodNamed Bd.named Bd.method).1
  have X0 : Stand p l e ({ frames := 0, cells := 0, slots := 0, locals := 0 } : Room) s m #[(.long q0)] below meth c s₁ [] 0 0 := Stand.of_body Bd
  have e0 : s₁.heap = h0 := by rw [← hh, Bd.state]; rfl
  have N0 := Fr.nil n0
  have pre0 : ∀ t, Steps p.tables e below (s₁.setTop (mkF m 0 #[vl q0, us] [])) t → Steps p.tables e below (s₁.setTop (entryFrame m #[(.long q0)] 2)) t := fun t k => castTop (ef_41 m q0) k
  by_cases hc3 : (lcmpW q0 (0 : Int64)) < (0 : Int32)
  · obtain ⟨fs, hr, hrun, hended, hW, hsame⟩ := X0.leave (v := some (.long (-q0))) (fun h => by rw [Bd.returns] at h; cases h)
    refine ⟨_, _, pre0 _ ?_, hrun, hended, _, _, rfl, ?_, ⟨_, rfl⟩, hW, hsame.mono (by decide) (by decide)⟩
    · show SS p e below s₁ (mkF m 0 #[vl q0, us] []) _
      refine XS.lloadN X0.here hx rfl (hb hby d39_0) rfl ?_
      refine XS.lconst X0.here hx rfl (hb hby d39_1) ?_
      show SS p e below s₁ (mkF m 2 #[vl q0, us] [(.long (0 : Int64)), (.long q0)]) _
      refine XS.lcmp X0.here hx rfl (hb hby d39_2) rfl ?_
      show SS p e below s₁ (mkF m 3 #[vl q0, us] [(.int (lcmpW q0 (0 : Int64)))]) _
      refine XS.ifNo X0.here hx rfl (hb hby d39_3) rfl ((if0 _ _).trans (tlt (hc3 : (lcmpW q0 (0 : Int64)) < (0 : Int32))).2.1) ?_
      refine XS.lloadN X0.here hx rfl (hb hby d39_6) rfl ?_
      show SS p e below s₁ (mkF m 7 #[vl q0, us] [(.long q0)]) _
      refine XS.lneg X0.here hx rfl (hb hby d39_7) rfl ?_
      refine XS.goto X0.here hx rfl (pc0 := 8) (pc' := 12) rfl (hb hby d39_8) (by decide) (by decide) ?_
      show SS p e below s₁ (mkF m 12 #[vl q0, us] [(.long (-q0))]) _
      exact retOut X0 hx Bd.returns rfl (Or.inr (Or.inl ⟨rfl, rfl, _, rfl⟩)) (hb hby d39_12) hr
    · show Q_rmAbs Z q0 qa h0 n0 _ s₁.heap _
      rw [e0]
      exact ⟨(by rw [← uAb, if_pos hc3]), N0, rfl⟩
  · obtain ⟨fs, hr, hrun, hended, hW, hsame⟩ := X0.leave (v := some (.long q0)) (fun h => by rw [Bd.returns] at h; cases h)
    refine ⟨_, _, pre0 _ ?_, hrun, hended, _, _, rfl, ?_, ⟨_, rfl⟩, hW, hsame.mono (by decide) (by decide)⟩
    · show SS p e below s₁ (mkF m 0 #[vl q0, us] []) _
      refine XS.lloadN X0.here hx rfl (hb hby d39_0) rfl ?_
      refine XS.lconst X0.here hx rfl (hb hby d39_1) ?_
      show SS p e below s₁ (mkF m 2 #[vl q0, us] [(.long (0 : Int64)), (.long q0)]) _
      refine XS.lcmp X0.here hx rfl (hb hby d39_2) rfl ?_
      show SS p e below s₁ (mkF m 3 #[vl q0, us] [(.int (lcmpW q0 (0 : Int64)))]) _
      refine XS.ifYes X0.here hx rfl (pc0 := 3) (pc' := 11) rfl (hb hby d39_3) rfl ((if0 _ _).trans (flt (hc3 : ¬ ((lcmpW q0 (0 : Int64)) < (0 : Int32)))).2.1) (by decide) (by decide) ?_
      refine XS.lloadN X0.here hx rfl (hb hby d39_11) rfl ?_
      show SS p e below s₁ (mkF m 12 #[vl q0, us] [(.long q0)]) _
      exact retOut X0 hx Bd.returns rfl (Or.inr (Or.inl ⟨rfl, rfl, _, rfl⟩)) (hb hby d39_12) hr
    · show Q_rmAbs Z q0 qa h0 n0 _ s₁.heap _
      rw [e0]
      exact ⟨(by rw [← uAb, if_neg hc3]), N0, rfl⟩
theorem ef_42 (m : MethodId) (x0 : Int64) : entryFrame m #[(.long x0)] 2 = mkF m 0 #[vl x0, us] [] := by first | (simp [entryFrame, mkF, argsToLocals, Value.category]; done) | rfl
theorem pn_9 : plainName "com/example/plain_hub/plainhub/HubExceptionTooLargePinLaw" = true := by first | (simp [plainName, overriddenIn]; done) | decide +kernel
theorem d40_0 : decode method_3_code 0 = .ok (.lload_n 0, 1) := by decide +kernel
theorem d40_1 : decode method_3_code 1 = .ok (.ldc2_w 60, 3) := by decide +kernel
theorem d40_4 : decode method_3_code 4 = .ok (.lcmp, 1) := by decide +kernel
theorem d40_5 : decode method_3_code 5 = .ok (.ifCond .ge 5, 3) := by decide +kernel
theorem d40_8 : decode method_3_code 8 = .ok (.iconst 1, 1) := by decide +kernel
theorem d40_9 : decode method_3_code 9 = .ok (.ireturn, 1) := by decide +kernel
theorem d40_10 : decode method_3_code 10 = .ok (.lload_n 0, 1) := by decide +kernel
theorem d40_11 : decode method_3_code 11 = .ok (.ldc2_w 62, 3) := by decide +kernel
theorem d40_14 : decode method_3_code 14 = .ok (.lcmp, 1) := by decide +kernel
theorem d40_15 : decode method_3_code 15 = .ok (.ifCond .ge 5, 3) := by decide +kernel
theorem d40_18 : decode method_3_code 18 = .ok (.iconst 2, 1) := by decide +kernel
theorem d40_19 : decode method_3_code 19 = .ok (.ireturn, 1) := by decide +kernel
theorem d40_20 : decode method_3_code 20 = .ok (.lload_n 0, 1) := by decide +kernel
theorem d40_21 : decode method_3_code 21 = .ok (.ldc2_w 64, 3) := by decide +kernel
theorem d40_24 : decode method_3_code 24 = .ok (.lcmp, 1) := by decide +kernel
theorem d40_25 : decode method_3_code 25 = .ok (.ifCond .ge 5, 3) := by decide +kernel
theorem d40_28 : decode method_3_code 28 = .ok (.iconst 3, 1) := by decide +kernel
theorem d40_29 : decode method_3_code 29 = .ok (.ireturn, 1) := by decide +kernel
theorem d40_30 : decode method_3_code 30 = .ok (.lload_n 0, 1) := by decide +kernel
theorem d40_31 : decode method_3_code 31 = .ok (.ldc2_w 66, 3) := by decide +kernel
theorem d40_34 : decode method_3_code 34 = .ok (.lcmp, 1) := by decide +kernel
theorem d40_35 : decode method_3_code 35 = .ok (.ifCond .ge 5, 3) := by decide +kernel
theorem d40_38 : decode method_3_code 38 = .ok (.iconst 4, 1) := by decide +kernel
theorem d40_39 : decode method_3_code 39 = .ok (.ireturn, 1) := by decide +kernel
theorem d40_40 : decode method_3_code 40 = .ok (.lload_n 0, 1) := by decide +kernel
theorem d40_41 : decode method_3_code 41 = .ok (.ldc2_w 68, 3) := by decide +kernel
theorem d40_44 : decode method_3_code 44 = .ok (.lcmp, 1) := by decide +kernel
theorem d40_45 : decode method_3_code 45 = .ok (.ifCond .ge 5, 3) := by decide +kernel
theorem d40_48 : decode method_3_code 48 = .ok (.iconst 5, 1) := by decide +kernel
theorem d40_49 : decode method_3_code 49 = .ok (.ireturn, 1) := by decide +kernel
theorem d40_50 : decode method_3_code 50 = .ok (.lload_n 0, 1) := by decide +kernel
theorem d40_51 : decode method_3_code 51 = .ok (.ldc2_w 70, 3) := by decide +kernel
theorem d40_54 : decode method_3_code 54 = .ok (.lcmp, 1) := by decide +kernel
theorem d40_55 : decode method_3_code 55 = .ok (.ifCond .ge 6, 3) := by decide +kernel
theorem d40_58 : decode method_3_code 58 = .ok (.bipush 6, 2) := by decide +kernel
theorem d40_60 : decode method_3_code 60 = .ok (.ireturn, 1) := by decide +kernel
theorem d40_61 : decode method_3_code 61 = .ok (.lload_n 0, 1) := by decide +kernel
theorem d40_62 : decode method_3_code 62 = .ok (.ldc2_w 72, 3) := by decide +kernel
theorem d40_65 : decode method_3_code 65 = .ok (.lcmp, 1) := by decide +kernel
theorem d40_66 : decode method_3_code 66 = .ok (.ifCond .ge 6, 3) := by decide +kernel
theorem d40_69 : decode method_3_code 69 = .ok (.bipush 7, 2) := by decide +kernel
theorem d40_71 : decode method_3_code 71 = .ok (.ireturn, 1) := by decide +kernel
theorem d40_72 : decode method_3_code 72 = .ok (.lload_n 0, 1) := by decide +kernel
theorem d40_73 : decode method_3_code 73 = .ok (.ldc2_w 74, 3) := by decide +kernel
theorem d40_76 : decode method_3_code 76 = .ok (.lcmp, 1) := by decide +kernel
theorem d40_77 : decode method_3_code 77 = .ok (.ifCond .ge 6, 3) := by decide +kernel
theorem d40_80 : decode method_3_code 80 = .ok (.bipush 8, 2) := by decide +kernel
theorem d40_82 : decode method_3_code 82 = .ok (.ireturn, 1) := by decide +kernel
theorem d40_83 : decode method_3_code 83 = .ok (.lload_n 0, 1) := by decide +kernel
theorem d40_84 : decode method_3_code 84 = .ok (.ldc2_w 76, 3) := by decide +kernel
theorem d40_87 : decode method_3_code 87 = .ok (.lcmp, 1) := by decide +kernel
theorem d40_88 : decode method_3_code 88 = .ok (.ifCond .ge 6, 3) := by decide +kernel
theorem d40_91 : decode method_3_code 91 = .ok (.bipush 9, 2) := by decide +kernel
theorem d40_93 : decode method_3_code 93 = .ok (.ireturn, 1) := by decide +kernel
theorem d40_94 : decode method_3_code 94 = .ok (.bipush 10, 2) := by decide +kernel
theorem d40_96 : decode method_3_code 96 = .ok (.ireturn, 1) := by decide +kernel
def Q_rmDs (Z : State) (q0 : Int64) (nd : Int32) (h0 : Heap) (n0 : Nat) (v : Option Value) (h : Heap) (L : List Loc) : Prop := (v = some (.int nd) ∧ Fr n0 L ∧ h = h0)
set_option maxRecDepth 65536 in
set_option maxHeartbeats 40000000 in
theorem rmDs (l : Launch) (Z : State) (a0 : Array Value) (hw : ∀ d ∈ tables_1, d.before a0 Z = true) (ws : List Jvm.Cond) (q0 : Int64) (nd : Int32) (h0 : Heap) (n0 : Nat) (Z0 : n0 ≤ h0.size) (uNd : own_nd q0 = nd) :
    MetFree l M39 (head1 (Jvm.Cond.code M39 method_3_code 2 (some .int) :: ws) ({ frames := 0, cells := 0, slots := 0, locals := 0 } : Room)) (fun a U => a = #[(.long q0)] ∧ Z.Warmed39 U.vm ∧ U.heap = h0) (fun _ _ _ _ _ => True) (fun _ U o U' => ∃ v L, o = .returned v ∧ Q_rmDs Z q0 nd h0 n0 v U'.heap L ∧ FrameEnd U o U' L ({ frames := 0, cells := 0, slots := 0, locals := 0 } : Room).cells ({ frames := 0, cells := 0, slots := 0, locals := 0 } : Room).slots) := by
  refine MetFree.of_bodySF (plainFor_of_name pn_9) hisR ?_
  intro p e s m args below meth c s₁ Bd hml0 hP hK
  obtain ⟨rfl, hZ, hh⟩ := hP
  have hx := Bd.exec
  have hby := Bd.bytes
  have hml : c.maxLocals = 2 := hml0
  have hown : s.vm.findClass "com/example/plain_hub/plainhub/HubExceptionTooLargePinLaw" = some m.cls := findClass_of_methodNamed Bd.named
  have hnm := (name_of_methodNamed Bd.named Bd.method).1
  have X0 : Stand p l e ({ frames := 0, cells := 0, slots := 0, locals := 0 } : Room) s m #[(.long q0)] below meth c s₁ [] 0 0 := Stand.of_body Bd
  have e0 : s₁.heap = h0 := by rw [← hh, Bd.state]; rfl
  have N0 := Fr.nil n0
  have pre0 : ∀ t, Steps p.tables e below (s₁.setTop (mkF m 0 #[vl q0, us] [])) t → Steps p.tables e below (s₁.setTop (entryFrame m #[(.long q0)] 2)) t := fun t k => castTop (ef_42 m q0) k
  have sg1 : ∀ target, SS p e below s₁ (mkF m 5 #[vl q0, us] [(.int (lcmpW q0 (10 : Int64)))]) target → SS p e below s₁ (mkF m 0 #[vl q0, us] []) target := by
    intro target kt
    show SS p e below s₁ (mkF m 0 #[vl q0, us] []) _
    refine XS.lloadN X0.here hx rfl (hb hby d40_0) rfl ?_
    show SS p e below s₁ (mkF m 1 #[vl q0, us] [(.long q0)]) _
    refine X0.ldc2Long hx hown (mvT hZ (wd hw 254 rfl)) (g := (mkF m 1 #[vl q0, us] [(.long q0)])) rfl (hb hby d40_1) _ ?_
    show SS p e below s₁ (mkF m 4 #[vl q0, us] [(.long (10 : Int64)), (.long q0)]) _
    refine XS.lcmp X0.here hx rfl (hb hby d40_4) rfl ?_
    exact kt
  by_cases hd0_ : (lcmpW q0 (10 : Int64)) < (0 : Int32)
  · obtain ⟨fs, hr, hrun, hended, hW, hsame⟩ := X0.leave (v := some (vI 1)) (fun h => by rw [Bd.returns] at h; cases h)
    refine ⟨_, _, pre0 _ ?_, hrun, hended, _, _, rfl, ?_, ⟨_, rfl⟩, hW, hsame.mono (by decide) (by decide)⟩
    · refine sg1 _ ?_
      show SS p e below s₁ (mkF m 5 #[vl q0, us] [(.int (lcmpW q0 (10 : Int64)))]) _
      refine XS.ifNo X0.here hx rfl (hb hby d40_5) rfl ((if0 _ _).trans (tlt (hd0_ : (lcmpW q0 (10 : Int64)) < (0 : Int32))).2.1) ?_
      refine XS.iconst X0.here hx rfl (hb hby d40_8) ?_
      exact retI X0 hx Bd.returns (hb hby d40_9) hr
    · show Q_rmDs Z q0 nd h0 n0 _ s₁.heap _
      rw [e0]
      exact ⟨(by rw [← uNd, own_nd, if_pos hd0_]), N0, rfl⟩
  · have sg2 : ∀ target, SS p e below s₁ (mkF m 15 #[vl q0, us] [(.int (lcmpW q0 (100 : Int64)))]) target → SS p e below s₁ (mkF m 5 #[vl q0, us] [(.int (lcmpW q0 (10 : Int64)))]) target := by
      intro target kt
      show SS p e below s₁ (mkF m 5 #[vl q0, us] [(.int (lcmpW q0 (10 : Int64)))]) _
      refine XS.ifYes X0.here hx rfl (pc0 := 5) (pc' := 10) rfl (hb hby d40_5) rfl ((if0 _ _).trans (flt (hd0_ : ¬ ((lcmpW q0 (10 : Int64)) < (0 : Int32)))).2.1) (by decide) (by decide) ?_
      refine XS.lloadN X0.here hx rfl (hb hby d40_10) rfl ?_
      show SS p e below s₁ (mkF m 11 #[vl q0, us] [(.long q0)]) _
      refine X0.ldc2Long hx hown (mvT hZ (wd hw 310 rfl)) (g := (mkF m 11 #[vl q0, us] [(.long q0)])) rfl (hb hby d40_11) _ ?_
      show SS p e below s₁ (mkF m 14 #[vl q0, us] [(.long (100 : Int64)), (.long q0)]) _
      refine XS.lcmp X0.here hx rfl (hb hby d40_14) rfl ?_
      exact kt
    by_cases hd1_ : (lcmpW q0 (100 : Int64)) < (0 : Int32)
    · obtain ⟨fs, hr, hrun, hended, hW, hsame⟩ := X0.leave (v := some (vI 2)) (fun h => by rw [Bd.returns] at h; cases h)
      refine ⟨_, _, pre0 _ ?_, hrun, hended, _, _, rfl, ?_, ⟨_, rfl⟩, hW, hsame.mono (by decide) (by decide)⟩
      · refine sg1 _ ?_
        refine sg2 _ ?_
        show SS p e below s₁ (mkF m 15 #[vl q0, us] [(.int (lcmpW q0 (100 : Int64)))]) _
        refine XS.ifNo X0.here hx rfl (hb hby d40_15) rfl ((if0 _ _).trans (tlt (hd1_ : (lcmpW q0 (100 : Int64)) < (0 : Int32))).2.1) ?_
        refine XS.iconst X0.here hx rfl (hb hby d40_18) ?_
        exact retI X0 hx Bd.returns (hb hby d40_19) hr
      · show Q_rmDs Z q0 nd h0 n0 _ s₁.heap _
        rw [e0]
        exact ⟨(by rw [← uNd, own_nd, if_neg hd0_, if_pos hd1_]), N0, rfl⟩
    · have sg3 : ∀ target, SS p e below s₁ (mkF m 25 #[vl q0, us] [(.int (lcmpW q0 (1000 : Int64)))]) target → SS p e below s₁ (mkF m 15 #[vl q0, us] [(.int (lcmpW q0 (100 : Int64)))]) target := by
        intro target kt
        show SS p e below s₁ (mkF m 15 #[vl q0, us] [(.int (lcmpW q0 (100 : Int64)))]) _
        refine XS.ifYes X0.here hx rfl (pc0 := 15) (pc' := 20) rfl (hb hby d40_15) rfl ((if0 _ _).trans (flt (hd1_ : ¬ ((lcmpW q0 (100 : Int64)) < (0 : Int32)))).2.1) (by decide) (by decide) ?_
        refine XS.lloadN X0.here hx rfl (hb hby d40_20) rfl ?_
        show SS p e below s₁ (mkF m 21 #[vl q0, us] [(.long q0)]) _
        refine X0.ldc2Long hx hown (mvT hZ (wd hw 311 rfl)) (g := (mkF m 21 #[vl q0, us] [(.long q0)])) rfl (hb hby d40_21) _ ?_
        show SS p e below s₁ (mkF m 24 #[vl q0, us] [(.long (1000 : Int64)), (.long q0)]) _
        refine XS.lcmp X0.here hx rfl (hb hby d40_24) rfl ?_
        exact kt
      by_cases hd2_ : (lcmpW q0 (1000 : Int64)) < (0 : Int32)
      · obtain ⟨fs, hr, hrun, hended, hW, hsame⟩ := X0.leave (v := some (vI 3)) (fun h => by rw [Bd.returns] at h; cases h)
        refine ⟨_, _, pre0 _ ?_, hrun, hended, _, _, rfl, ?_, ⟨_, rfl⟩, hW, hsame.mono (by decide) (by decide)⟩
        · refine sg1 _ ?_
          refine sg2 _ ?_
          refine sg3 _ ?_
          show SS p e below s₁ (mkF m 25 #[vl q0, us] [(.int (lcmpW q0 (1000 : Int64)))]) _
          refine XS.ifNo X0.here hx rfl (hb hby d40_25) rfl ((if0 _ _).trans (tlt (hd2_ : (lcmpW q0 (1000 : Int64)) < (0 : Int32))).2.1) ?_
          refine XS.iconst X0.here hx rfl (hb hby d40_28) ?_
          exact retI X0 hx Bd.returns (hb hby d40_29) hr
        · show Q_rmDs Z q0 nd h0 n0 _ s₁.heap _
          rw [e0]
          exact ⟨(by rw [← uNd, own_nd, if_neg hd0_, if_neg hd1_, if_pos hd2_]), N0, rfl⟩
      · have sg4 : ∀ target, SS p e below s₁ (mkF m 35 #[vl q0, us] [(.int (lcmpW q0 (10000 : Int64)))]) target → SS p e below s₁ (mkF m 25 #[vl q0, us] [(.int (lcmpW q0 (1000 : Int64)))]) target := by
          intro target kt
          show SS p e below s₁ (mkF m 25 #[vl q0, us] [(.int (lcmpW q0 (1000 : Int64)))]) _
          refine XS.ifYes X0.here hx rfl (pc0 := 25) (pc' := 30) rfl (hb hby d40_25) rfl ((if0 _ _).trans (flt (hd2_ : ¬ ((lcmpW q0 (1000 : Int64)) < (0 : Int32)))).2.1) (by decide) (by decide) ?_
          refine XS.lloadN X0.here hx rfl (hb hby d40_30) rfl ?_
          show SS p e below s₁ (mkF m 31 #[vl q0, us] [(.long q0)]) _
          refine X0.ldc2Long hx hown (mvT hZ (wd hw 312 rfl)) (g := (mkF m 31 #[vl q0, us] [(.long q0)])) rfl (hb hby d40_31) _ ?_
          show SS p e below s₁ (mkF m 34 #[vl q0, us] [(.long (10000 : Int64)), (.long q0)]) _
          refine XS.lcmp X0.here hx rfl (hb hby d40_34) rfl ?_
          exact kt
        by_cases hd3_ : (lcmpW q0 (10000 : Int64)) < (0 : Int32)
        · obtain ⟨fs, hr, hrun, hended, hW, hsame⟩ := X0.leave (v := some (vI 4)) (fun h => by rw [Bd.returns] at h; cases h)
          refine ⟨_, _, pre0 _ ?_, hrun, hended, _, _, rfl, ?_, ⟨_, rfl⟩, hW, hsame.mono (by decide) (by decide)⟩
          · refine sg1 _ ?_
            refine sg2 _ ?_
            refine sg3 _ ?_
            refine sg4 _ ?_
            show SS p e below s₁ (mkF m 35 #[vl q0, us] [(.int (lcmpW q0 (10000 : Int64)))]) _
            refine XS.ifNo X0.here hx rfl (hb hby d40_35) rfl ((if0 _ _).trans (tlt (hd3_ : (lcmpW q0 (10000 : Int64)) < (0 : Int32))).2.1) ?_
            refine XS.iconst X0.here hx rfl (hb hby d40_38) ?_
            exact retI X0 hx Bd.returns (hb hby d40_39) hr
          · show Q_rmDs Z q0 nd h0 n0 _ s₁.heap _
            rw [e0]
            exact ⟨(by rw [← uNd, own_nd, if_neg hd0_, if_neg hd1_, if_neg hd2_, if_pos hd3_]), N0, rfl⟩
        · have sg5 : ∀ target, SS p e below s₁ (mkF m 45 #[vl q0, us] [(.int (lcmpW q0 (100000 : Int64)))]) target → SS p e below s₁ (mkF m 35 #[vl q0, us] [(.int (lcmpW q0 (10000 : Int64)))]) target := by
            intro target kt
            show SS p e below s₁ (mkF m 35 #[vl q0, us] [(.int (lcmpW q0 (10000 : Int64)))]) _
            refine XS.ifYes X0.here hx rfl (pc0 := 35) (pc' := 40) rfl (hb hby d40_35) rfl ((if0 _ _).trans (flt (hd3_ : ¬ ((lcmpW q0 (10000 : Int64)) < (0 : Int32)))).2.1) (by decide) (by decide) ?_
            refine XS.lloadN X0.here hx rfl (hb hby d40_40) rfl ?_
            show SS p e below s₁ (mkF m 41 #[vl q0, us] [(.long q0)]) _
            refine X0.ldc2Long hx hown (mvT hZ (wd hw 313 rfl)) (g := (mkF m 41 #[vl q0, us] [(.long q0)])) rfl (hb hby d40_41) _ ?_
            show SS p e below s₁ (mkF m 44 #[vl q0, us] [(.long (100000 : Int64)), (.long q0)]) _
            refine XS.lcmp X0.here hx rfl (hb hby d40_44) rfl ?_
            exact kt
          by_cases hd4_ : (lcmpW q0 (100000 : Int64)) < (0 : Int32)
          · obtain ⟨fs, hr, hrun, hended, hW, hsame⟩ := X0.leave (v := some (vI 5)) (fun h => by rw [Bd.returns] at h; cases h)
            refine ⟨_, _, pre0 _ ?_, hrun, hended, _, _, rfl, ?_, ⟨_, rfl⟩, hW, hsame.mono (by decide) (by decide)⟩
            · refine sg1 _ ?_
              refine sg2 _ ?_
              refine sg3 _ ?_
              refine sg4 _ ?_
              refine sg5 _ ?_
              show SS p e below s₁ (mkF m 45 #[vl q0, us] [(.int (lcmpW q0 (100000 : Int64)))]) _
              refine XS.ifNo X0.here hx rfl (hb hby d40_45) rfl ((if0 _ _).trans (tlt (hd4_ : (lcmpW q0 (100000 : Int64)) < (0 : Int32))).2.1) ?_
              refine XS.iconst X0.here hx rfl (hb hby d40_48) ?_
              exact retI X0 hx Bd.returns (hb hby d40_49) hr
            · show Q_rmDs Z q0 nd h0 n0 _ s₁.heap _
              rw [e0]
              exact ⟨(by rw [← uNd, own_nd, if_neg hd0_, if_neg hd1_, if_neg hd2_, if_neg hd3_, if_pos hd4_]), N0, rfl⟩
          · have sg6 : ∀ target, SS p e below s₁ (mkF m 55 #[vl q0, us] [(.int (lcmpW q0 (1000000 : Int64)))]) target → SS p e below s₁ (mkF m 45 #[vl q0, us] [(.int (lcmpW q0 (100000 : Int64)))]) target := by
              intro target kt
              show SS p e below s₁ (mkF m 45 #[vl q0, us] [(.int (lcmpW q0 (100000 : Int64)))]) _
              refine XS.ifYes X0.here hx rfl (pc0 := 45) (pc' := 50) rfl (hb hby d40_45) rfl ((if0 _ _).trans (flt (hd4_ : ¬ ((lcmpW q0 (100000 : Int64)) < (0 : Int32)))).2.1) (by decide) (by decide) ?_
              refine XS.lloadN X0.here hx rfl (hb hby d40_50) rfl ?_
              show SS p e below s₁ (mkF m 51 #[vl q0, us] [(.long q0)]) _
              refine X0.ldc2Long hx hown (mvT hZ (wd hw 314 rfl)) (g := (mkF m 51 #[vl q0, us] [(.long q0)])) rfl (hb hby d40_51) _ ?_
              show SS p e below s₁ (mkF m 54 #[vl q0, us] [(.long (1000000 : Int64)), (.long q0)]) _
              refine XS.lcmp X0.here hx rfl (hb hby d40_54) rfl ?_
              exact kt
            by_cases hd5_ : (lcmpW q0 (1000000 : Int64)) < (0 : Int32)
            · obtain ⟨fs, hr, hrun, hended, hW, hsame⟩ := X0.leave (v := some (vI 6)) (fun h => by rw [Bd.returns] at h; cases h)
              refine ⟨_, _, pre0 _ ?_, hrun, hended, _, _, rfl, ?_, ⟨_, rfl⟩, hW, hsame.mono (by decide) (by decide)⟩
              · refine sg1 _ ?_
                refine sg2 _ ?_
                refine sg3 _ ?_
                refine sg4 _ ?_
                refine sg5 _ ?_
                refine sg6 _ ?_
                show SS p e below s₁ (mkF m 55 #[vl q0, us] [(.int (lcmpW q0 (1000000 : Int64)))]) _
                refine XS.ifNo X0.here hx rfl (hb hby d40_55) rfl ((if0 _ _).trans (tlt (hd5_ : (lcmpW q0 (1000000 : Int64)) < (0 : Int32))).2.1) ?_
                refine XS.bipush X0.here hx rfl (hb hby d40_58) ?_
                exact retI X0 hx Bd.returns (hb hby d40_60) hr
              · show Q_rmDs Z q0 nd h0 n0 _ s₁.heap _
                rw [e0]
                exact ⟨(by rw [← uNd, own_nd, if_neg hd0_, if_neg hd1_, if_neg hd2_, if_neg hd3_, if_neg hd4_, if_pos hd5_]), N0, rfl⟩
            · have sg7 : ∀ target, SS p e below s₁ (mkF m 66 #[vl q0, us] [(.int (lcmpW q0 (10000000 : Int64)))]) target → SS p e below s₁ (mkF m 55 #[vl q0, us] [(.int (lcmpW q0 (1000000 : Int64)))]) target := by
                intro target kt
                show SS p e below s₁ (mkF m 55 #[vl q0, us] [(.int (lcmpW q0 (1000000 : Int64)))]) _
                refine XS.ifYes X0.here hx rfl (pc0 := 55) (pc' := 61) rfl (hb hby d40_55) rfl ((if0 _ _).trans (flt (hd5_ : ¬ ((lcmpW q0 (1000000 : Int64)) < (0 : Int32)))).2.1) (by decide) (by decide) ?_
                refine XS.lloadN X0.here hx rfl (hb hby d40_61) rfl ?_
                show SS p e below s₁ (mkF m 62 #[vl q0, us] [(.long q0)]) _
                refine X0.ldc2Long hx hown (mvT hZ (wd hw 315 rfl)) (g := (mkF m 62 #[vl q0, us] [(.long q0)])) rfl (hb hby d40_62) _ ?_
                show SS p e below s₁ (mkF m 65 #[vl q0, us] [(.long (10000000 : Int64)), (.long q0)]) _
                refine XS.lcmp X0.here hx rfl (hb hby d40_65) rfl ?_
                exact kt
              by_cases hd6_ : (lcmpW q0 (10000000 : Int64)) < (0 : Int32)
              · obtain ⟨fs, hr, hrun, hended, hW, hsame⟩ := X0.leave (v := some (vI 7)) (fun h => by rw [Bd.returns] at h; cases h)
                refine ⟨_, _, pre0 _ ?_, hrun, hended, _, _, rfl, ?_, ⟨_, rfl⟩, hW, hsame.mono (by decide) (by decide)⟩
                · refine sg1 _ ?_
                  refine sg2 _ ?_
                  refine sg3 _ ?_
                  refine sg4 _ ?_
                  refine sg5 _ ?_
                  refine sg6 _ ?_
                  refine sg7 _ ?_
                  show SS p e below s₁ (mkF m 66 #[vl q0, us] [(.int (lcmpW q0 (10000000 : Int64)))]) _
                  refine XS.ifNo X0.here hx rfl (hb hby d40_66) rfl ((if0 _ _).trans (tlt (hd6_ : (lcmpW q0 (10000000 : Int64)) < (0 : Int32))).2.1) ?_
                  refine XS.bipush X0.here hx rfl (hb hby d40_69) ?_
                  exact retI X0 hx Bd.returns (hb hby d40_71) hr
                · show Q_rmDs Z q0 nd h0 n0 _ s₁.heap _
                  rw [e0]
                  exact ⟨(by rw [← uNd, own_nd, if_neg hd0_, if_neg hd1_, if_neg hd2_, if_neg hd3_, if_neg hd4_, if_neg hd5_, if_pos hd6_]), N0, rfl⟩
              · have sg8 : ∀ target, SS p e below s₁ (mkF m 77 #[vl q0, us] [(.int (lcmpW q0 (100000000 : Int64)))]) target → SS p e below s₁ (mkF m 66 #[vl q0, us] [(.int (lcmpW q0 (10000000 : Int64)))]) target := by
                  intro target kt
                  show SS p e below s₁ (mkF m 66 #[vl q0, us] [(.int (lcmpW q0 (10000000 : Int64)))]) _
                  refine XS.ifYes X0.here hx rfl (pc0 := 66) (pc' := 72) rfl (hb hby d40_66) rfl ((if0 _ _).trans (flt (hd6_ : ¬ ((lcmpW q0 (10000000 : Int64)) < (0 : Int32)))).2.1) (by decide) (by decide) ?_
                  refine XS.lloadN X0.here hx rfl (hb hby d40_72) rfl ?_
                  show SS p e below s₁ (mkF m 73 #[vl q0, us] [(.long q0)]) _
                  refine X0.ldc2Long hx hown (mvT hZ (wd hw 316 rfl)) (g := (mkF m 73 #[vl q0, us] [(.long q0)])) rfl (hb hby d40_73) _ ?_
                  show SS p e below s₁ (mkF m 76 #[vl q0, us] [(.long (100000000 : Int64)), (.long q0)]) _
                  refine XS.lcmp X0.here hx rfl (hb hby d40_76) rfl ?_
                  exact kt
                by_cases hd7_ : (lcmpW q0 (100000000 : Int64)) < (0 : Int32)
                · obtain ⟨fs, hr, hrun, hended, hW, hsame⟩ := X0.leave (v := some (vI 8)) (fun h => by rw [Bd.returns] at h; cases h)
                  refine ⟨_, _, pre0 _ ?_, hrun, hended, _, _, rfl, ?_, ⟨_, rfl⟩, hW, hsame.mono (by decide) (by decide)⟩
                  · refine sg1 _ ?_
                    refine sg2 _ ?_
                    refine sg3 _ ?_
                    refine sg4 _ ?_
                    refine sg5 _ ?_
                    refine sg6 _ ?_
                    refine sg7 _ ?_
                    refine sg8 _ ?_
                    show SS p e below s₁ (mkF m 77 #[vl q0, us] [(.int (lcmpW q0 (100000000 : Int64)))]) _
                    refine XS.ifNo X0.here hx rfl (hb hby d40_77) rfl ((if0 _ _).trans (tlt (hd7_ : (lcmpW q0 (100000000 : Int64)) < (0 : Int32))).2.1) ?_
                    refine XS.bipush X0.here hx rfl (hb hby d40_80) ?_
                    exact retI X0 hx Bd.returns (hb hby d40_82) hr
                  · show Q_rmDs Z q0 nd h0 n0 _ s₁.heap _
                    rw [e0]
                    exact ⟨(by rw [← uNd, own_nd, if_neg hd0_, if_neg hd1_, if_neg hd2_, if_neg hd3_, if_neg hd4_, if_neg hd5_, if_neg hd6_, if_pos hd7_]), N0, rfl⟩
                · have sg9 : ∀ target, SS p e below s₁ (mkF m 88 #[vl q0, us] [(.int (lcmpW q0 (1000000000 : Int64)))]) target → SS p e below s₁ (mkF m 77 #[vl q0, us] [(.int (lcmpW q0 (100000000 : Int64)))]) target := by
                    intro target kt
                    show SS p e below s₁ (mkF m 77 #[vl q0, us] [(.int (lcmpW q0 (100000000 : Int64)))]) _
                    refine XS.ifYes X0.here hx rfl (pc0 := 77) (pc' := 83) rfl (hb hby d40_77) rfl ((if0 _ _).trans (flt (hd7_ : ¬ ((lcmpW q0 (100000000 : Int64)) < (0 : Int32)))).2.1) (by decide) (by decide) ?_
                    refine XS.lloadN X0.here hx rfl (hb hby d40_83) rfl ?_
                    show SS p e below s₁ (mkF m 84 #[vl q0, us] [(.long q0)]) _
                    refine X0.ldc2Long hx hown (mvT hZ (wd hw 317 rfl)) (g := (mkF m 84 #[vl q0, us] [(.long q0)])) rfl (hb hby d40_84) _ ?_
                    show SS p e below s₁ (mkF m 87 #[vl q0, us] [(.long (1000000000 : Int64)), (.long q0)]) _
                    refine XS.lcmp X0.here hx rfl (hb hby d40_87) rfl ?_
                    exact kt
                  by_cases hd8_ : (lcmpW q0 (1000000000 : Int64)) < (0 : Int32)
                  · obtain ⟨fs, hr, hrun, hended, hW, hsame⟩ := X0.leave (v := some (vI 9)) (fun h => by rw [Bd.returns] at h; cases h)
                    refine ⟨_, _, pre0 _ ?_, hrun, hended, _, _, rfl, ?_, ⟨_, rfl⟩, hW, hsame.mono (by decide) (by decide)⟩
                    · refine sg1 _ ?_
                      refine sg2 _ ?_
                      refine sg3 _ ?_
                      refine sg4 _ ?_
                      refine sg5 _ ?_
                      refine sg6 _ ?_
                      refine sg7 _ ?_
                      refine sg8 _ ?_
                      refine sg9 _ ?_
                      show SS p e below s₁ (mkF m 88 #[vl q0, us] [(.int (lcmpW q0 (1000000000 : Int64)))]) _
                      refine XS.ifNo X0.here hx rfl (hb hby d40_88) rfl ((if0 _ _).trans (tlt (hd8_ : (lcmpW q0 (1000000000 : Int64)) < (0 : Int32))).2.1) ?_
                      refine XS.bipush X0.here hx rfl (hb hby d40_91) ?_
                      exact retI X0 hx Bd.returns (hb hby d40_93) hr
                    · show Q_rmDs Z q0 nd h0 n0 _ s₁.heap _
                      rw [e0]
                      exact ⟨(by rw [← uNd, own_nd, if_neg hd0_, if_neg hd1_, if_neg hd2_, if_neg hd3_, if_neg hd4_, if_neg hd5_, if_neg hd6_, if_neg hd7_, if_pos hd8_]), N0, rfl⟩
                  · obtain ⟨fs, hr, hrun, hended, hW, hsame⟩ := X0.leave (v := some (vI 10)) (fun h => by rw [Bd.returns] at h; cases h)
                    refine ⟨_, _, pre0 _ ?_, hrun, hended, _, _, rfl, ?_, ⟨_, rfl⟩, hW, hsame.mono (by decide) (by decide)⟩
                    · refine sg1 _ ?_
                      refine sg2 _ ?_
                      refine sg3 _ ?_
                      refine sg4 _ ?_
                      refine sg5 _ ?_
                      refine sg6 _ ?_
                      refine sg7 _ ?_
                      refine sg8 _ ?_
                      refine sg9 _ ?_
                      show SS p e below s₁ (mkF m 88 #[vl q0, us] [(.int (lcmpW q0 (1000000000 : Int64)))]) _
                      refine XS.ifYes X0.here hx rfl (pc0 := 88) (pc' := 94) rfl (hb hby d40_88) rfl ((if0 _ _).trans (flt (hd8_ : ¬ ((lcmpW q0 (1000000000 : Int64)) < (0 : Int32)))).2.1) (by decide) (by decide) ?_
                      refine XS.bipush X0.here hx rfl (hb hby d40_94) ?_
                      exact retI X0 hx Bd.returns (hb hby d40_96) hr
                    · show Q_rmDs Z q0 nd h0 n0 _ s₁.heap _
                      rw [e0]
                      exact ⟨(by rw [← uNd, own_nd, if_neg hd0_, if_neg hd1_, if_neg hd2_, if_neg hd3_, if_neg hd4_, if_neg hd5_, if_neg hd6_, if_neg hd7_, if_neg hd8_]), N0, rfl⟩
theorem ef_43 (m : MethodId) (x0 : Addr) (x1 : Int32) (x2 : Int64) (x3 : Int32) (x4 : Int32) (x5 : Int64) : entryFrame m #[(.ref x0), (.int x1), (.long x2), (.int x3), (.int x4), (.long x5)] 9 = mkF m 0 #[vr x0, vi x1, vl x2, us, vi x3, vi x4, vl x5, us, uu] [] := by first | (simp [entryFrame, mkF, argsToLocals, Value.category]; done) | rfl
theorem d53_0 : decode method_4_code 0 = .ok (.iload 5, 2) := by decide +kernel
theorem d53_2 : decode method_4_code 2 = .ok (.iload 4, 2) := by decide +kernel
theorem d53_4 : decode method_4_code 4 = .ok (.if_icmp .lt 5, 3) := by decide +kernel
theorem d53_9 : decode method_4_code 9 = .ok (.bipush 48, 2) := by decide +kernel
theorem d53_11 : decode method_4_code 11 = .ok (.lload_n 2, 1) := by decide +kernel
theorem d53_12 : decode method_4_code 12 = .ok (.lload 6, 2) := by decide +kernel
theorem d53_14 : decode method_4_code 14 = .ok (.ldiv, 1) := by decide +kernel
theorem d53_15 : decode method_4_code 15 = .ok (.ldc2_w 60, 3) := by decide +kernel
theorem d53_18 : decode method_4_code 18 = .ok (.lrem, 1) := by decide +kernel
theorem d53_19 : decode method_4_code 19 = .ok (.l2i, 1) := by decide +kernel
theorem d53_20 : decode method_4_code 20 = .ok (.iadd, 1) := by decide +kernel
theorem d53_21 : decode method_4_code 21 = .ok (.i2c, 1) := by decide +kernel
theorem d53_22 : decode method_4_code 22 = .ok (.istore 8, 2) := by decide +kernel
theorem d53_24 : decode method_4_code 24 = .ok (.aload_n 0, 1) := by decide +kernel
theorem d53_25 : decode method_4_code 25 = .ok (.iload_n 1, 1) := by decide +kernel
theorem d53_26 : decode method_4_code 26 = .ok (.bipush 7, 2) := by decide +kernel
theorem d53_28 : decode method_4_code 28 = .ok (.isub, 1) := by decide +kernel
theorem d53_29 : decode method_4_code 29 = .ok (.iload 5, 2) := by decide +kernel
theorem d53_31 : decode method_4_code 31 = .ok (.isub, 1) := by decide +kernel
theorem d53_32 : decode method_4_code 32 = .ok (.invokevirtual 41, 3) := by decide +kernel
theorem d53_35 : decode method_4_code 35 = .ok (.iload 8, 2) := by decide +kernel
theorem d53_37 : decode method_4_code 37 = .ok (.if_icmp .ne 7, 3) := by decide +kernel
theorem d53_40 : decode method_4_code 40 = .ok (.iconst 1, 1) := by decide +kernel
theorem d53_41 : decode method_4_code 41 = .ok (.goto 4, 3) := by decide +kernel
theorem d53_45 : decode method_4_code 45 = .ok (.ireturn, 1) := by decide +kernel
theorem d53_7 : decode method_4_code 7 = .ok (.iconst 1, 1) := by decide +kernel
theorem d53_8 : decode method_4_code 8 = .ok (.ireturn, 1) := by decide +kernel
def Q_rmDg (Z : State) (r0 : Addr) (p1 : Int32) (q2 : Int64) (p3 : Int32) (p4 : Int32) (q5 : Int64) (zc : Int32) (fm : Value) (N : Nat) (sg : Nat) (d : Nat) (rt : Addr) (kt : ClassId) (ii : Nat) (cc : Int32) (h0 : Heap) (n0 : Nat) (v : Option Value) (h : Heap) (L : List Loc) : Prop := (v = some (vI 1) ∧ Fr n0 L ∧ h = h0)
set_option maxRecDepth 65536 in
set_option maxHeartbeats 40000000 in
theorem rmDg (l : Launch) (Z : State) (a0 : Array Value) (hw : ∀ d ∈ tables_1, d.before a0 Z = true) (ws : List Jvm.Cond) (r0 : Addr) (p1 : Int32) (q2 : Int64) (p3 : Int32) (p4 : Int32) (q5 : Int64) (zc : Int32) (fm : Value) (N : Nat) (sg : Nat) (d : Nat) (rt : Addr) (kt : ClassId) (ii : Nat) (cc : Int32) (h0 : Heap) (n0 : Nat) (Z0 : n0 ≤ h0.size) (uO : Old Z n0 h0) (uS : Sta Z Z.heap "java/lang/String" "COMPACT_STRINGS" "Z" (.int zc)) (uP : ¬ zc = 0) (uF : Sta Z Z.heap "jdk/internal/util/Preconditions" "SIOOBE_FORMATTER" "Ljava/util/function/BiFunction;" fm) (uR_ : fm.isRef = true) (uLe : (own_cs N sg d).length ≤ 4000) (uEs : Exa Z h0 r0 "java/lang/String") (usc : Fld Z h0 r0 "java/lang/String" "coder" "B" z0) (usv : Fld Z h0 r0 "java/lang/String" "value" "[B" (.ref rt)) (usV : Arv Z h0 rt kt .byte (Int32.ofNat (own_cs N sg d).length) (((own_cs N sg d).map (fun c => c.toInt8.toInt32)).map Value.int) z0) (uz : q5 ≠ 0) (uc_ : own_dch q2 q5 = cc) (uj : p4 < p3 → ((p1 - (7 : Int32)) - p4) = Int32.ofNat ii) (ul : p4 < p3 → ii < (own_cs N sg d).length) (uv : p4 < p3 → (own_cs N sg d).getD ii 0 = cc) :
    MetFree l M40 (head1 (Jvm.Cond.code M40 method_4_code 9 (some .boolean) :: ws) ({ frames := 4, cells := 0, slots := 0, locals := 53 } : Room)) (fun a U => a = #[(.ref r0), (.int p1), (.long q2), (.int p3), (.int p4), (.long q5)] ∧ Z.Warmed39 U.vm ∧ U.heap = h0) (fun _ _ _ _ _ => True) (fun _ U o U' => ∃ v L, o = .returned v ∧ Q_rmDg Z r0 p1 q2 p3 p4 q5 zc fm N sg d rt kt ii cc h0 n0 v U'.heap L ∧ FrameEnd U o U' L ({ frames := 4, cells := 0, slots := 0, locals := 53 } : Room).cells ({ frames := 4, cells := 0, slots := 0, locals := 53 } : Room).slots) := by
  refine MetFree.of_bodySF (plainFor_of_name pn_9) hisR ?_
  intro p e s m args below meth c s₁ Bd hml0 hP hK
  obtain ⟨rfl, hZ, hh⟩ := hP
  have hx := Bd.exec
  have hby := Bd.bytes
  have hml : c.maxLocals = 9 := hml0
  have hown : s.vm.findClass "com/example/plain_hub/plainhub/HubExceptionTooLargePinLaw" = some m.cls := findClass_of_methodNamed Bd.named
  have hnm := (name_of_methodNamed Bd.named Bd.method).1
  have X0 : Stand p l e ({ frames := 4, cells := 0, slots := 0, locals := 53 } : Room) s m #[(.ref r0), (.int p1), (.long q2), (.int p3), (.int p4), (.long q5)] below meth c s₁ [] 0 0 := Stand.of_body Bd
  have e0 : s₁.heap = h0 := by rw [← hh, Bd.state]; rfl
  have N0 := Fr.nil n0
  have pre0 : ∀ t, Steps p.tables e below (s₁.setTop (mkF m 0 #[vr r0, vi p1, vl q2, us, vi p3, vi p4, vl q5, us, uu] [])) t → Steps p.tables e below (s₁.setTop (entryFrame m #[(.ref r0), (.int p1), (.long q2), (.int p3), (.int p4), (.long q5)] 9)) t := fun t k => castTop (ef_43 m r0 p1 q2 p3 p4 q5) k
  by_cases hlt : p4 < p3
  · obtain ⟨T1, X1, e1, st1⟩ := own_chAt X0 hx hZ hown hw e0 uEs usv usc usV (own_csb N sg d) uLe (uS.ext uO.2) uP (uF.ext uO.2) uR_ (i := ii) (ul hlt) (j := ((p1 - (7 : Int32)) - p4)) (uj hlt) (g := (mkF m 32 #[vr r0, vi p1, vl q2, us, vi p3, vi p4, vl q5, us, vi cc] [(.int ((p1 - (7 : Int32)) - p4)), (.ref r0)])) rfl (by rw [hml]; rfl) (rest := []) rfl (hb hby d53_32) (by decide) (by show 2 * 0 + 0 + 53 ≤ _; decide) (by decide) (by decide)
    obtain ⟨fs, hr, hrun, hended, hW, hsame⟩ := X1.leave (v := some (.int (nar .boolean (1 : Int32)))) (fun h => by rw [Bd.returns] at h; cases h)
    refine ⟨_, _, pre0 _ ?_, hrun, hended, _, _, rfl, ?_, ⟨_, rfl⟩, hW, hsame.mono (by decide) (by decide)⟩
    · show SS p e below s₁ (mkF m 0 #[vr r0, vi p1, vl q2, us, vi p3, vi p4, vl q5, us, uu] []) _
      refine XS.iload X0.here hx rfl (hb hby d53_0) rfl ?_
      refine XS.iload X0.here hx rfl (hb hby d53_2) rfl ?_
      show SS p e below s₁ (mkF m 4 #[vr r0, vi p1, vl q2, us, vi p3, vi p4, vl q5, us, uu] [(.int p3), (.int p4)]) _
      refine XS.icmpYes X0.here hx rfl (pc0 := 4) (pc' := 9) rfl (hb hby d53_4) rfl (tlt (hlt : p4 < p3)).1 (by decide) (by decide) ?_
      refine XS.bipush X0.here hx rfl (hb hby d53_9) ?_
      refine XS.lloadN X0.here hx rfl (hb hby d53_11) rfl ?_
      refine XS.lload X0.here hx rfl (hb hby d53_12) rfl ?_
      show SS p e below s₁ (mkF m 14 #[vr r0, vi p1, vl q2, us, vi p3, vi p4, vl q5, us, uu] [(.long q5), (.long q2), (vI 48)]) _
      refine XS.ldiv X0.here hx rfl (hb hby d53_14) rfl uz ?_
      show SS p e below s₁ (mkF m 15 #[vr r0, vi p1, vl q2, us, vi p3, vi p4, vl q5, us, uu] [(.long (q2 / q5)), (vI 48)]) _
      refine X0.ldc2Long hx hown (mvT hZ (wd hw 254 rfl)) (g := (mkF m 15 #[vr r0, vi p1, vl q2, us, vi p3, vi p4, vl q5, us, uu] [(.long (q2 / q5)), (vI 48)])) rfl (hb hby d53_15) _ ?_
      show SS p e below s₁ (mkF m 18 #[vr r0, vi p1, vl q2, us, vi p3, vi p4, vl q5, us, uu] [(.long (10 : Int64)), (.long (q2 / q5)), (vI 48)]) _
      refine XS.lrem X0.here hx rfl (hb hby d53_18) rfl (by decide) ?_
      show SS p e below s₁ (mkF m 19 #[vr r0, vi p1, vl q2, us, vi p3, vi p4, vl q5, us, uu] [(.long ((q2 / q5) - (q2 / q5) / (10 : Int64) * (10 : Int64))), (vI 48)]) _
      refine XS.l2i X0.here hx rfl (hb hby d53_19) rfl ?_
      refine XS.iadd X0.here hx rfl (hb hby d53_20) rfl ?_
      show SS p e below s₁ (mkF m 21 #[vr r0, vi p1, vl q2, us, vi p3, vi p4, vl q5, us, uu] [(.int ((48 : Int32) + (((q2 / q5) - (q2 / q5) / (10 : Int64) * (10 : Int64)).toInt32)))]) _
      refine XS.i2c X0.here hx rfl (hb hby d53_21) rfl ?_
      show SS p e below s₁ (mkF m 22 #[vr r0, vi p1, vl q2, us, vi p3, vi p4, vl q5, us, uu] [(.int (((48 : Int32) + (((q2 / q5) - (q2 / q5) / (10 : Int64) * (10 : Int64)).toInt32)).toUInt32.toUInt16.toUInt32.toInt32))]) _
      rw [(show (((48 : Int32) + (((q2 / q5) - (q2 / q5) / (10 : Int64) * (10 : Int64)).toInt32)).toUInt32.toUInt16.toUInt32.toInt32) = cc from uc_)]
      refine XS.istore X0.here hx rfl (hb hby d53_22) rfl (l' := #[vr r0, vi p1, vl q2, us, vi p3, vi p4, vl q5, us, vi cc]) rfl ?_
      refine XS.aloadN X0.here hx rfl (hb hby d53_24) rfl rfl ?_
      refine XS.iloadN X0.here hx rfl (hb hby d53_25) rfl ?_
      refine XS.bipush X0.here hx rfl (hb hby d53_26) ?_
      refine XS.isub X0.here hx rfl (hb hby d53_28) rfl ?_
      refine XS.iload X0.here hx rfl (hb hby d53_29) rfl ?_
      refine XS.isub X0.here hx rfl (hb hby d53_31) rfl ?_
      show SS p e below s₁ (mkF m 32 #[vr r0, vi p1, vl q2, us, vi p3, vi p4, vl q5, us, vi cc] [(.int ((p1 - (7 : Int32)) - p4)), (.ref r0)]) _
      refine st1 _ ?_
      refine XS.iload X1.here hx rfl (hb hby d53_35) rfl ?_
      show SS p e below T1 (mkF m 37 #[vr r0, vi p1, vl q2, us, vi p3, vi p4, vl q5, us, vi cc] [(.int cc), (.int ((own_cs N sg d).getD ii 0))]) _
      refine XS.icmpNo X1.here hx rfl (hb hby d53_37) rfl (teq ((uv hlt) : ((own_cs N sg d).getD ii 0) = cc)).2 ?_
      refine XS.iconst X1.here hx rfl (hb hby d53_40) ?_
      refine XS.goto X1.here hx rfl (pc0 := 41) (pc' := 45) rfl (hb hby d53_41) (by decide) (by decide) ?_
      exact retN X1 hx (t := .boolean) Bd.returns (by simp) (hb hby d53_45) hr
    · show Q_rmDg Z r0 p1 q2 p3 p4 q5 zc fm N sg d rt kt ii cc h0 n0 _ T1.heap _
      rw [e1]
      exact ⟨(congrArg (fun z => some (Value.int z)) own_nz1), N0, rfl⟩
  · obtain ⟨fs, hr, hrun, hended, hW, hsame⟩ := X0.leave (v := some (.int (nar .boolean (1 : Int32)))) (fun h => by rw [Bd.returns] at h; cases h)
    refine ⟨_, _, pre0 _ ?_, hrun, hended, _, _, rfl, ?_, ⟨_, rfl⟩, hW, hsame.mono (by decide) (by decide)⟩
    · show SS p e below s₁ (mkF m 0 #[vr r0, vi p1, vl q2, us, vi p3, vi p4, vl q5, us, uu] []) _
      refine XS.iload X0.here hx rfl (hb hby d53_0) rfl ?_
      refine XS.iload X0.here hx rfl (hb hby d53_2) rfl ?_
      show SS p e below s₁ (mkF m 4 #[vr r0, vi p1, vl q2, us, vi p3, vi p4, vl q5, us, uu] [(.int p3), (.int p4)]) _
      refine XS.icmpNo X0.here hx rfl (hb hby d53_4) rfl (flt (hlt : ¬ (p4 < p3))).1 ?_
      refine XS.iconst X0.here hx rfl (hb hby d53_7) ?_
      exact retN X0 hx (t := .boolean) Bd.returns (by simp) (hb hby d53_8) hr
    · show Q_rmDg Z r0 p1 q2 p3 p4 q5 zc fm N sg d rt kt ii cc h0 n0 _ s₁.heap _
      rw [e0]
      exact ⟨(congrArg (fun z => some (Value.int z)) own_nz1), N0, rfl⟩
theorem ef_44 (m : MethodId) (x0 : Int32) : entryFrame m #[(.int x0)] maxLocals = mkF m 0 #[vi x0, uu, uu, uu, uu, uu, uu, uu, uu, uu] [] := by first | (simp [entryFrame, mkF, argsToLocals, Value.category, maxLocals]; done) | rfl
theorem pd_25 : parseMethodDescriptor "(I)Lcom/example/plain_hub/plainhub/HubException;" = some ⟨[.int], some (.object "com/example/plain_hub/plainhub/HubException")⟩ := by decide +kernel
theorem pd_26 : parseMethodDescriptor "(J)J" = some ⟨[.long], some .long⟩ := by decide +kernel
theorem pd_27 : parseMethodDescriptor "(J)I" = some ⟨[.long], some .int⟩ := by decide +kernel
theorem own_w_words : ∀ d ∈ StrChars.Road.words, d ∈ tables_1 := by decide +kernel
theorem pd_28 : parseMethodDescriptor "([C)V" = some ⟨[(.array .char)], none⟩ := by decide +kernel
theorem own_w_wordsEq : ∀ d ∈ StrChars.Road.wordsEq, d ∈ tables_1 := by decide +kernel
theorem pd_29 : parseMethodDescriptor "(Ljava/lang/Object;)Z" = some ⟨[(.object "java/lang/Object")], some .boolean⟩ := by decide +kernel
theorem pd_30 : parseMethodDescriptor "(Ljava/lang/String;IJIIJ)Z" = some ⟨[(.object "java/lang/String"), .int, .long, .int, .int, .long], some .boolean⟩ := by decide +kernel
def Q_rm0 (Z : State) (p0 : Int32) (zc : Int32) (fm : Value) (vu : Value) (vq : Value) (dg1 : Addr) (dg2 : Addr) (kd1 : ClassId) (kd2 : ClassId) (N : Nat) (sg : Nat) (d : Nat) (zs : Int32) (n1 : Int32) (n2 : Int32) (qa : Int64) (nd : Int32) (ng : Int32) (vT : Int32) (h0 : Heap) (n0 : Nat) (v : Option Value) (h : Heap) (L : List Loc) : Prop := (v = some (.int 1) ∧ Fr n0 L)
set_option maxRecDepth 65536 in
set_option maxHeartbeats 40000000 in
theorem rm0 (l : Launch) (Z : State) (a0 : Array Value) (hw : ∀ d ∈ tables_1, d.before a0 Z = true) (ws : List Jvm.Cond) (p0 : Int32) (zc : Int32) (fm : Value) (vu : Value) (vq : Value) (dg1 : Addr) (dg2 : Addr) (kd1 : ClassId) (kd2 : ClassId) (N : Nat) (sg : Nat) (d : Nat) (zs : Int32) (n1 : Int32) (n2 : Int32) (qa : Int64) (nd : Int32) (ng : Int32) (vT : Int32) (h0 : Heap) (n0 : Nat) (Z0 : n0 ≤ h0.size) (uO : Old Z n0 h0) (uS : Sta Z Z.heap "java/lang/String" "COMPACT_STRINGS" "Z" (.int zc)) (uP : ¬ zc = 0) (uF : Sta Z Z.heap "jdk/internal/util/Preconditions" "SIOOBE_FORMATTER" "Ljava/util/function/BiFunction;" fm) (uR_ : fm.isRef = true) (uLt : l.stackTraces = true) (uZu : Sta Z Z.heap "java/lang/Throwable" "UNASSIGNED_STACK" "[Ljava/lang/StackTraceElement;" vu) (uRu : vu.isRef = true) (uZs : Sta Z Z.heap "java/lang/Throwable" "SUPPRESSED_SENTINEL" "Ljava/util/List;" vq) (uRs : vq.isRef = true) (uD : Sta Z Z.heap "java/lang/Integer" "DigitOnes" "[B" (.ref dg1)) (uDV : Arv Z Z.heap dg1 kd1 .byte (100 : Int32) own_ones z0) (uT : Sta Z Z.heap "java/lang/Integer" "DigitTens" "[B" (.ref dg2)) (uTV : Arv Z Z.heap dg2 kd2 .byte (100 : Int32) own_tens z0) (uL1 : (Jvm.Cond.laysStatic "java/lang/Integer" "DigitOnes" "[B").before a0 Z = true) (uL2 : (Jvm.Cond.laysStatic "java/lang/Integer" "DigitTens" "[B").before a0 Z = true) (uN : (if p0 < 0 then p0 else -p0) = Jvm.Free.SBG.negI N) (uNb : N ≤ 2 ^ 31) (usg : Jvm.Free.SBG.GetChars.sgn p0 = sg) (ud : Jvm.Free.SBG.digits N = d) (uSz : Jvm.Free.SBG.strSizeOf p0 = zs) (uN1 : ((27 : Int32) + zs) = n1) (ui : Int32.ofNat (27 + (d + sg)) = n1) (uN2 : (n1 + (6 : Int32)) = n2) (uML : n2 = Int32.ofNat (33 + (d + sg))) (uC3 : (¬ ((0 : Int32) < (n1 - (34 : Int32))) ∧ 27 + (d + sg) ≤ (34 : Int32).toNatClampNeg ∧ ¬ ((0 : Int32) < (n2 - (34 : Int32))) ∧ ¬ n1 < 0 ∧ n1.toNatClampNeg + (6 : Int32).toNatClampNeg ≤ (34 : Int32).toNatClampNeg ∧ n2 = (34 : Int32) ∧ n1.toNatClampNeg = 27 + (d + sg) ∧ d + sg = 1) ∨ (¬ ((0 : Int32) < (n1 - (34 : Int32))) ∧ 27 + (d + sg) ≤ (34 : Int32).toNatClampNeg ∧ (0 : Int32) < (n2 - (34 : Int32)) ∧ (n2 - (34 : Int32)) < (36 : Int32) ∧ ¬ n1 < 0 ∧ n1.toNatClampNeg + (6 : Int32).toNatClampNeg ≤ (70 : Int32).toNatClampNeg ∧ ¬ n2 < 0 ∧ n2 < (70 : Int32) ∧ n2.toNatClampNeg ≤ (70 : Int32).toNatClampNeg ∧ n2.toNatClampNeg ≤ 64 ∧ n1.toNatClampNeg = 27 + (d + sg) ∧ n2.toNatClampNeg = 33 + (d + sg) ∧ 27 + (d + sg) ≤ 34) ∨ ((0 : Int32) < (n1 - (34 : Int32)) ∧ (n1 - (34 : Int32)) < (36 : Int32) ∧ 27 + (d + sg) ≤ (70 : Int32).toNatClampNeg ∧ ¬ ((0 : Int32) < (n2 - (70 : Int32))) ∧ ¬ n1 < 0 ∧ n1.toNatClampNeg + (6 : Int32).toNatClampNeg ≤ (70 : Int32).toNatClampNeg ∧ ¬ n2 < 0 ∧ n2 < (70 : Int32) ∧ n2.toNatClampNeg ≤ (70 : Int32).toNatClampNeg ∧ n2.toNatClampNeg ≤ 64 ∧ n1.toNatClampNeg = 27 + (d + sg) ∧ n2.toNatClampNeg = 33 + (d + sg) ∧ 33 + (d + sg) ≤ 64)) (uAb : (if (lcmpW p0.toInt64 (0 : Int64)) < (0 : Int32) then (-p0.toInt64) else p0.toInt64) = qa) (uNd : own_nd qa = nd) (uNg : (if p0 < (0 : Int32) then (1 : Int32) else (0 : Int32)) = ng) (uNg1 : ng = (1 : Int32) → sg = 1) (uTot : (((33 : Int32) + ng) + nd) = vT) (uTZ : (Int32.ofNat (own_cs N sg d).length) = vT) (uLe : (own_cs N sg d).length ≤ 4000) (uX : ∀ m : Nat, m < 6 → (vT - Int32.ofNat (6 - m)) = Int32.ofNat (27 + (d + sg) + m)) (uDg : ∀ i : Nat, i < 10 → own_okd N sg d vT qa nd i) :
    MetFree l x (head1 (Jvm.Cond.code x code maxLocals ret :: ws) room_1) (fun a U => a = #[(.int p0)] ∧ Z.Warmed39 U.vm ∧ U.heap = h0 ∧ CHv Z own_EL U.vm h0) (fun _ _ _ s _ => Jvm.Pilot.@@N@@.Jvm.D.framesKnown s = true ∧ Jvm.Pilot.@@N@@.Jvm.D.tablesKnown s = true) (fun _ U o U' => ∃ v L, o = .returned v ∧ Q_rm0 Z p0 zc fm vu vq dg1 dg2 kd1 kd2 N sg d zs n1 n2 qa nd ng vT h0 n0 v U'.heap L ∧ CHr Z own_EL U.vm U.heap U'.vm U'.heap ∧ ReturnedEndW U o U' L room_1.cells room_1.slots) := by
  refine MetFree.of_bodySF (plainFor_of_name pn_9) hisR ?_
  intro p e s m args below meth c s₁ Bd hml0 hP hK
  obtain ⟨rfl, hZ, hh, hC0⟩ := hP
  have hx := Bd.exec
  have hby := Bd.bytes
  have hml : c.maxLocals = 10 := hml0
  have hown : s.vm.findClass "com/example/plain_hub/plainhub/HubExceptionTooLargePinLaw" = some m.cls := findClass_of_methodNamed Bd.named
  have hnm := (name_of_methodNamed Bd.named Bd.method).1
  have X0 : Stand p l e room_1 (s.setVm s.vm) m #[(.int p0)] below meth c s₁ [] 0 0 := Stand.of_body Bd
  have e0 : s₁.heap = h0 := by rw [← hh, Bd.state]; rfl
  have N0 := Fr.nil n0
  have pre0 : ∀ t, Steps p.tables e below (s₁.setTop (mkF m 0 #[vi p0, uu, uu, uu, uu, uu, uu, uu, uu, uu] [])) t → Steps p.tables e below (s₁.setTop (entryFrame m #[(.int p0)] maxLocals)) t := fun t k => castTop (ef_44 m p0) k
  have hK := X0.known hK.2 hK.1
  have hS0 : s.Since s.vm 0 := (State.WarmedH.refl s).since _
  have hk0 : 0 ≤ h0.size := Nat.zero_le _
  have R0 := CHr.refl hC0
  obtain ⟨_, _, ⟨T1, Lw1, kw1, nw1⟩, -, X1', hS1', hg1, ⟨Lc1, hQ1, lq1, yq1, zq1, CH1⟩, st1⟩ := callSS X0 hx (y := M36) hown (mvT hZ (wd hw 0 rfl)) (mvT hZ (wd hw 1 rfl)) (mvT hZ (wd hw 2 rfl)) (mvT hZ (wd hw 3 rfl)) (by decide) (backOfSKH (W := 0) (rmTL l Z a0 hw [] p0 zc vu vq dg1 dg2 kd1 kd2 N sg d zs n1 n2 h0 n0 Z0 uO uS uP uLt uZu uRu uZs uRs uD uDV uT uTV uL1 uL2 uN uNb usg ud uSz uN1 ui uN2 uML uC3) hZ (wd hw 3 rfl) (wd hw 2 rfl) (by decide) (by decide) (own_EW hw) hC0 (Vm.MethodsKnown.alikeC hS0.1.alike hK.1) (Vm.FramesKnown.alikeC hS0.1.alike hK.2)) (g := (mkF m 1 #[vi p0, uu, uu, uu, uu, uu, uu, uu, uu, uu] [(.int p0)])) rfl (by rw [hml]; rfl) (argsL := [(.int p0)]) (rest := []) (lenOf pd_25 rfl) rfl (by show 2 * 0 + _ ≤ _; exact Nat.le_of_eq rfl) (hb hby at_1) (fun _ _ => ⟨rfl, e0, (by decide : 0 + 12 ≤ _), (by decide : 0 + 3092 ≤ _)⟩)
  dsimp only [Pt.U, Pt.locs, Pt.cells, Pt.slots] at X1' hS1' hg1 lq1 yq1 zq1 st1 hQ1 CH1
  have X1' := own_reb X1' lq1 yq1 zq1
  obtain ⟨X1, hS1, hZ1, hown1⟩ := rebS hS0 (own_hk e0 hk0) X1' hS1' hg1 hZ hown
  obtain ⟨nx_1, nm_1, nt_1, nk_1, rfl, Nq1, Kq1, f1_0, f1_1, f1_2, f1_3, f1_4, f1_5, f1_6, f1_7, f1_8, f1_9, f1_10⟩ := hQ1
  have N1 := Fr.app N0 Nq1
  have g_nx_1 : n0 ≤ nx_1 := Nat.le_trans Z0 f1_0
  have sz_nx_1 : h0.size ≤ nx_1 := Nat.le_trans (Keep.refl h0 []).1 f1_0
  have g_nm_1 : n0 ≤ nm_1 := Nat.le_trans Z0 f1_5
  have sz_nm_1 : h0.size ≤ nm_1 := Nat.le_trans (Keep.refl h0 []).1 f1_5
  have g_nt_1 : n0 ≤ nt_1 := Nat.le_trans Z0 f1_9
  have sz_nt_1 : h0.size ≤ nt_1 := Nat.le_trans (Keep.refl h0 []).1 f1_9
  have Re2 := R0.trans CH1
  have hCe2 := Re2.1
  have K1 : Keep h0 T1.heap [] := (Keep.refl h0 []).trans Kq1 all0
  have Z1 : n0 ≤ T1.heap.size := Nat.le_trans Z0 Kq1.1
  have hk1 : T1.heap.size ≤ T1.heap.size := Nat.le_refl _
  obtain ⟨cq3, kq3, q3a, q3b, q3c⟩ := isOf hZ1 rfl f1_1
  obtain ⟨_, _, ⟨T3, Lw3, kw3, nw3⟩, -, X3, ⟨Lc3, hQ3, lq3, yq3, zq3⟩, st3⟩ := X1.virtualBack hx (y := M34) (z := M34) hown1 (mvT hZ1 (wd hw 231 rfl)) (mvT hZ1 (wd hw 232 rfl)) (notFace_of_selects (args := #[]) (mvT hZ1 (wd hw 234 rfl))) (mvT hZ1 (wd hw 234 rfl)) (mvT hZ1 (wd hw 233 rfl)) (by decide) (backOf (W := 0) (rmSt l Z a0 hw [] nx_1 (413 : Int32) T1.heap n0 Z1 f1_1 f1_2) hZ1 (wd hw 235 rfl) (wd hw 2 rfl) (by decide) (by decide)) q3a q3c (g := (mkF m 12 #[vi p0, vr nx_1, uu, uu, uu, uu, uu, uu, uu, uu] [(.ref nx_1)])) rfl (by rw [hml]; rfl) (Steps.refl _) (argsL := []) (rest := []) (lenOf pd_2 rfl) rfl (by show 2 * 0 + _ ≤ _; exact Nat.le_of_eq rfl) (hb hby at_12) (fun _ _ => ⟨rfl, rfl, (by decide : 12 + 0 ≤ _), (by decide : 3092 + 0 ≤ _)⟩)
  dsimp only [Pt.U, Pt.locs, Pt.cells, Pt.slots] at X3 lq3 yq3 zq3 st3 hQ3
  have X3 := own_reb X3 lq3 yq3 zq3
  obtain ⟨rfl, Nq3, eh3⟩ := hQ3
  have N3 := Fr.app N1 Nq3
  obtain ⟨cq4, kq4, q4a, q4b, q4c⟩ := isOf hZ1 eh3 f1_1
  obtain ⟨_, _, ⟨T4, Lw4, kw4, nw4⟩, -, X4, ⟨Lc4, hQ4, lq4, yq4, zq4⟩, st4⟩ := X3.virtualBack hx (y := M35) (z := M35) hown1 (mvT hZ1 (wd hw 236 rfl)) (mvT hZ1 (wd hw 237 rfl)) (notFace_of_selects (args := #[]) (mvT hZ1 (wd hw 239 rfl))) (mvT hZ1 (wd hw 239 rfl)) (mvT hZ1 (wd hw 238 rfl)) (by decide) (backOf (W := 0) (rmCo l Z a0 hw [] nx_1 (430 : Int32) T1.heap n0 Z1 f1_1 f1_3) hZ1 (wd hw 240 rfl) (wd hw 2 rfl) (by decide) (by decide)) q4a q4c (g := (mkF m 22 #[vi p0, vr nx_1, uu, uu, uu, uu, uu, uu, uu, uu] [(.ref nx_1)])) rfl (by rw [hml]; rfl) (Steps.refl _) (argsL := []) (rest := []) (lenOf pd_2 rfl) rfl (by show 2 * 0 + _ ≤ _; exact Nat.le_of_eq rfl) (hb hby at_22) (fun _ _ => ⟨rfl, eh3, (by decide : 12 + 0 ≤ _), (by decide : 3092 + 0 ≤ _)⟩)
  dsimp only [Pt.U, Pt.locs, Pt.cells, Pt.slots] at X4 lq4 yq4 zq4 st4 hQ4
  have X4 := own_reb X4 lq4 yq4 zq4
  obtain ⟨rfl, Nq4, eh4⟩ := hQ4
  have N4 := Fr.app N3 Nq4
  obtain ⟨cq5, kq5, q5a, q5b, q5c⟩ := isOf hZ1 eh4 f1_1
  obtain ⟨_, _, ⟨T5, Lw5, kw5, nw5⟩, -, X5, ⟨Lc5, hQ5, lq5, yq5, zq5⟩, st5⟩ := X4.virtualBackUp hx (owner := "java/lang/Throwable") (x := M41) (y := M33) hown1 (mvT hZ1 (wd hw 241 rfl)) (mvT hZ1 (wd hw 242 rfl)) (mvT hZ1 (wd hw 243 rfl)) (by decide) (mvT hZ1 (wd hw 245 rfl)) (mvT hZ1 (wd hw 244 rfl)) (backOf (W := 0) (rmGM l Z a0 hw [] nx_1 nm_1 T1.heap n0 Z1 f1_4) hZ1 (wd hw 246 rfl) (wd hw 188 rfl) (by decide) (by decide)) q5a q5c (g := (mkF m 34 #[vi p0, vr nx_1, uu, uu, uu, uu, uu, uu, uu, uu] [(.ref nx_1)])) rfl (by rw [hml]; rfl) (Steps.refl _) (argsL := []) (rest := []) (lenOf pd_22 rfl) rfl (by show 2 * 0 + _ ≤ _; exact Nat.le_of_eq rfl) (hb hby at_34) (fun _ _ => ⟨rfl, eh4, (by decide : 12 + 0 ≤ _), (by decide : 3092 + 0 ≤ _)⟩)
  dsimp only [Pt.U, Pt.locs, Pt.cells, Pt.slots] at X5 lq5 yq5 zq5 st5 hQ5
  have X5 := own_reb X5 lq5 yq5 zq5
  obtain ⟨rfl, Nq5, eh5⟩ := hQ5
  have N5 := Fr.app N4 Nq5
  obtain ⟨_, _, ⟨T6, Lw6, kw6, nw6⟩, -, X6, ⟨Lc6, hQ6, lq6, yq6, zq6⟩, st6⟩ := Jvm.LawKit.callS X5 hx (y := M38) hown1 (mvT hZ1 (wd hw 247 rfl)) (mvT hZ1 (wd hw 248 rfl)) (mvT hZ1 (wd hw 75 rfl)) (mvT hZ1 (wd hw 249 rfl)) (by decide) (backOf (W := 0) (rmAbs l Z a0 hw [] (p0.toInt64) qa T1.heap n0 Z1 uAb) hZ1 (wd hw 249 rfl) (wd hw 75 rfl) (by decide) (by decide)) (g := (mkF m 46 #[vi p0, vr nx_1, vr nm_1, uu, uu, uu, uu, uu, uu, uu] [(.long (p0.toInt64))])) rfl (by rw [hml]; rfl) (argsL := [(.long (p0.toInt64))]) (rest := []) (lenOf pd_26 rfl) rfl (by show 2 * 0 + _ ≤ _; exact Nat.le_of_eq rfl) (hb hby at_46) (fun _ _ => ⟨rfl, eh5, (by decide : 12 + 0 ≤ _), (by decide : 3092 + 0 ≤ _)⟩)
  dsimp only [Pt.U, Pt.locs, Pt.cells, Pt.slots] at X6 lq6 yq6 zq6 st6 hQ6
  have X6 := own_reb X6 lq6 yq6 zq6
  obtain ⟨rfl, Nq6, eh6⟩ := hQ6
  have N6 := Fr.app N5 Nq6
  have dia7 : ∀ target, SS p e below T6 (mkF m 59 #[vi p0, vr nx_1, vr nm_1, vl qa, us, uu, uu, uu, uu, uu] [(.int (if p0 < (0 : Int32) then (1 : Int32) else (0 : Int32)))]) target → SS p e below T6 (mkF m 51 #[vi p0, vr nx_1, vr nm_1, vl qa, us, uu, uu, uu, uu, uu] [(.int p0)]) target := by
    intro target kt
    by_cases hd : p0 < (0 : Int32)
    · rw [if_pos hd] at kt
      refine XS.ifNo X6.here hx rfl (hb hby at_51) rfl ((if0 _ _).trans (tlt (hd : p0 < (0 : Int32))).2.1) ?_
      refine XS.iconst X6.here hx rfl (hb hby at_54) ?_
      refine XS.goto X6.here hx rfl (pc0 := 55) (pc' := 59) rfl (hb hby at_55) (by decide) (by decide) ?_
      exact kt
    · rw [if_neg hd] at kt
      refine XS.ifYes X6.here hx rfl (pc0 := 51) (pc' := 58) rfl (hb hby at_51) rfl ((if0 _ _).trans (flt (hd : ¬ (p0 < (0 : Int32)))).2.1) (by decide) (by decide) ?_
      refine XS.iconst X6.here hx rfl (hb hby at_58) ?_
      exact kt
  obtain ⟨_, _, ⟨T8, Lw8, kw8, nw8⟩, -, X8, ⟨Lc8, hQ8, lq8, yq8, zq8⟩, st8⟩ := Jvm.LawKit.callS X6 hx (y := M39) hown1 (mvT hZ1 (wd hw 250 rfl)) (mvT hZ1 (wd hw 251 rfl)) (mvT hZ1 (wd hw 252 rfl)) (mvT hZ1 (wd hw 253 rfl)) (by decide) (backOf (W := 0) (rmDs l Z a0 hw [] qa nd T1.heap n0 Z1 uNd) hZ1 (wd hw 253 rfl) (wd hw 252 rfl) (by decide) (by decide)) (g := (mkF m 62 #[vi p0, vr nx_1, vr nm_1, vl qa, us, vi ng, uu, uu, uu, uu] [(.long qa)])) rfl (by rw [hml]; rfl) (argsL := [(.long qa)]) (rest := []) (lenOf pd_27 rfl) rfl (by show 2 * 0 + _ ≤ _; exact Nat.le_of_eq rfl) (hb hby at_62) (fun _ _ => ⟨rfl, eh6, (by decide : 12 + 0 ≤ _), (by decide : 3092 + 0 ≤ _)⟩)
  dsimp only [Pt.U, Pt.locs, Pt.cells, Pt.slots] at X8 lq8 yq8 zq8 st8 hQ8
  have X8 := own_reb X8 lq8 yq8 zq8
  obtain ⟨rfl, Nq8, eh8⟩ := hQ8
  have N8 := Fr.app N6 Nq8
  have c10 := (uO.keep Kq1 all0)
  obtain ⟨cq9, kq9, q9a, q9b, q9c⟩ := isOf hZ1 eh8 f1_6
  obtain ⟨_, _, ⟨T9, Lw9, kw9, nw9⟩, -, X9, ⟨Lc9, hQ9, lq9, yq9, zq9⟩, st9⟩ := X8.virtualBack hx (y := M3) (z := M3) hown1 (mvT hZ1 (wd hw 255 rfl)) (mvT hZ1 (wd hw 45 rfl)) (notFace_of_selects (args := #[]) (mvT hZ1 (wd hw 47 rfl))) (mvT hZ1 (wd hw 47 rfl)) (mvT hZ1 (wd hw 46 rfl)) (by decide) (backOf (W := 0) (rmLen l Z a0 hw [] nm_1 zc nt_1 nk_1 (Int32.ofNat (own_cs N sg d).length) (((own_cs N sg d).map (fun c => c.toInt8.toInt32)).map Value.int) T1.heap n0 Z1 c10 uS uP f1_6 f1_8 f1_7 f1_10) hZ1 (wd hw 48 rfl) (wd hw 22 rfl) (by decide) (by decide)) q9a q9c (g := (mkF m 78 #[vi p0, vr nx_1, vr nm_1, vl qa, us, vi ng, vi nd, vi vT, uu, uu] [(.ref nm_1)])) rfl (by rw [hml]; rfl) (Steps.refl _) (argsL := []) (rest := []) (lenOf pd_2 rfl) rfl (by show 2 * 0 + _ ≤ _; exact Nat.le_of_eq rfl) (hb hby at_78) (fun _ _ => ⟨rfl, eh8, (by decide : 12 + 0 ≤ _), (by decide : 3092 + 0 ≤ _)⟩)
  dsimp only [Pt.U, Pt.locs, Pt.cells, Pt.slots] at X9 lq9 yq9 zq9 st9 hQ9
  have X9 := own_reb X9 lq9 yq9 zq9
  obtain ⟨rfl, Nq9, eh9⟩ := hQ9
  have N9 := Fr.app N8 Nq9
  obtain ⟨T11, h11, X11, e11, E11, A11, D11, Un11, st11⟩ := newO X9 hx hZ1 hown1 (wd hw 256 rfl) (wd hw 29 rfl) (wd hw 22 rfl) eh9 (g := (mkF m 88 #[vi p0, vr nx_1, vr nm_1, vl qa, us, vi ng, vi nd, vi vT, uu, uu] [])) rfl (hb hby at_88) (by decide) (by decide)
  obtain ⟨b11, g11⟩ : ∃ z, z = T1.heap.size := ⟨_, rfl⟩
  rw [← g11] at A11 D11 Un11 st11
  have ne_nx_1_b11 : nx_1 ≠ b11 := Nat.ne_of_lt (Nat.lt_of_lt_of_le f1_1.lt (Nat.le_of_eq g11.symm))
  have ne_nm_1_b11 : nm_1 ≠ b11 := Nat.ne_of_lt (Nat.lt_of_lt_of_le f1_6.lt (Nat.le_of_eq g11.symm))
  have ne_nt_1_b11 : nt_1 ≠ b11 := Nat.ne_of_lt (Nat.lt_of_lt_of_le f1_10.lt (Nat.le_of_eq g11.symm))
  have Re12 := Re2.trans (CHr.ext E11 hCe2)
  have hCe12 := Re12.1
  have Ut11 : Unt h11 b11 := Un11
  have sf11 := Safe.ext E11 hCe2 (Safe.new (Nat.le_of_eq g11.symm))
  have F11_value : Fld Z h11 b11 "java/lang/String" "value" "[B" .null := D11 (Or.inr (wd hw 30 rfl)) (ty := (.array .byte)) (by decide)
  have F11_coder : Fld Z h11 b11 "java/lang/String" "coder" "B" z0 := D11 (Or.inr (wd hw 31 rfl)) (ty := .byte) (by decide)
  have g_b11 : n0 ≤ b11 := Nat.le_trans Z1 (Nat.le_of_eq g11.symm)
  have sz_b11 : h0.size ≤ b11 := Nat.le_trans K1.1 (Nat.le_of_eq g11.symm)
  have K11 : Keep h0 h11 [] := K1.ext E11
  have Z11 : n0 ≤ h11.size := Nat.le_trans Z1 E11.1
  have hk11 : _ ≤ h11.size := Nat.le_trans hk1 E11.1
  obtain ⟨T13, h13, k13, X13, e13, E13, A13, AX13, st13⟩ := newPE X11 hx hZ1 (wd hw 257 rfl) e11 (g := (mkF m 94 #[vi p0, vr nx_1, vr nm_1, vl qa, us, vi ng, vi nd, vi vT, uu, uu] [(vI 27), (.ref b11), (.ref b11)])) rfl (hb hby at_94) rfl (by decide) (cap := 27) (by decide) (by decide) (by decide) (by decide) (ad := "[C") (by decide)
  obtain ⟨b13, g13⟩ : ∃ z, z = h11.size := ⟨_, rfl⟩
  rw [← g13] at A13 AX13 st13
  have c14 := (f1_1.ext E11)
  have ne_nx_1_b13 : nx_1 ≠ b13 := Nat.ne_of_lt (Nat.lt_of_lt_of_le c14.lt (Nat.le_of_eq g13.symm))
  have c15 := (f1_6.ext E11)
  have ne_nm_1_b13 : nm_1 ≠ b13 := Nat.ne_of_lt (Nat.lt_of_lt_of_le c15.lt (Nat.le_of_eq g13.symm))
  have c16 := (f1_10.ext E11)
  have ne_nt_1_b13 : nt_1 ≠ b13 := Nat.ne_of_lt (Nat.lt_of_lt_of_le c16.lt (Nat.le_of_eq g13.symm))
  have ne_b11_b13 : b11 ≠ b13 := Nat.ne_of_lt (Nat.lt_of_lt_of_le A11.lt (Nat.le_of_eq g13.symm))
  have Re17 := Re12.trans (CHr.ext E13 hCe12)
  have hCe17 := Re17.1
  have V13 : Arv Z h13 b13 k13 .char (27 : Int32) [z0, z0, z0, z0, z0, z0, z0, z0, z0, z0, z0, z0, z0, z0, z0, z0, z0, z0, z0, z0, z0, z0, z0, z0, z0, z0, z0] z0 := (Arv.new A13 (by decide)).pad (pad_rep [] z0 27)
  have g_b13 : n0 ≤ b13 := Nat.le_trans Z11 (Nat.le_of_eq g13.symm)
  have sz_b13 : h0.size ≤ b13 := Nat.le_trans K11.1 (Nat.le_of_eq g13.symm)
  have K13 : Keep h0 h13 [] := K11.ext E13
  have Z13 : n0 ≤ h13.size := Nat.le_trans Z11 E13.1
  have hk13 : _ ≤ h13.size := Nat.le_trans hk11 E13.1
  have c19 := ((f1_6.ext E11).ext E13)
  have c20 := ((f1_8.ext E11).ext E13)
  have c21 := ((f1_7.ext E11).ext E13)
  have c22 := ((f1_10.ext E11).ext E13)
  have c23 := ((c10.ext E11).ext E13)
  obtain ⟨T18, X18, e18, st18⟩ := own_chAt X13 hx hZ1 hown1 hw e13 c19 c20 c21 c22 (own_csb N sg d) uLe (uS.ext c23.2) uP (uF.ext c23.2) uR_ (i := 0) (own_il (by decide)) (j := (0 : Int32)) rfl (g := (mkF m 100 #[vi p0, vr nx_1, vr nm_1, vl qa, us, vi ng, vi nd, vi vT, uu, uu] [z0, (.ref nm_1), z0, (.ref b13), (.ref b13), (.ref b11), (.ref b11)])) rfl (by rw [hml]; rfl) (rest := [z0, (.ref b13), (.ref b13), (.ref b11), (.ref b11)]) rfl (hb hby at_100) (by decide) (by show 2 * 0 + 5 + 53 ≤ _; decide) (by decide) (by decide)
  obtain ⟨cl24, Ar24, q24, S24, Nn24, H24, G24⟩ := (id V13)
  have hin24 : ¬ ((0 : Int32) < 0 ∨ cl24.slots.size ≤ ((0 : Int32)).toNatClampNeg) := inb_of S24 ⟨by decide, by decide⟩
  obtain ⟨T24, h24, X24, e24, W24, st24⟩ := stC X18 hx hZ1 e18 Ar24 (j := (0 : Int32)) hin24 (g := (mkF m 103 #[vi p0, vr nx_1, vr nm_1, vl qa, us, vi ng, vi nd, vi vT, uu, uu] [(vI 84), z0, (.ref b13), (.ref b13), (.ref b11), (.ref b11)])) rfl rfl (hb hby at_103)
  have Re25 := Re17.trans (CHr.wr W24 (Safe.exa hZ1.alike AX13 (by decide) (by decide)) hCe17)
  have hCe25 := Re25.1
  have V24 := Arv.set Ar24 q24 S24 Nn24 H24 G24 (fits_nar_char _) W24 0 rfl (Nat.le_of_ble_eq_true rfl)
  have N24 := Fr.snoc X24 N9 g_b13
  have K24 : Keep h0 h24 [] := K13.wr W24 (Or.inr sz_b13)
  have Z24 : n0 ≤ h24.size := by rw [W24.size]; exact Z13
  have hk24 := own_szW W24 hk13
  have c27 := (c19.wr W24)
  have c28 := (c20.other W24 (Or.inl ne_nm_1_b13))
  have c29 := (c21.other W24 (Or.inl ne_nm_1_b13))
  have c30 := (c22.other W24 ne_nt_1_b13)
  have c31 := (c23.wr W24 g_b13)
  obtain ⟨T26, X26, e26, st26⟩ := own_chAt X24 hx hZ1 hown1 hw e24 c27 c28 c29 c30 (own_csb N sg d) uLe (uS.ext c31.2) uP (uF.ext c31.2) uR_ (i := 1) (own_il (by decide)) (j := (1 : Int32)) rfl (g := (mkF m 108 #[vi p0, vr nx_1, vr nm_1, vl qa, us, vi ng, vi nd, vi vT, uu, uu] [(vI 1), (.ref nm_1), (vI 1), (.ref b13), (.ref b13), (.ref b11), (.ref b11)])) rfl (by rw [hml]; rfl) (rest := [(vI 1), (.ref b13), (.ref b13), (.ref b11), (.ref b11)]) rfl (hb hby at_108) (by decide) (by show 2 * 0 + 5 + 53 ≤ _; decide) (by decide) (by decide)
  obtain ⟨cl32, Ar32, q32, S32, Nn32, H32, G32⟩ := (id V24)
  have hin32 : ¬ ((1 : Int32) < 0 ∨ cl32.slots.size ≤ ((1 : Int32)).toNatClampNeg) := inb_of S32 ⟨by decide, by decide⟩
  obtain ⟨T32, h32, X32, e32, W32, st32⟩ := stC X26 hx hZ1 e26 Ar32 (j := (1 : Int32)) hin32 (g := (mkF m 111 #[vi p0, vr nx_1, vr nm_1, vl qa, us, vi ng, vi nd, vi vT, uu, uu] [(vI 104), (vI 1), (.ref b13), (.ref b13), (.ref b11), (.ref b11)])) rfl rfl (hb hby at_111)
  have c33 := (AX13.wr W24)
  have Re34 := Re25.trans (CHr.wr W32 (Safe.exa hZ1.alike c33 (by decide) (by decide)) hCe25)
  have hCe34 := Re34.1
  have V32 := Arv.set Ar32 q32 S32 Nn32 H32 G32 (fits_nar_char _) W32 1 rfl (Nat.le_of_ble_eq_true rfl)
  have N32 := Fr.snoc X32 N24 g_b13
  have K32 : Keep h0 h32 [] := K24.wr W32 (Or.inr sz_b13)
  have Z32 : n0 ≤ h32.size := by rw [W32.size]; exact Z24
  have hk32 := own_szW W32 hk24
  have c36 := (c27.wr W32)
  have c37 := (c28.other W32 (Or.inl ne_nm_1_b13))
  have c38 := (c29.other W32 (Or.inl ne_nm_1_b13))
  have c39 := (c30.other W32 ne_nt_1_b13)
  have c40 := (c31.wr W32 g_b13)
  obtain ⟨T35, X35, e35, st35⟩ := own_chAt X32 hx hZ1 hown1 hw e32 c36 c37 c38 c39 (own_csb N sg d) uLe (uS.ext c40.2) uP (uF.ext c40.2) uR_ (i := 2) (own_il (by decide)) (j := (2 : Int32)) rfl (g := (mkF m 116 #[vi p0, vr nx_1, vr nm_1, vl qa, us, vi ng, vi nd, vi vT, uu, uu] [(vI 2), (.ref nm_1), (vI 2), (.ref b13), (.ref b13), (.ref b11), (.ref b11)])) rfl (by rw [hml]; rfl) (rest := [(vI 2), (.ref b13), (.ref b13), (.ref b11), (.ref b11)]) rfl (hb hby at_116) (by decide) (by show 2 * 0 + 5 + 53 ≤ _; decide) (by decide) (by decide)
  obtain ⟨cl41, Ar41, q41, S41, Nn41, H41, G41⟩ := (id V32)
  have hin41 : ¬ ((2 : Int32) < 0 ∨ cl41.slots.size ≤ ((2 : Int32)).toNatClampNeg) := inb_of S41 ⟨by decide, by decide⟩
  obtain ⟨T41, h41, X41, e41, W41, st41⟩ := stC X35 hx hZ1 e35 Ar41 (j := (2 : Int32)) hin41 (g := (mkF m 119 #[vi p0, vr nx_1, vr nm_1, vl qa, us, vi ng, vi nd, vi vT, uu, uu] [(vI 101), (vI 2), (.ref b13), (.ref b13), (.ref b11), (.ref b11)])) rfl rfl (hb hby at_119)
  have c42 := (c33.wr W32)
  have Re43 := Re34.trans (CHr.wr W41 (Safe.exa hZ1.alike c42 (by decide) (by decide)) hCe34)
  have hCe43 := Re43.1
  have V41 := Arv.set Ar41 q41 S41 Nn41 H41 G41 (fits_nar_char _) W41 2 rfl (Nat.le_of_ble_eq_true rfl)
  have N41 := Fr.snoc X41 N32 g_b13
  have K41 : Keep h0 h41 [] := K32.wr W41 (Or.inr sz_b13)
  have Z41 : n0 ≤ h41.size := by rw [W41.size]; exact Z32
  have hk41 := own_szW W41 hk32
  have c45 := (c36.wr W41)
  have c46 := (c37.other W41 (Or.inl ne_nm_1_b13))
  have c47 := (c38.other W41 (Or.inl ne_nm_1_b13))
  have c48 := (c39.other W41 ne_nt_1_b13)
  have c49 := (c40.wr W41 g_b13)
  obtain ⟨T44, X44, e44, st44⟩ := own_chAt X41 hx hZ1 hown1 hw e41 c45 c46 c47 c48 (own_csb N sg d) uLe (uS.ext c49.2) uP (uF.ext c49.2) uR_ (i := 3) (own_il (by decide)) (j := (3 : Int32)) rfl (g := (mkF m 124 #[vi p0, vr nx_1, vr nm_1, vl qa, us, vi ng, vi nd, vi vT, uu, uu] [(vI 3), (.ref nm_1), (vI 3), (.ref b13), (.ref b13), (.ref b11), (.ref b11)])) rfl (by rw [hml]; rfl) (rest := [(vI 3), (.ref b13), (.ref b13), (.ref b11), (.ref b11)]) rfl (hb hby at_124) (by decide) (by show 2 * 0 + 5 + 53 ≤ _; decide) (by decide) (by decide)
  obtain ⟨cl50, Ar50, q50, S50, Nn50, H50, G50⟩ := (id V41)
  have hin50 : ¬ ((3 : Int32) < 0 ∨ cl50.slots.size ≤ ((3 : Int32)).toNatClampNeg) := inb_of S50 ⟨by decide, by decide⟩
  obtain ⟨T50, h50, X50, e50, W50, st50⟩ := stC X44 hx hZ1 e44 Ar50 (j := (3 : Int32)) hin50 (g := (mkF m 127 #[vi p0, vr nx_1, vr nm_1, vl qa, us, vi ng, vi nd, vi vT, uu, uu] [(vI 32), (vI 3), (.ref b13), (.ref b13), (.ref b11), (.ref b11)])) rfl rfl (hb hby at_127)
  have c51 := (c42.wr W41)
  have Re52 := Re43.trans (CHr.wr W50 (Safe.exa hZ1.alike c51 (by decide) (by decide)) hCe43)
  have hCe52 := Re52.1
  have V50 := Arv.set Ar50 q50 S50 Nn50 H50 G50 (fits_nar_char _) W50 3 rfl (Nat.le_of_ble_eq_true rfl)
  have N50 := Fr.snoc X50 N41 g_b13
  have K50 : Keep h0 h50 [] := K41.wr W50 (Or.inr sz_b13)
  have Z50 : n0 ≤ h50.size := by rw [W50.size]; exact Z41
  have hk50 := own_szW W50 hk41
  have c54 := (c45.wr W50)
  have c55 := (c46.other W50 (Or.inl ne_nm_1_b13))
  have c56 := (c47.other W50 (Or.inl ne_nm_1_b13))
  have c57 := (c48.other W50 ne_nt_1_b13)
  have c58 := (c49.wr W50 g_b13)
  obtain ⟨T53, X53, e53, st53⟩ := own_chAt X50 hx hZ1 hown1 hw e50 c54 c55 c56 c57 (own_csb N sg d) uLe (uS.ext c58.2) uP (uF.ext c58.2) uR_ (i := 4) (own_il (by decide)) (j := (4 : Int32)) rfl (g := (mkF m 132 #[vi p0, vr nx_1, vr nm_1, vl qa, us, vi ng, vi nd, vi vT, uu, uu] [(vI 4), (.ref nm_1), (vI 4), (.ref b13), (.ref b13), (.ref b11), (.ref b11)])) rfl (by rw [hml]; rfl) (rest := [(vI 4), (.ref b13), (.ref b13), (.ref b11), (.ref b11)]) rfl (hb hby at_132) (by decide) (by show 2 * 0 + 5 + 53 ≤ _; decide) (by decide) (by decide)
  obtain ⟨cl59, Ar59, q59, S59, Nn59, H59, G59⟩ := (id V50)
  have hin59 : ¬ ((4 : Int32) < 0 ∨ cl59.slots.size ≤ ((4 : Int32)).toNatClampNeg) := inb_of S59 ⟨by decide, by decide⟩
  obtain ⟨T59, h59, X59, e59, W59, st59⟩ := stC X53 hx hZ1 e53 Ar59 (j := (4 : Int32)) hin59 (g := (mkF m 135 #[vi p0, vr nx_1, vr nm_1, vl qa, us, vi ng, vi nd, vi vT, uu, uu] [(vI 112), (vI 4), (.ref b13), (.ref b13), (.ref b11), (.ref b11)])) rfl rfl (hb hby at_135)
  have c60 := (c51.wr W50)
  have Re61 := Re52.trans (CHr.wr W59 (Safe.exa hZ1.alike c60 (by decide) (by decide)) hCe52)
  have hCe61 := Re61.1
  have V59 := Arv.set Ar59 q59 S59 Nn59 H59 G59 (fits_nar_char _) W59 4 rfl (Nat.le_of_ble_eq_true rfl)
  have N59 := Fr.snoc X59 N50 g_b13
  have K59 : Keep h0 h59 [] := K50.wr W59 (Or.inr sz_b13)
  have Z59 : n0 ≤ h59.size := by rw [W59.size]; exact Z50
  have hk59 := own_szW W59 hk50
  have c63 := (c54.wr W59)
  have c64 := (c55.other W59 (Or.inl ne_nm_1_b13))
  have c65 := (c56.other W59 (Or.inl ne_nm_1_b13))
  have c66 := (c57.other W59 ne_nt_1_b13)
  have c67 := (c58.wr W59 g_b13)
  obtain ⟨T62, X62, e62, st62⟩ := own_chAt X59 hx hZ1 hown1 hw e59 c63 c64 c65 c66 (own_csb N sg d) uLe (uS.ext c67.2) uP (uF.ext c67.2) uR_ (i := 5) (own_il (by decide)) (j := (5 : Int32)) rfl (g := (mkF m 140 #[vi p0, vr nx_1, vr nm_1, vl qa, us, vi ng, vi nd, vi vT, uu, uu] [(vI 5), (.ref nm_1), (vI 5), (.ref b13), (.ref b13), (.ref b11), (.ref b11)])) rfl (by rw [hml]; rfl) (rest := [(vI 5), (.ref b13), (.ref b13), (.ref b11), (.ref b11)]) rfl (hb hby at_140) (by decide) (by show 2 * 0 + 5 + 53 ≤ _; decide) (by decide) (by decide)
  obtain ⟨cl68, Ar68, q68, S68, Nn68, H68, G68⟩ := (id V59)
  have hin68 : ¬ ((5 : Int32) < 0 ∨ cl68.slots.size ≤ ((5 : Int32)).toNatClampNeg) := inb_of S68 ⟨by decide, by decide⟩
  obtain ⟨T68, h68, X68, e68, W68, st68⟩ := stC X62 hx hZ1 e62 Ar68 (j := (5 : Int32)) hin68 (g := (mkF m 143 #[vi p0, vr nx_1, vr nm_1, vl qa, us, vi ng, vi nd, vi vT, uu, uu] [(vI 97), (vI 5), (.ref b13), (.ref b13), (.ref b11), (.ref b11)])) rfl rfl (hb hby at_143)
  have c69 := (c60.wr W59)
  have Re70 := Re61.trans (CHr.wr W68 (Safe.exa hZ1.alike c69 (by decide) (by decide)) hCe61)
  have hCe70 := Re70.1
  have V68 := Arv.set Ar68 q68 S68 Nn68 H68 G68 (fits_nar_char _) W68 5 rfl (Nat.le_of_ble_eq_true rfl)
  have N68 := Fr.snoc X68 N59 g_b13
  have K68 : Keep h0 h68 [] := K59.wr W68 (Or.inr sz_b13)
  have Z68 : n0 ≤ h68.size := by rw [W68.size]; exact Z59
  have hk68 := own_szW W68 hk59
  have c72 := (c63.wr W68)
  have c73 := (c64.other W68 (Or.inl ne_nm_1_b13))
  have c74 := (c65.other W68 (Or.inl ne_nm_1_b13))
  have c75 := (c66.other W68 ne_nt_1_b13)
  have c76 := (c67.wr W68 g_b13)
  obtain ⟨T71, X71, e71, st71⟩ := own_chAt X68 hx hZ1 hown1 hw e68 c72 c73 c74 c75 (own_csb N sg d) uLe (uS.ext c76.2) uP (uF.ext c76.2) uR_ (i := 6) (own_il (by decide)) (j := (6 : Int32)) rfl (g := (mkF m 150 #[vi p0, vr nx_1, vr nm_1, vl qa, us, vi ng, vi nd, vi vT, uu, uu] [(vI 6), (.ref nm_1), (vI 6), (.ref b13), (.ref b13), (.ref b11), (.ref b11)])) rfl (by rw [hml]; rfl) (rest := [(vI 6), (.ref b13), (.ref b13), (.ref b11), (.ref b11)]) rfl (hb hby at_150) (by decide) (by show 2 * 0 + 5 + 53 ≤ _; decide) (by decide) (by decide)
  obtain ⟨cl77, Ar77, q77, S77, Nn77, H77, G77⟩ := (id V68)
  have hin77 : ¬ ((6 : Int32) < 0 ∨ cl77.slots.size ≤ ((6 : Int32)).toNatClampNeg) := inb_of S77 ⟨by decide, by decide⟩
  obtain ⟨T77, h77, X77, e77, W77, st77⟩ := stC X71 hx hZ1 e71 Ar77 (j := (6 : Int32)) hin77 (g := (mkF m 153 #[vi p0, vr nx_1, vr nm_1, vl qa, us, vi ng, vi nd, vi vT, uu, uu] [(vI 121), (vI 6), (.ref b13), (.ref b13), (.ref b11), (.ref b11)])) rfl rfl (hb hby at_153)
  have c78 := (c69.wr W68)
  have Re79 := Re70.trans (CHr.wr W77 (Safe.exa hZ1.alike c78 (by decide) (by decide)) hCe70)
  have hCe79 := Re79.1
  have V77 := Arv.set Ar77 q77 S77 Nn77 H77 G77 (fits_nar_char _) W77 6 rfl (Nat.le_of_ble_eq_true rfl)
  have N77 := Fr.snoc X77 N68 g_b13
  have K77 : Keep h0 h77 [] := K68.wr W77 (Or.inr sz_b13)
  have Z77 : n0 ≤ h77.size := by rw [W77.size]; exact Z68
  have hk77 := own_szW W77 hk68
  have c81 := (c72.wr W77)
  have c82 := (c73.other W77 (Or.inl ne_nm_1_b13))
  have c83 := (c74.other W77 (Or.inl ne_nm_1_b13))
  have c84 := (c75.other W77 ne_nt_1_b13)
  have c85 := (c76.wr W77 g_b13)
  obtain ⟨T80, X80, e80, st80⟩ := own_chAt X77 hx hZ1 hown1 hw e77 c81 c82 c83 c84 (own_csb N sg d) uLe (uS.ext c85.2) uP (uF.ext c85.2) uR_ (i := 7) (own_il (by decide)) (j := (7 : Int32)) rfl (g := (mkF m 160 #[vi p0, vr nx_1, vr nm_1, vl qa, us, vi ng, vi nd, vi vT, uu, uu] [(vI 7), (.ref nm_1), (vI 7), (.ref b13), (.ref b13), (.ref b11), (.ref b11)])) rfl (by rw [hml]; rfl) (rest := [(vI 7), (.ref b13), (.ref b13), (.ref b11), (.ref b11)]) rfl (hb hby at_160) (by decide) (by show 2 * 0 + 5 + 53 ≤ _; decide) (by decide) (by decide)
  obtain ⟨cl86, Ar86, q86, S86, Nn86, H86, G86⟩ := (id V77)
  have hin86 : ¬ ((7 : Int32) < 0 ∨ cl86.slots.size ≤ ((7 : Int32)).toNatClampNeg) := inb_of S86 ⟨by decide, by decide⟩
  obtain ⟨T86, h86, X86, e86, W86, st86⟩ := stC X80 hx hZ1 e80 Ar86 (j := (7 : Int32)) hin86 (g := (mkF m 163 #[vi p0, vr nx_1, vr nm_1, vl qa, us, vi ng, vi nd, vi vT, uu, uu] [(vI 108), (vI 7), (.ref b13), (.ref b13), (.ref b11), (.ref b11)])) rfl rfl (hb hby at_163)
  have c87 := (c78.wr W77)
  have Re88 := Re79.trans (CHr.wr W86 (Safe.exa hZ1.alike c87 (by decide) (by decide)) hCe79)
  have hCe88 := Re88.1
  have V86 := Arv.set Ar86 q86 S86 Nn86 H86 G86 (fits_nar_char _) W86 7 rfl (Nat.le_of_ble_eq_true rfl)
  have N86 := Fr.snoc X86 N77 g_b13
  have K86 : Keep h0 h86 [] := K77.wr W86 (Or.inr sz_b13)
  have Z86 : n0 ≤ h86.size := by rw [W86.size]; exact Z77
  have hk86 := own_szW W86 hk77
  have c90 := (c81.wr W86)
  have c91 := (c82.other W86 (Or.inl ne_nm_1_b13))
  have c92 := (c83.other W86 (Or.inl ne_nm_1_b13))
  have c93 := (c84.other W86 ne_nt_1_b13)
  have c94 := (c85.wr W86 g_b13)
  obtain ⟨T89, X89, e89, st89⟩ := own_chAt X86 hx hZ1 hown1 hw e86 c90 c91 c92 c93 (own_csb N sg d) uLe (uS.ext c94.2) uP (uF.ext c94.2) uR_ (i := 8) (own_il (by decide)) (j := (8 : Int32)) rfl (g := (mkF m 170 #[vi p0, vr nx_1, vr nm_1, vl qa, us, vi ng, vi nd, vi vT, uu, uu] [(vI 8), (.ref nm_1), (vI 8), (.ref b13), (.ref b13), (.ref b11), (.ref b11)])) rfl (by rw [hml]; rfl) (rest := [(vI 8), (.ref b13), (.ref b13), (.ref b11), (.ref b11)]) rfl (hb hby at_170) (by decide) (by show 2 * 0 + 5 + 53 ≤ _; decide) (by decide) (by decide)
  obtain ⟨cl95, Ar95, q95, S95, Nn95, H95, G95⟩ := (id V86)
  have hin95 : ¬ ((8 : Int32) < 0 ∨ cl95.slots.size ≤ ((8 : Int32)).toNatClampNeg) := inb_of S95 ⟨by decide, by decide⟩
  obtain ⟨T95, h95, X95, e95, W95, st95⟩ := stC X89 hx hZ1 e89 Ar95 (j := (8 : Int32)) hin95 (g := (mkF m 173 #[vi p0, vr nx_1, vr nm_1, vl qa, us, vi ng, vi nd, vi vT, uu, uu] [(vI 111), (vI 8), (.ref b13), (.ref b13), (.ref b11), (.ref b11)])) rfl rfl (hb hby at_173)
  have c96 := (c87.wr W86)
  have Re97 := Re88.trans (CHr.wr W95 (Safe.exa hZ1.alike c96 (by decide) (by decide)) hCe88)
  have hCe97 := Re97.1
  have V95 := Arv.set Ar95 q95 S95 Nn95 H95 G95 (fits_nar_char _) W95 8 rfl (Nat.le_of_ble_eq_true rfl)
  have N95 := Fr.snoc X95 N86 g_b13
  have K95 : Keep h0 h95 [] := K86.wr W95 (Or.inr sz_b13)
  have Z95 : n0 ≤ h95.size := by rw [W95.size]; exact Z86
  have hk95 := own_szW W95 hk86
  have c99 := (c90.wr W95)
  have c100 := (c91.other W95 (Or.inl ne_nm_1_b13))
  have c101 := (c92.other W95 (Or.inl ne_nm_1_b13))
  have c102 := (c93.other W95 ne_nt_1_b13)
  have c103 := (c94.wr W95 g_b13)
  obtain ⟨T98, X98, e98, st98⟩ := own_chAt X95 hx hZ1 hown1 hw e95 c99 c100 c101 c102 (own_csb N sg d) uLe (uS.ext c103.2) uP (uF.ext c103.2) uR_ (i := 9) (own_il (by decide)) (j := (9 : Int32)) rfl (g := (mkF m 180 #[vi p0, vr nx_1, vr nm_1, vl qa, us, vi ng, vi nd, vi vT, uu, uu] [(vI 9), (.ref nm_1), (vI 9), (.ref b13), (.ref b13), (.ref b11), (.ref b11)])) rfl (by rw [hml]; rfl) (rest := [(vI 9), (.ref b13), (.ref b13), (.ref b11), (.ref b11)]) rfl (hb hby at_180) (by decide) (by show 2 * 0 + 5 + 53 ≤ _; decide) (by decide) (by decide)
  obtain ⟨cl104, Ar104, q104, S104, Nn104, H104, G104⟩ := (id V95)
  have hin104 : ¬ ((9 : Int32) < 0 ∨ cl104.slots.size ≤ ((9 : Int32)).toNatClampNeg) := inb_of S104 ⟨by decide, by decide⟩
  obtain ⟨T104, h104, X104, e104, W104, st104⟩ := stC X98 hx hZ1 e98 Ar104 (j := (9 : Int32)) hin104 (g := (mkF m 183 #[vi p0, vr nx_1, vr nm_1, vl qa, us, vi ng, vi nd, vi vT, uu, uu] [(vI 97), (vI 9), (.ref b13), (.ref b13), (.ref b11), (.ref b11)])) rfl rfl (hb hby at_183)
  have c105 := (c96.wr W95)
  have Re106 := Re97.trans (CHr.wr W104 (Safe.exa hZ1.alike c105 (by decide) (by decide)) hCe97)
  have hCe106 := Re106.1
  have V104 := Arv.set Ar104 q104 S104 Nn104 H104 G104 (fits_nar_char _) W104 9 rfl (Nat.le_of_ble_eq_true rfl)
  have N104 := Fr.snoc X104 N95 g_b13
  have K104 : Keep h0 h104 [] := K95.wr W104 (Or.inr sz_b13)
  have Z104 : n0 ≤ h104.size := by rw [W104.size]; exact Z95
  have hk104 := own_szW W104 hk95
  have c108 := (c99.wr W104)
  have c109 := (c100.other W104 (Or.inl ne_nm_1_b13))
  have c110 := (c101.other W104 (Or.inl ne_nm_1_b13))
  have c111 := (c102.other W104 ne_nt_1_b13)
  have c112 := (c103.wr W104 g_b13)
  obtain ⟨T107, X107, e107, st107⟩ := own_chAt X104 hx hZ1 hown1 hw e104 c108 c109 c110 c111 (own_csb N sg d) uLe (uS.ext c112.2) uP (uF.ext c112.2) uR_ (i := 10) (own_il (by decide)) (j := (10 : Int32)) rfl (g := (mkF m 190 #[vi p0, vr nx_1, vr nm_1, vl qa, us, vi ng, vi nd, vi vT, uu, uu] [(vI 10), (.ref nm_1), (vI 10), (.ref b13), (.ref b13), (.ref b11), (.ref b11)])) rfl (by rw [hml]; rfl) (rest := [(vI 10), (.ref b13), (.ref b13), (.ref b11), (.ref b11)]) rfl (hb hby at_190) (by decide) (by show 2 * 0 + 5 + 53 ≤ _; decide) (by decide) (by decide)
  obtain ⟨cl113, Ar113, q113, S113, Nn113, H113, G113⟩ := (id V104)
  have hin113 : ¬ ((10 : Int32) < 0 ∨ cl113.slots.size ≤ ((10 : Int32)).toNatClampNeg) := inb_of S113 ⟨by decide, by decide⟩
  obtain ⟨T113, h113, X113, e113, W113, st113⟩ := stC X107 hx hZ1 e107 Ar113 (j := (10 : Int32)) hin113 (g := (mkF m 193 #[vi p0, vr nx_1, vr nm_1, vl qa, us, vi ng, vi nd, vi vT, uu, uu] [(vI 100), (vI 10), (.ref b13), (.ref b13), (.ref b11), (.ref b11)])) rfl rfl (hb hby at_193)
  have c114 := (c105.wr W104)
  have Re115 := Re106.trans (CHr.wr W113 (Safe.exa hZ1.alike c114 (by decide) (by decide)) hCe106)
  have hCe115 := Re115.1
  have V113 := Arv.set Ar113 q113 S113 Nn113 H113 G113 (fits_nar_char _) W113 10 rfl (Nat.le_of_ble_eq_true rfl)
  have N113 := Fr.snoc X113 N104 g_b13
  have K113 : Keep h0 h113 [] := K104.wr W113 (Or.inr sz_b13)
  have Z113 : n0 ≤ h113.size := by rw [W113.size]; exact Z104
  have hk113 := own_szW W113 hk104
  have c117 := (c108.wr W113)
  have c118 := (c109.other W113 (Or.inl ne_nm_1_b13))
  have c119 := (c110.other W113 (Or.inl ne_nm_1_b13))
  have c120 := (c111.other W113 ne_nt_1_b13)
  have c121 := (c112.wr W113 g_b13)
  obtain ⟨T116, X116, e116, st116⟩ := own_chAt X113 hx hZ1 hown1 hw e113 c117 c118 c119 c120 (own_csb N sg d) uLe (uS.ext c121.2) uP (uF.ext c121.2) uR_ (i := 11) (own_il (by decide)) (j := (11 : Int32)) rfl (g := (mkF m 200 #[vi p0, vr nx_1, vr nm_1, vl qa, us, vi ng, vi nd, vi vT, uu, uu] [(vI 11), (.ref nm_1), (vI 11), (.ref b13), (.ref b13), (.ref b11), (.ref b11)])) rfl (by rw [hml]; rfl) (rest := [(vI 11), (.ref b13), (.ref b13), (.ref b11), (.ref b11)]) rfl (hb hby at_200) (by decide) (by show 2 * 0 + 5 + 53 ≤ _; decide) (by decide) (by decide)
  obtain ⟨cl122, Ar122, q122, S122, Nn122, H122, G122⟩ := (id V113)
  have hin122 : ¬ ((11 : Int32) < 0 ∨ cl122.slots.size ≤ ((11 : Int32)).toNatClampNeg) := inb_of S122 ⟨by decide, by decide⟩
  obtain ⟨T122, h122, X122, e122, W122, st122⟩ := stC X116 hx hZ1 e116 Ar122 (j := (11 : Int32)) hin122 (g := (mkF m 203 #[vi p0, vr nx_1, vr nm_1, vl qa, us, vi ng, vi nd, vi vT, uu, uu] [(vI 32), (vI 11), (.ref b13), (.ref b13), (.ref b11), (.ref b11)])) rfl rfl (hb hby at_203)
  have c123 := (c114.wr W113)
  have Re124 := Re115.trans (CHr.wr W122 (Safe.exa hZ1.alike c123 (by decide) (by decide)) hCe115)
  have hCe124 := Re124.1
  have V122 := Arv.set Ar122 q122 S122 Nn122 H122 G122 (fits_nar_char _) W122 11 rfl (Nat.le_of_ble_eq_true rfl)
  have N122 := Fr.snoc X122 N113 g_b13
  have K122 : Keep h0 h122 [] := K113.wr W122 (Or.inr sz_b13)
  have Z122 : n0 ≤ h122.size := by rw [W122.size]; exact Z113
  have hk122 := own_szW W122 hk113
  have c126 := (c117.wr W122)
  have c127 := (c118.other W122 (Or.inl ne_nm_1_b13))
  have c128 := (c119.other W122 (Or.inl ne_nm_1_b13))
  have c129 := (c120.other W122 ne_nt_1_b13)
  have c130 := (c121.wr W122 g_b13)
  obtain ⟨T125, X125, e125, st125⟩ := own_chAt X122 hx hZ1 hown1 hw e122 c126 c127 c128 c129 (own_csb N sg d) uLe (uS.ext c130.2) uP (uF.ext c130.2) uR_ (i := 12) (own_il (by decide)) (j := (12 : Int32)) rfl (g := (mkF m 210 #[vi p0, vr nx_1, vr nm_1, vl qa, us, vi ng, vi nd, vi vT, uu, uu] [(vI 12), (.ref nm_1), (vI 12), (.ref b13), (.ref b13), (.ref b11), (.ref b11)])) rfl (by rw [hml]; rfl) (rest := [(vI 12), (.ref b13), (.ref b13), (.ref b11), (.ref b11)]) rfl (hb hby at_210) (by decide) (by show 2 * 0 + 5 + 53 ≤ _; decide) (by decide) (by decide)
  obtain ⟨cl131, Ar131, q131, S131, Nn131, H131, G131⟩ := (id V122)
  have hin131 : ¬ ((12 : Int32) < 0 ∨ cl131.slots.size ≤ ((12 : Int32)).toNatClampNeg) := inb_of S131 ⟨by decide, by decide⟩
  obtain ⟨T131, h131, X131, e131, W131, st131⟩ := stC X125 hx hZ1 e125 Ar131 (j := (12 : Int32)) hin131 (g := (mkF m 213 #[vi p0, vr nx_1, vr nm_1, vl qa, us, vi ng, vi nd, vi vT, uu, uu] [(vI 105), (vI 12), (.ref b13), (.ref b13), (.ref b11), (.ref b11)])) rfl rfl (hb hby at_213)
  have c132 := (c123.wr W122)
  have Re133 := Re124.trans (CHr.wr W131 (Safe.exa hZ1.alike c132 (by decide) (by decide)) hCe124)
  have hCe133 := Re133.1
  have V131 := Arv.set Ar131 q131 S131 Nn131 H131 G131 (fits_nar_char _) W131 12 rfl (Nat.le_of_ble_eq_true rfl)
  have N131 := Fr.snoc X131 N122 g_b13
  have K131 : Keep h0 h131 [] := K122.wr W131 (Or.inr sz_b13)
  have Z131 : n0 ≤ h131.size := by rw [W131.size]; exact Z122
  have hk131 := own_szW W131 hk122
  have c135 := (c126.wr W131)
  have c136 := (c127.other W131 (Or.inl ne_nm_1_b13))
  have c137 := (c128.other W131 (Or.inl ne_nm_1_b13))
  have c138 := (c129.other W131 ne_nt_1_b13)
  have c139 := (c130.wr W131 g_b13)
  obtain ⟨T134, X134, e134, st134⟩ := own_chAt X131 hx hZ1 hown1 hw e131 c135 c136 c137 c138 (own_csb N sg d) uLe (uS.ext c139.2) uP (uF.ext c139.2) uR_ (i := 13) (own_il (by decide)) (j := (13 : Int32)) rfl (g := (mkF m 220 #[vi p0, vr nx_1, vr nm_1, vl qa, us, vi ng, vi nd, vi vT, uu, uu] [(vI 13), (.ref nm_1), (vI 13), (.ref b13), (.ref b13), (.ref b11), (.ref b11)])) rfl (by rw [hml]; rfl) (rest := [(vI 13), (.ref b13), (.ref b13), (.ref b11), (.ref b11)]) rfl (hb hby at_220) (by decide) (by show 2 * 0 + 5 + 53 ≤ _; decide) (by decide) (by decide)
  obtain ⟨cl140, Ar140, q140, S140, Nn140, H140, G140⟩ := (id V131)
  have hin140 : ¬ ((13 : Int32) < 0 ∨ cl140.slots.size ≤ ((13 : Int32)).toNatClampNeg) := inb_of S140 ⟨by decide, by decide⟩
  obtain ⟨T140, h140, X140, e140, W140, st140⟩ := stC X134 hx hZ1 e134 Ar140 (j := (13 : Int32)) hin140 (g := (mkF m 223 #[vi p0, vr nx_1, vr nm_1, vl qa, us, vi ng, vi nd, vi vT, uu, uu] [(vI 115), (vI 13), (.ref b13), (.ref b13), (.ref b11), (.ref b11)])) rfl rfl (hb hby at_223)
  have c141 := (c132.wr W131)
  have Re142 := Re133.trans (CHr.wr W140 (Safe.exa hZ1.alike c141 (by decide) (by decide)) hCe133)
  have hCe142 := Re142.1
  have V140 := Arv.set Ar140 q140 S140 Nn140 H140 G140 (fits_nar_char _) W140 13 rfl (Nat.le_of_ble_eq_true rfl)
  have N140 := Fr.snoc X140 N131 g_b13
  have K140 : Keep h0 h140 [] := K131.wr W140 (Or.inr sz_b13)
  have Z140 : n0 ≤ h140.size := by rw [W140.size]; exact Z131
  have hk140 := own_szW W140 hk131
  have c144 := (c135.wr W140)
  have c145 := (c136.other W140 (Or.inl ne_nm_1_b13))
  have c146 := (c137.other W140 (Or.inl ne_nm_1_b13))
  have c147 := (c138.other W140 ne_nt_1_b13)
  have c148 := (c139.wr W140 g_b13)
  obtain ⟨T143, X143, e143, st143⟩ := own_chAt X140 hx hZ1 hown1 hw e140 c144 c145 c146 c147 (own_csb N sg d) uLe (uS.ext c148.2) uP (uF.ext c148.2) uR_ (i := 14) (own_il (by decide)) (j := (14 : Int32)) rfl (g := (mkF m 230 #[vi p0, vr nx_1, vr nm_1, vl qa, us, vi ng, vi nd, vi vT, uu, uu] [(vI 14), (.ref nm_1), (vI 14), (.ref b13), (.ref b13), (.ref b11), (.ref b11)])) rfl (by rw [hml]; rfl) (rest := [(vI 14), (.ref b13), (.ref b13), (.ref b11), (.ref b11)]) rfl (hb hby at_230) (by decide) (by show 2 * 0 + 5 + 53 ≤ _; decide) (by decide) (by decide)
  obtain ⟨cl149, Ar149, q149, S149, Nn149, H149, G149⟩ := (id V140)
  have hin149 : ¬ ((14 : Int32) < 0 ∨ cl149.slots.size ≤ ((14 : Int32)).toNatClampNeg) := inb_of S149 ⟨by decide, by decide⟩
  obtain ⟨T149, h149, X149, e149, W149, st149⟩ := stC X143 hx hZ1 e143 Ar149 (j := (14 : Int32)) hin149 (g := (mkF m 233 #[vi p0, vr nx_1, vr nm_1, vl qa, us, vi ng, vi nd, vi vT, uu, uu] [(vI 32), (vI 14), (.ref b13), (.ref b13), (.ref b11), (.ref b11)])) rfl rfl (hb hby at_233)
  have c150 := (c141.wr W140)
  have Re151 := Re142.trans (CHr.wr W149 (Safe.exa hZ1.alike c150 (by decide) (by decide)) hCe142)
  have hCe151 := Re151.1
  have V149 := Arv.set Ar149 q149 S149 Nn149 H149 G149 (fits_nar_char _) W149 14 rfl (Nat.le_of_ble_eq_true rfl)
  have N149 := Fr.snoc X149 N140 g_b13
  have K149 : Keep h0 h149 [] := K140.wr W149 (Or.inr sz_b13)
  have Z149 : n0 ≤ h149.size := by rw [W149.size]; exact Z140
  have hk149 := own_szW W149 hk140
  have c153 := (c144.wr W149)
  have c154 := (c145.other W149 (Or.inl ne_nm_1_b13))
  have c155 := (c146.other W149 (Or.inl ne_nm_1_b13))
  have c156 := (c147.other W149 ne_nt_1_b13)
  have c157 := (c148.wr W149 g_b13)
  obtain ⟨T152, X152, e152, st152⟩ := own_chAt X149 hx hZ1 hown1 hw e149 c153 c154 c155 c156 (own_csb N sg d) uLe (uS.ext c157.2) uP (uF.ext c157.2) uR_ (i := 15) (own_il (by decide)) (j := (15 : Int32)) rfl (g := (mkF m 240 #[vi p0, vr nx_1, vr nm_1, vl qa, us, vi ng, vi nd, vi vT, uu, uu] [(vI 15), (.ref nm_1), (vI 15), (.ref b13), (.ref b13), (.ref b11), (.ref b11)])) rfl (by rw [hml]; rfl) (rest := [(vI 15), (.ref b13), (.ref b13), (.ref b11), (.ref b11)]) rfl (hb hby at_240) (by decide) (by show 2 * 0 + 5 + 53 ≤ _; decide) (by decide) (by decide)
  obtain ⟨cl158, Ar158, q158, S158, Nn158, H158, G158⟩ := (id V149)
  have hin158 : ¬ ((15 : Int32) < 0 ∨ cl158.slots.size ≤ ((15 : Int32)).toNatClampNeg) := inb_of S158 ⟨by decide, by decide⟩
  obtain ⟨T158, h158, X158, e158, W158, st158⟩ := stC X152 hx hZ1 e152 Ar158 (j := (15 : Int32)) hin158 (g := (mkF m 243 #[vi p0, vr nx_1, vr nm_1, vl qa, us, vi ng, vi nd, vi vT, uu, uu] [(vI 108), (vI 15), (.ref b13), (.ref b13), (.ref b11), (.ref b11)])) rfl rfl (hb hby at_243)
  have c159 := (c150.wr W149)
  have Re160 := Re151.trans (CHr.wr W158 (Safe.exa hZ1.alike c159 (by decide) (by decide)) hCe151)
  have hCe160 := Re160.1
  have V158 := Arv.set Ar158 q158 S158 Nn158 H158 G158 (fits_nar_char _) W158 15 rfl (Nat.le_of_ble_eq_true rfl)
  have N158 := Fr.snoc X158 N149 g_b13
  have K158 : Keep h0 h158 [] := K149.wr W158 (Or.inr sz_b13)
  have Z158 : n0 ≤ h158.size := by rw [W158.size]; exact Z149
  have hk158 := own_szW W158 hk149
  have c162 := (c153.wr W158)
  have c163 := (c154.other W158 (Or.inl ne_nm_1_b13))
  have c164 := (c155.other W158 (Or.inl ne_nm_1_b13))
  have c165 := (c156.other W158 ne_nt_1_b13)
  have c166 := (c157.wr W158 g_b13)
  obtain ⟨T161, X161, e161, st161⟩ := own_chAt X158 hx hZ1 hown1 hw e158 c162 c163 c164 c165 (own_csb N sg d) uLe (uS.ext c166.2) uP (uF.ext c166.2) uR_ (i := 16) (own_il (by decide)) (j := (16 : Int32)) rfl (g := (mkF m 250 #[vi p0, vr nx_1, vr nm_1, vl qa, us, vi ng, vi nd, vi vT, uu, uu] [(vI 16), (.ref nm_1), (vI 16), (.ref b13), (.ref b13), (.ref b11), (.ref b11)])) rfl (by rw [hml]; rfl) (rest := [(vI 16), (.ref b13), (.ref b13), (.ref b11), (.ref b11)]) rfl (hb hby at_250) (by decide) (by show 2 * 0 + 5 + 53 ≤ _; decide) (by decide) (by decide)
  obtain ⟨cl167, Ar167, q167, S167, Nn167, H167, G167⟩ := (id V158)
  have hin167 : ¬ ((16 : Int32) < 0 ∨ cl167.slots.size ≤ ((16 : Int32)).toNatClampNeg) := inb_of S167 ⟨by decide, by decide⟩
  obtain ⟨T167, h167, X167, e167, W167, st167⟩ := stC X161 hx hZ1 e161 Ar167 (j := (16 : Int32)) hin167 (g := (mkF m 253 #[vi p0, vr nx_1, vr nm_1, vl qa, us, vi ng, vi nd, vi vT, uu, uu] [(vI 97), (vI 16), (.ref b13), (.ref b13), (.ref b11), (.ref b11)])) rfl rfl (hb hby at_253)
  have c168 := (c159.wr W158)
  have Re169 := Re160.trans (CHr.wr W167 (Safe.exa hZ1.alike c168 (by decide) (by decide)) hCe160)
  have hCe169 := Re169.1
  have V167 := Arv.set Ar167 q167 S167 Nn167 H167 G167 (fits_nar_char _) W167 16 rfl (Nat.le_of_ble_eq_true rfl)
  have N167 := Fr.snoc X167 N158 g_b13
  have K167 : Keep h0 h167 [] := K158.wr W167 (Or.inr sz_b13)
  have Z167 : n0 ≤ h167.size := by rw [W167.size]; exact Z158
  have hk167 := own_szW W167 hk158
  have c171 := (c162.wr W167)
  have c172 := (c163.other W167 (Or.inl ne_nm_1_b13))
  have c173 := (c164.other W167 (Or.inl ne_nm_1_b13))
  have c174 := (c165.other W167 ne_nt_1_b13)
  have c175 := (c166.wr W167 g_b13)
  obtain ⟨T170, X170, e170, st170⟩ := own_chAt X167 hx hZ1 hown1 hw e167 c171 c172 c173 c174 (own_csb N sg d) uLe (uS.ext c175.2) uP (uF.ext c175.2) uR_ (i := 17) (own_il (by decide)) (j := (17 : Int32)) rfl (g := (mkF m 260 #[vi p0, vr nx_1, vr nm_1, vl qa, us, vi ng, vi nd, vi vT, uu, uu] [(vI 17), (.ref nm_1), (vI 17), (.ref b13), (.ref b13), (.ref b11), (.ref b11)])) rfl (by rw [hml]; rfl) (rest := [(vI 17), (.ref b13), (.ref b13), (.ref b11), (.ref b11)]) rfl (hb hby at_260) (by decide) (by show 2 * 0 + 5 + 53 ≤ _; decide) (by decide) (by decide)
  obtain ⟨cl176, Ar176, q176, S176, Nn176, H176, G176⟩ := (id V167)
  have hin176 : ¬ ((17 : Int32) < 0 ∨ cl176.slots.size ≤ ((17 : Int32)).toNatClampNeg) := inb_of S176 ⟨by decide, by decide⟩
  obtain ⟨T176, h176, X176, e176, W176, st176⟩ := stC X170 hx hZ1 e170 Ar176 (j := (17 : Int32)) hin176 (g := (mkF m 263 #[vi p0, vr nx_1, vr nm_1, vl qa, us, vi ng, vi nd, vi vT, uu, uu] [(vI 114), (vI 17), (.ref b13), (.ref b13), (.ref b11), (.ref b11)])) rfl rfl (hb hby at_263)
  have c177 := (c168.wr W167)
  have Re178 := Re169.trans (CHr.wr W176 (Safe.exa hZ1.alike c177 (by decide) (by decide)) hCe169)
  have hCe178 := Re178.1
  have V176 := Arv.set Ar176 q176 S176 Nn176 H176 G176 (fits_nar_char _) W176 17 rfl (Nat.le_of_ble_eq_true rfl)
  have N176 := Fr.snoc X176 N167 g_b13
  have K176 : Keep h0 h176 [] := K167.wr W176 (Or.inr sz_b13)
  have Z176 : n0 ≤ h176.size := by rw [W176.size]; exact Z167
  have hk176 := own_szW W176 hk167
  have c180 := (c171.wr W176)
  have c181 := (c172.other W176 (Or.inl ne_nm_1_b13))
  have c182 := (c173.other W176 (Or.inl ne_nm_1_b13))
  have c183 := (c174.other W176 ne_nt_1_b13)
  have c184 := (c175.wr W176 g_b13)
  obtain ⟨T179, X179, e179, st179⟩ := own_chAt X176 hx hZ1 hown1 hw e176 c180 c181 c182 c183 (own_csb N sg d) uLe (uS.ext c184.2) uP (uF.ext c184.2) uR_ (i := 18) (own_il (by decide)) (j := (18 : Int32)) rfl (g := (mkF m 270 #[vi p0, vr nx_1, vr nm_1, vl qa, us, vi ng, vi nd, vi vT, uu, uu] [(vI 18), (.ref nm_1), (vI 18), (.ref b13), (.ref b13), (.ref b11), (.ref b11)])) rfl (by rw [hml]; rfl) (rest := [(vI 18), (.ref b13), (.ref b13), (.ref b11), (.ref b11)]) rfl (hb hby at_270) (by decide) (by show 2 * 0 + 5 + 53 ≤ _; decide) (by decide) (by decide)
  obtain ⟨cl185, Ar185, q185, S185, Nn185, H185, G185⟩ := (id V176)
  have hin185 : ¬ ((18 : Int32) < 0 ∨ cl185.slots.size ≤ ((18 : Int32)).toNatClampNeg) := inb_of S185 ⟨by decide, by decide⟩
  obtain ⟨T185, h185, X185, e185, W185, st185⟩ := stC X179 hx hZ1 e179 Ar185 (j := (18 : Int32)) hin185 (g := (mkF m 273 #[vi p0, vr nx_1, vr nm_1, vl qa, us, vi ng, vi nd, vi vT, uu, uu] [(vI 103), (vI 18), (.ref b13), (.ref b13), (.ref b11), (.ref b11)])) rfl rfl (hb hby at_273)
  have c186 := (c177.wr W176)
  have Re187 := Re178.trans (CHr.wr W185 (Safe.exa hZ1.alike c186 (by decide) (by decide)) hCe178)
  have hCe187 := Re187.1
  have V185 := Arv.set Ar185 q185 S185 Nn185 H185 G185 (fits_nar_char _) W185 18 rfl (Nat.le_of_ble_eq_true rfl)
  have N185 := Fr.snoc X185 N176 g_b13
  have K185 : Keep h0 h185 [] := K176.wr W185 (Or.inr sz_b13)
  have Z185 : n0 ≤ h185.size := by rw [W185.size]; exact Z176
  have hk185 := own_szW W185 hk176
  have c189 := (c180.wr W185)
  have c190 := (c181.other W185 (Or.inl ne_nm_1_b13))
  have c191 := (c182.other W185 (Or.inl ne_nm_1_b13))
  have c192 := (c183.other W185 ne_nt_1_b13)
  have c193 := (c184.wr W185 g_b13)
  obtain ⟨T188, X188, e188, st188⟩ := own_chAt X185 hx hZ1 hown1 hw e185 c189 c190 c191 c192 (own_csb N sg d) uLe (uS.ext c193.2) uP (uF.ext c193.2) uR_ (i := 19) (own_il (by decide)) (j := (19 : Int32)) rfl (g := (mkF m 280 #[vi p0, vr nx_1, vr nm_1, vl qa, us, vi ng, vi nd, vi vT, uu, uu] [(vI 19), (.ref nm_1), (vI 19), (.ref b13), (.ref b13), (.ref b11), (.ref b11)])) rfl (by rw [hml]; rfl) (rest := [(vI 19), (.ref b13), (.ref b13), (.ref b11), (.ref b11)]) rfl (hb hby at_280) (by decide) (by show 2 * 0 + 5 + 53 ≤ _; decide) (by decide) (by decide)
  obtain ⟨cl194, Ar194, q194, S194, Nn194, H194, G194⟩ := (id V185)
  have hin194 : ¬ ((19 : Int32) < 0 ∨ cl194.slots.size ≤ ((19 : Int32)).toNatClampNeg) := inb_of S194 ⟨by decide, by decide⟩
  obtain ⟨T194, h194, X194, e194, W194, st194⟩ := stC X188 hx hZ1 e188 Ar194 (j := (19 : Int32)) hin194 (g := (mkF m 283 #[vi p0, vr nx_1, vr nm_1, vl qa, us, vi ng, vi nd, vi vT, uu, uu] [(vI 101), (vI 19), (.ref b13), (.ref b13), (.ref b11), (.ref b11)])) rfl rfl (hb hby at_283)
  have c195 := (c186.wr W185)
  have Re196 := Re187.trans (CHr.wr W194 (Safe.exa hZ1.alike c195 (by decide) (by decide)) hCe187)
  have hCe196 := Re196.1
  have V194 := Arv.set Ar194 q194 S194 Nn194 H194 G194 (fits_nar_char _) W194 19 rfl (Nat.le_of_ble_eq_true rfl)
  have N194 := Fr.snoc X194 N185 g_b13
  have K194 : Keep h0 h194 [] := K185.wr W194 (Or.inr sz_b13)
  have Z194 : n0 ≤ h194.size := by rw [W194.size]; exact Z185
  have hk194 := own_szW W194 hk185
  have c198 := (c189.wr W194)
  have c199 := (c190.other W194 (Or.inl ne_nm_1_b13))
  have c200 := (c191.other W194 (Or.inl ne_nm_1_b13))
  have c201 := (c192.other W194 ne_nt_1_b13)
  have c202 := (c193.wr W194 g_b13)
  obtain ⟨T197, X197, e197, st197⟩ := own_chAt X194 hx hZ1 hown1 hw e194 c198 c199 c200 c201 (own_csb N sg d) uLe (uS.ext c202.2) uP (uF.ext c202.2) uR_ (i := 20) (own_il (by decide)) (j := (20 : Int32)) rfl (g := (mkF m 290 #[vi p0, vr nx_1, vr nm_1, vl qa, us, vi ng, vi nd, vi vT, uu, uu] [(vI 20), (.ref nm_1), (vI 20), (.ref b13), (.ref b13), (.ref b11), (.ref b11)])) rfl (by rw [hml]; rfl) (rest := [(vI 20), (.ref b13), (.ref b13), (.ref b11), (.ref b11)]) rfl (hb hby at_290) (by decide) (by show 2 * 0 + 5 + 53 ≤ _; decide) (by decide) (by decide)
  obtain ⟨cl203, Ar203, q203, S203, Nn203, H203, G203⟩ := (id V194)
  have hin203 : ¬ ((20 : Int32) < 0 ∨ cl203.slots.size ≤ ((20 : Int32)).toNatClampNeg) := inb_of S203 ⟨by decide, by decide⟩
  obtain ⟨T203, h203, X203, e203, W203, st203⟩ := stC X197 hx hZ1 e197 Ar203 (j := (20 : Int32)) hin203 (g := (mkF m 293 #[vi p0, vr nx_1, vr nm_1, vl qa, us, vi ng, vi nd, vi vT, uu, uu] [(vI 114), (vI 20), (.ref b13), (.ref b13), (.ref b11), (.ref b11)])) rfl rfl (hb hby at_293)
  have c204 := (c195.wr W194)
  have Re205 := Re196.trans (CHr.wr W203 (Safe.exa hZ1.alike c204 (by decide) (by decide)) hCe196)
  have hCe205 := Re205.1
  have V203 := Arv.set Ar203 q203 S203 Nn203 H203 G203 (fits_nar_char _) W203 20 rfl (Nat.le_of_ble_eq_true rfl)
  have N203 := Fr.snoc X203 N194 g_b13
  have K203 : Keep h0 h203 [] := K194.wr W203 (Or.inr sz_b13)
  have Z203 : n0 ≤ h203.size := by rw [W203.size]; exact Z194
  have hk203 := own_szW W203 hk194
  have c207 := (c198.wr W203)
  have c208 := (c199.other W203 (Or.inl ne_nm_1_b13))
  have c209 := (c200.other W203 (Or.inl ne_nm_1_b13))
  have c210 := (c201.other W203 ne_nt_1_b13)
  have c211 := (c202.wr W203 g_b13)
  obtain ⟨T206, X206, e206, st206⟩ := own_chAt X203 hx hZ1 hown1 hw e203 c207 c208 c209 c210 (own_csb N sg d) uLe (uS.ext c211.2) uP (uF.ext c211.2) uR_ (i := 21) (own_il (by decide)) (j := (21 : Int32)) rfl (g := (mkF m 300 #[vi p0, vr nx_1, vr nm_1, vl qa, us, vi ng, vi nd, vi vT, uu, uu] [(vI 21), (.ref nm_1), (vI 21), (.ref b13), (.ref b13), (.ref b11), (.ref b11)])) rfl (by rw [hml]; rfl) (rest := [(vI 21), (.ref b13), (.ref b13), (.ref b11), (.ref b11)]) rfl (hb hby at_300) (by decide) (by show 2 * 0 + 5 + 53 ≤ _; decide) (by decide) (by decide)
  obtain ⟨cl212, Ar212, q212, S212, Nn212, H212, G212⟩ := (id V203)
  have hin212 : ¬ ((21 : Int32) < 0 ∨ cl212.slots.size ≤ ((21 : Int32)).toNatClampNeg) := inb_of S212 ⟨by decide, by decide⟩
  obtain ⟨T212, h212, X212, e212, W212, st212⟩ := stC X206 hx hZ1 e206 Ar212 (j := (21 : Int32)) hin212 (g := (mkF m 303 #[vi p0, vr nx_1, vr nm_1, vl qa, us, vi ng, vi nd, vi vT, uu, uu] [(vI 32), (vI 21), (.ref b13), (.ref b13), (.ref b11), (.ref b11)])) rfl rfl (hb hby at_303)
  have c213 := (c204.wr W203)
  have Re214 := Re205.trans (CHr.wr W212 (Safe.exa hZ1.alike c213 (by decide) (by decide)) hCe205)
  have hCe214 := Re214.1
  have V212 := Arv.set Ar212 q212 S212 Nn212 H212 G212 (fits_nar_char _) W212 21 rfl (Nat.le_of_ble_eq_true rfl)
  have N212 := Fr.snoc X212 N203 g_b13
  have K212 : Keep h0 h212 [] := K203.wr W212 (Or.inr sz_b13)
  have Z212 : n0 ≤ h212.size := by rw [W212.size]; exact Z203
  have hk212 := own_szW W212 hk203
  have c216 := (c207.wr W212)
  have c217 := (c208.other W212 (Or.inl ne_nm_1_b13))
  have c218 := (c209.other W212 (Or.inl ne_nm_1_b13))
  have c219 := (c210.other W212 ne_nt_1_b13)
  have c220 := (c211.wr W212 g_b13)
  obtain ⟨T215, X215, e215, st215⟩ := own_chAt X212 hx hZ1 hown1 hw e212 c216 c217 c218 c219 (own_csb N sg d) uLe (uS.ext c220.2) uP (uF.ext c220.2) uR_ (i := 22) (own_il (by decide)) (j := (22 : Int32)) rfl (g := (mkF m 310 #[vi p0, vr nx_1, vr nm_1, vl qa, us, vi ng, vi nd, vi vT, uu, uu] [(vI 22), (.ref nm_1), (vI 22), (.ref b13), (.ref b13), (.ref b11), (.ref b11)])) rfl (by rw [hml]; rfl) (rest := [(vI 22), (.ref b13), (.ref b13), (.ref b11), (.ref b11)]) rfl (hb hby at_310) (by decide) (by show 2 * 0 + 5 + 53 ≤ _; decide) (by decide) (by decide)
  obtain ⟨cl221, Ar221, q221, S221, Nn221, H221, G221⟩ := (id V212)
  have hin221 : ¬ ((22 : Int32) < 0 ∨ cl221.slots.size ≤ ((22 : Int32)).toNatClampNeg) := inb_of S221 ⟨by decide, by decide⟩
  obtain ⟨T221, h221, X221, e221, W221, st221⟩ := stC X215 hx hZ1 e215 Ar221 (j := (22 : Int32)) hin221 (g := (mkF m 313 #[vi p0, vr nx_1, vr nm_1, vl qa, us, vi ng, vi nd, vi vT, uu, uu] [(vI 116), (vI 22), (.ref b13), (.ref b13), (.ref b11), (.ref b11)])) rfl rfl (hb hby at_313)
  have c222 := (c213.wr W212)
  have Re223 := Re214.trans (CHr.wr W221 (Safe.exa hZ1.alike c222 (by decide) (by decide)) hCe214)
  have hCe223 := Re223.1
  have V221 := Arv.set Ar221 q221 S221 Nn221 H221 G221 (fits_nar_char _) W221 22 rfl (Nat.le_of_ble_eq_true rfl)
  have N221 := Fr.snoc X221 N212 g_b13
  have K221 : Keep h0 h221 [] := K212.wr W221 (Or.inr sz_b13)
  have Z221 : n0 ≤ h221.size := by rw [W221.size]; exact Z212
  have hk221 := own_szW W221 hk212
  have c225 := (c216.wr W221)
  have c226 := (c217.other W221 (Or.inl ne_nm_1_b13))
  have c227 := (c218.other W221 (Or.inl ne_nm_1_b13))
  have c228 := (c219.other W221 ne_nt_1_b13)
  have c229 := (c220.wr W221 g_b13)
  obtain ⟨T224, X224, e224, st224⟩ := own_chAt X221 hx hZ1 hown1 hw e221 c225 c226 c227 c228 (own_csb N sg d) uLe (uS.ext c229.2) uP (uF.ext c229.2) uR_ (i := 23) (own_il (by decide)) (j := (23 : Int32)) rfl (g := (mkF m 320 #[vi p0, vr nx_1, vr nm_1, vl qa, us, vi ng, vi nd, vi vT, uu, uu] [(vI 23), (.ref nm_1), (vI 23), (.ref b13), (.ref b13), (.ref b11), (.ref b11)])) rfl (by rw [hml]; rfl) (rest := [(vI 23), (.ref b13), (.ref b13), (.ref b11), (.ref b11)]) rfl (hb hby at_320) (by decide) (by show 2 * 0 + 5 + 53 ≤ _; decide) (by decide) (by decide)
  obtain ⟨cl230, Ar230, q230, S230, Nn230, H230, G230⟩ := (id V221)
  have hin230 : ¬ ((23 : Int32) < 0 ∨ cl230.slots.size ≤ ((23 : Int32)).toNatClampNeg) := inb_of S230 ⟨by decide, by decide⟩
  obtain ⟨T230, h230, X230, e230, W230, st230⟩ := stC X224 hx hZ1 e224 Ar230 (j := (23 : Int32)) hin230 (g := (mkF m 323 #[vi p0, vr nx_1, vr nm_1, vl qa, us, vi ng, vi nd, vi vT, uu, uu] [(vI 104), (vI 23), (.ref b13), (.ref b13), (.ref b11), (.ref b11)])) rfl rfl (hb hby at_323)
  have c231 := (c222.wr W221)
  have Re232 := Re223.trans (CHr.wr W230 (Safe.exa hZ1.alike c231 (by decide) (by decide)) hCe223)
  have hCe232 := Re232.1
  have V230 := Arv.set Ar230 q230 S230 Nn230 H230 G230 (fits_nar_char _) W230 23 rfl (Nat.le_of_ble_eq_true rfl)
  have N230 := Fr.snoc X230 N221 g_b13
  have K230 : Keep h0 h230 [] := K221.wr W230 (Or.inr sz_b13)
  have Z230 : n0 ≤ h230.size := by rw [W230.size]; exact Z221
  have hk230 := own_szW W230 hk221
  have c234 := (c225.wr W230)
  have c235 := (c226.other W230 (Or.inl ne_nm_1_b13))
  have c236 := (c227.other W230 (Or.inl ne_nm_1_b13))
  have c237 := (c228.other W230 ne_nt_1_b13)
  have c238 := (c229.wr W230 g_b13)
  obtain ⟨T233, X233, e233, st233⟩ := own_chAt X230 hx hZ1 hown1 hw e230 c234 c235 c236 c237 (own_csb N sg d) uLe (uS.ext c238.2) uP (uF.ext c238.2) uR_ (i := 24) (own_il (by decide)) (j := (24 : Int32)) rfl (g := (mkF m 330 #[vi p0, vr nx_1, vr nm_1, vl qa, us, vi ng, vi nd, vi vT, uu, uu] [(vI 24), (.ref nm_1), (vI 24), (.ref b13), (.ref b13), (.ref b11), (.ref b11)])) rfl (by rw [hml]; rfl) (rest := [(vI 24), (.ref b13), (.ref b13), (.ref b11), (.ref b11)]) rfl (hb hby at_330) (by decide) (by show 2 * 0 + 5 + 53 ≤ _; decide) (by decide) (by decide)
  obtain ⟨cl239, Ar239, q239, S239, Nn239, H239, G239⟩ := (id V230)
  have hin239 : ¬ ((24 : Int32) < 0 ∨ cl239.slots.size ≤ ((24 : Int32)).toNatClampNeg) := inb_of S239 ⟨by decide, by decide⟩
  obtain ⟨T239, h239, X239, e239, W239, st239⟩ := stC X233 hx hZ1 e233 Ar239 (j := (24 : Int32)) hin239 (g := (mkF m 333 #[vi p0, vr nx_1, vr nm_1, vl qa, us, vi ng, vi nd, vi vT, uu, uu] [(vI 97), (vI 24), (.ref b13), (.ref b13), (.ref b11), (.ref b11)])) rfl rfl (hb hby at_333)
  have c240 := (c231.wr W230)
  have Re241 := Re232.trans (CHr.wr W239 (Safe.exa hZ1.alike c240 (by decide) (by decide)) hCe232)
  have hCe241 := Re241.1
  have V239 := Arv.set Ar239 q239 S239 Nn239 H239 G239 (fits_nar_char _) W239 24 rfl (Nat.le_of_ble_eq_true rfl)
  have N239 := Fr.snoc X239 N230 g_b13
  have K239 : Keep h0 h239 [] := K230.wr W239 (Or.inr sz_b13)
  have Z239 : n0 ≤ h239.size := by rw [W239.size]; exact Z230
  have hk239 := own_szW W239 hk230
  have c243 := (c234.wr W239)
  have c244 := (c235.other W239 (Or.inl ne_nm_1_b13))
  have c245 := (c236.other W239 (Or.inl ne_nm_1_b13))
  have c246 := (c237.other W239 ne_nt_1_b13)
  have c247 := (c238.wr W239 g_b13)
  obtain ⟨T242, X242, e242, st242⟩ := own_chAt X239 hx hZ1 hown1 hw e239 c243 c244 c245 c246 (own_csb N sg d) uLe (uS.ext c247.2) uP (uF.ext c247.2) uR_ (i := 25) (own_il (by decide)) (j := (25 : Int32)) rfl (g := (mkF m 340 #[vi p0, vr nx_1, vr nm_1, vl qa, us, vi ng, vi nd, vi vT, uu, uu] [(vI 25), (.ref nm_1), (vI 25), (.ref b13), (.ref b13), (.ref b11), (.ref b11)])) rfl (by rw [hml]; rfl) (rest := [(vI 25), (.ref b13), (.ref b13), (.ref b11), (.ref b11)]) rfl (hb hby at_340) (by decide) (by show 2 * 0 + 5 + 53 ≤ _; decide) (by decide) (by decide)
  obtain ⟨cl248, Ar248, q248, S248, Nn248, H248, G248⟩ := (id V239)
  have hin248 : ¬ ((25 : Int32) < 0 ∨ cl248.slots.size ≤ ((25 : Int32)).toNatClampNeg) := inb_of S248 ⟨by decide, by decide⟩
  obtain ⟨T248, h248, X248, e248, W248, st248⟩ := stC X242 hx hZ1 e242 Ar248 (j := (25 : Int32)) hin248 (g := (mkF m 343 #[vi p0, vr nx_1, vr nm_1, vl qa, us, vi ng, vi nd, vi vT, uu, uu] [(vI 110), (vI 25), (.ref b13), (.ref b13), (.ref b11), (.ref b11)])) rfl rfl (hb hby at_343)
  have c249 := (c240.wr W239)
  have Re250 := Re241.trans (CHr.wr W248 (Safe.exa hZ1.alike c249 (by decide) (by decide)) hCe241)
  have hCe250 := Re250.1
  have V248 := Arv.set Ar248 q248 S248 Nn248 H248 G248 (fits_nar_char _) W248 25 rfl (Nat.le_of_ble_eq_true rfl)
  have N248 := Fr.snoc X248 N239 g_b13
  have K248 : Keep h0 h248 [] := K239.wr W248 (Or.inr sz_b13)
  have Z248 : n0 ≤ h248.size := by rw [W248.size]; exact Z239
  have hk248 := own_szW W248 hk239
  have c252 := (c243.wr W248)
  have c253 := (c244.other W248 (Or.inl ne_nm_1_b13))
  have c254 := (c245.other W248 (Or.inl ne_nm_1_b13))
  have c255 := (c246.other W248 ne_nt_1_b13)
  have c256 := (c247.wr W248 g_b13)
  obtain ⟨T251, X251, e251, st251⟩ := own_chAt X248 hx hZ1 hown1 hw e248 c252 c253 c254 c255 (own_csb N sg d) uLe (uS.ext c256.2) uP (uF.ext c256.2) uR_ (i := 26) (own_il (by decide)) (j := (26 : Int32)) rfl (g := (mkF m 350 #[vi p0, vr nx_1, vr nm_1, vl qa, us, vi ng, vi nd, vi vT, uu, uu] [(vI 26), (.ref nm_1), (vI 26), (.ref b13), (.ref b13), (.ref b11), (.ref b11)])) rfl (by rw [hml]; rfl) (rest := [(vI 26), (.ref b13), (.ref b13), (.ref b11), (.ref b11)]) rfl (hb hby at_350) (by decide) (by show 2 * 0 + 5 + 53 ≤ _; decide) (by decide) (by decide)
  obtain ⟨cl257, Ar257, q257, S257, Nn257, H257, G257⟩ := (id V248)
  have hin257 : ¬ ((26 : Int32) < 0 ∨ cl257.slots.size ≤ ((26 : Int32)).toNatClampNeg) := inb_of S257 ⟨by decide, by decide⟩
  obtain ⟨T257, h257, X257, e257, W257, st257⟩ := stC X251 hx hZ1 e251 Ar257 (j := (26 : Int32)) hin257 (g := (mkF m 353 #[vi p0, vr nx_1, vr nm_1, vl qa, us, vi ng, vi nd, vi vT, uu, uu] [(vI 32), (vI 26), (.ref b13), (.ref b13), (.ref b11), (.ref b11)])) rfl rfl (hb hby at_353)
  have c258 := (c249.wr W248)
  have Re259 := Re250.trans (CHr.wr W257 (Safe.exa hZ1.alike c258 (by decide) (by decide)) hCe250)
  have hCe259 := Re259.1
  have V257 := Arv.set Ar257 q257 S257 Nn257 H257 G257 (fits_nar_char _) W257 26 rfl (Nat.le_of_ble_eq_true rfl)
  have N257 := Fr.snoc X257 N248 g_b13
  have K257 : Keep h0 h257 [] := K248.wr W257 (Or.inr sz_b13)
  have Z257 : n0 ≤ h257.size := by rw [W257.size]; exact Z248
  have hk257 := own_szW W257 hk248
  have c261 := ((((((((((((((((((((((((((((A11.ext E13).wr W24).wr W32).wr W41).wr W50).wr W59).wr W68).wr W77).wr W86).wr W95).wr W104).wr W113).wr W122).wr W131).wr W140).wr W149).wr W158).wr W167).wr W176).wr W185).wr W194).wr W203).wr W212).wr W221).wr W230).wr W239).wr W248).wr W257)
  have c262 := ((((((((((((((((((((((((((((F11_value.ext E13).other W24 (Or.inl ne_b11_b13)).other W32 (Or.inl ne_b11_b13)).other W41 (Or.inl ne_b11_b13)).other W50 (Or.inl ne_b11_b13)).other W59 (Or.inl ne_b11_b13)).other W68 (Or.inl ne_b11_b13)).other W77 (Or.inl ne_b11_b13)).other W86 (Or.inl ne_b11_b13)).other W95 (Or.inl ne_b11_b13)).other W104 (Or.inl ne_b11_b13)).other W113 (Or.inl ne_b11_b13)).other W122 (Or.inl ne_b11_b13)).other W131 (Or.inl ne_b11_b13)).other W140 (Or.inl ne_b11_b13)).other W149 (Or.inl ne_b11_b13)).other W158 (Or.inl ne_b11_b13)).other W167 (Or.inl ne_b11_b13)).other W176 (Or.inl ne_b11_b13)).other W185 (Or.inl ne_b11_b13)).other W194 (Or.inl ne_b11_b13)).other W203 (Or.inl ne_b11_b13)).other W212 (Or.inl ne_b11_b13)).other W221 (Or.inl ne_b11_b13)).other W230 (Or.inl ne_b11_b13)).other W239 (Or.inl ne_b11_b13)).other W248 (Or.inl ne_b11_b13)).other W257 (Or.inl ne_b11_b13))
  have c263 := ((((((((((((((((((((((((((((F11_coder.ext E13).other W24 (Or.inl ne_b11_b13)).other W32 (Or.inl ne_b11_b13)).other W41 (Or.inl ne_b11_b13)).other W50 (Or.inl ne_b11_b13)).other W59 (Or.inl ne_b11_b13)).other W68 (Or.inl ne_b11_b13)).other W77 (Or.inl ne_b11_b13)).other W86 (Or.inl ne_b11_b13)).other W95 (Or.inl ne_b11_b13)).other W104 (Or.inl ne_b11_b13)).other W113 (Or.inl ne_b11_b13)).other W122 (Or.inl ne_b11_b13)).other W131 (Or.inl ne_b11_b13)).other W140 (Or.inl ne_b11_b13)).other W149 (Or.inl ne_b11_b13)).other W158 (Or.inl ne_b11_b13)).other W167 (Or.inl ne_b11_b13)).other W176 (Or.inl ne_b11_b13)).other W185 (Or.inl ne_b11_b13)).other W194 (Or.inl ne_b11_b13)).other W203 (Or.inl ne_b11_b13)).other W212 (Or.inl ne_b11_b13)).other W221 (Or.inl ne_b11_b13)).other W230 (Or.inl ne_b11_b13)).other W239 (Or.inl ne_b11_b13)).other W248 (Or.inl ne_b11_b13)).other W257 (Or.inl ne_b11_b13))
  have c264 := (c256.wr W257 g_b13)
  obtain ⟨_, _, ⟨T260, Lw260, kw260, nw260⟩, -, X260, ⟨Lc260, hQ260, lq260, yq260, zq260⟩, st260⟩ := X257.specialBack hx (y := M42) rfl hown1 (mvT hZ1 (wd hw 280 rfl)) (mvT hZ1 (wd hw 281 rfl)) (mvT hZ1 (wd hw 282 rfl)) (by decide) (StrChars.Road.backV (W := 1) hZ1 (fun d hd => hw d (own_w_words d hd)) (kI := 4) (wd hw 29 rfl) (cs := ([84, 104, 101, 32, 112, 97, 121, 108, 111, 97, 100, 32, 105, 115, 32, 108, 97, 114, 103, 101, 114, 32, 116, 104, 97, 110, 32] : List Int32)) (bs := (([84, 104, 101, 32, 112, 97, 121, 108, 111, 97, 100, 32, 105, 115, 32, 108, 97, 114, 103, 101, 114, 32, 116, 104, 97, 110, 32] : List Int32).map (fun c => c.toInt8.toInt32))) (n := 27) g_b11 Z257 c261 c262 c263 V257 (uS.ext c264.2) uP rfl rfl (by decide) (by decide) own_hpP rfl (by decide) (by decide)) (g := (mkF m 354 #[vi p0, vr nx_1, vr nm_1, vl qa, us, vi ng, vi nd, vi vT, uu, uu] [(.ref b13), (.ref b11), (.ref b11)])) rfl (by rw [hml]; rfl) (Steps.refl _) (a := b11) (argsL := [(.ref b13)]) (rest := [(.ref b11)]) (lenOf pd_28 rfl) rfl (by show 2 * 0 + _ ≤ _; exact Nat.le_of_eq rfl) (hb hby at_354) (fun _ _ => ⟨rfl, e257, (by decide : 14 + 1 ≤ _), (by decide : 3123 + 27 ≤ _)⟩)
  dsimp only [Pt.U, Pt.locs, Pt.cells, Pt.slots] at X260 lq260 yq260 zq260 st260 hQ260
  have X260 := own_reb X260 lq260 yq260 zq260
  obtain ⟨rfl, Nq260, Kq260, fE260, fC260, t260, kt260, u1260, u2260, u3260, fV260, fK260⟩ := hQ260
  have N260 := Fr.app N257 Nq260
  have c265 := (((((((((((((((((((((((((((((f1_1.ext E11).ext E13).wr W24).wr W32).wr W41).wr W50).wr W59).wr W68).wr W77).wr W86).wr W95).wr W104).wr W113).wr W122).wr W131).wr W140).wr W149).wr W158).wr W167).wr W176).wr W185).wr W194).wr W203).wr W212).wr W221).wr W230).wr W239).wr W248).wr W257)
  have ne_nx_1_t260 : nx_1 ≠ t260 := Nat.ne_of_lt (Nat.lt_of_lt_of_le c265.lt u2260)
  have c266 := (c252.wr W257)
  have ne_nm_1_t260 : nm_1 ≠ t260 := Nat.ne_of_lt (Nat.lt_of_lt_of_le c266.lt u2260)
  have c267 := (c255.other W257 ne_nt_1_b13)
  have ne_nt_1_t260 : nt_1 ≠ t260 := Nat.ne_of_lt (Nat.lt_of_lt_of_le c267.lt u2260)
  have ne_b11_t260 : b11 ≠ t260 := Nat.ne_of_lt (Nat.lt_of_lt_of_le c261.lt u2260)
  have ne_b13_t260 : b13 ≠ t260 := Nat.ne_of_lt (Nat.lt_of_lt_of_le V257.lt u2260)
  have sz_t260 : h0.size ≤ t260 := Nat.le_trans K257.1 u2260
  have c268 := (Safe.wr W257 (Safe.exa hZ1.alike c258 (by decide) (by decide)) hCe250 (Safe.wr W248 (Safe.exa hZ1.alike c249 (by decide) (by decide)) hCe241 (Safe.wr W239 (Safe.exa hZ1.alike c240 (by decide) (by decide)) hCe232 (Safe.wr W230 (Safe.exa hZ1.alike c231 (by decide) (by decide)) hCe223 (Safe.wr W221 (Safe.exa hZ1.alike c222 (by decide) (by decide)) hCe214 (Safe.wr W212 (Safe.exa hZ1.alike c213 (by decide) (by decide)) hCe205 (Safe.wr W203 (Safe.exa hZ1.alike c204 (by decide) (by decide)) hCe196 (Safe.wr W194 (Safe.exa hZ1.alike c195 (by decide) (by decide)) hCe187 (Safe.wr W185 (Safe.exa hZ1.alike c186 (by decide) (by decide)) hCe178 (Safe.wr W176 (Safe.exa hZ1.alike c177 (by decide) (by decide)) hCe169 (Safe.wr W167 (Safe.exa hZ1.alike c168 (by decide) (by decide)) hCe160 (Safe.wr W158 (Safe.exa hZ1.alike c159 (by decide) (by decide)) hCe151 (Safe.wr W149 (Safe.exa hZ1.alike c150 (by decide) (by decide)) hCe142 (Safe.wr W140 (Safe.exa hZ1.alike c141 (by decide) (by decide)) hCe133 (Safe.wr W131 (Safe.exa hZ1.alike c132 (by decide) (by decide)) hCe124 (Safe.wr W122 (Safe.exa hZ1.alike c123 (by decide) (by decide)) hCe115 (Safe.wr W113 (Safe.exa hZ1.alike c114 (by decide) (by decide)) hCe106 (Safe.wr W104 (Safe.exa hZ1.alike c105 (by decide) (by decide)) hCe97 (Safe.wr W95 (Safe.exa hZ1.alike c96 (by decide) (by decide)) hCe88 (Safe.wr W86 (Safe.exa hZ1.alike c87 (by decide) (by decide)) hCe79 (Safe.wr W77 (Safe.exa hZ1.alike c78 (by decide) (by decide)) hCe70 (Safe.wr W68 (Safe.exa hZ1.alike c69 (by decide) (by decide)) hCe61 (Safe.wr W59 (Safe.exa hZ1.alike c60 (by decide) (by decide)) hCe52 (Safe.wr W50 (Safe.exa hZ1.alike c51 (by decide) (by decide)) hCe43 (Safe.wr W41 (Safe.exa hZ1.alike c42 (by decide) (by decide)) hCe34 (Safe.wr W32 (Safe.exa hZ1.alike c33 (by decide) (by decide)) hCe25 (Safe.wr W24 (Safe.exa hZ1.alike AX13 (by decide) (by decide)) hCe17 (Safe.ext E13 hCe12 sf11))))))))))))))))))))))))))))
  have Re269 := Re259.trans (CHr.keep Kq260 (allS c268 all0) hCe259)
  have hCe269 := Re269.1
  have sf260 := Safe.keep Kq260 (allS c268 all0) hCe259 (Safe.new u2260)
  have K260 : Keep h0 T260.heap [] := K257.trans Kq260 (allS (Or.inr sz_b11) all0)
  have Z260 : n0 ≤ T260.heap.size := Nat.le_trans Z257 Kq260.1
  have hk260 : _ ≤ T260.heap.size := Nat.le_trans hk257 Kq260.1
  obtain ⟨b270, T270, h270, kk270, t270, kc270, X270, e270, E270, hS270, hk270, hZ270, hown270, fE270, fC270, fV270, fK270, lta270, ltb270, CH270, -, SF270, st270⟩ := ldcCH X260 hx hZ1 hown1 (wd hw 296 rfl) (fun d hd => hw d (own_strAtoms d hd)) rfl hS1 hk260 (own_EW hw) (by decide) hCe269 (vs := [(vI 84), (vI 104), (vI 101), (vI 32), (vI 112), (vI 97), (vI 121), (vI 108), (vI 111), (vI 97), (vI 100), (vI 32), (vI 105), (vI 115), (vI 32), (vI 108), (vI 97), (vI 114), (vI 103), (vI 101), (vI 114), (vI 32), (vI 116), (vI 104), (vI 97), (vI 110), (vI 32)]) (z := (27 : Int32)) ⟨by decide, by decide⟩ (by decide) (by decide) (g := (mkF m 361 #[vi p0, vr nx_1, vr nm_1, vl qa, us, vi ng, vi nd, vi vT, vr b11, uu] [(.ref b11)])) rfl (hb hby at_361) (n := 108) (by decide) (by decide) (by decide) (by decide)
  have Re271 := Re269.trans CH270
  have hCe271 := Re271.1
  have c272 := (((((((((((((((((((((((((((((((f1_1.ext E11).ext E13).wr W24).wr W32).wr W41).wr W50).wr W59).wr W68).wr W77).wr W86).wr W95).wr W104).wr W113).wr W122).wr W131).wr W140).wr W149).wr W158).wr W167).wr W176).wr W185).wr W194).wr W203).wr W212).wr W221).wr W230).wr W239).wr W248).wr W257).keep Kq260).ext E270)
  have nlnx_1_270 := SF270 nx_1 (Safe.exa hZ270.alike c272 (by decide) (by decide))
  have c273 := (CHr.safe CH270 fE260.lt (Safe.keep Kq260 (allS c268 all0) hCe259 c268))
  have nlb11_270 := SF270 b11 c273
  have c274 := (((c258.wr W257).keep Kq260).ext E270)
  have nlb13_270 := SF270 b13 (Safe.exa hZ270.alike c274 (by decide) (by decide))
  have c275 := (CHr.safe CH270 fK260.lt sf260)
  have nlt260_270 := SF270 t260 c275
  have K270 : Keep h0 h270 [] := K260.ext E270
  have Z270 : n0 ≤ h270.size := Nat.le_trans Z260 E270.1
  have c277 := (fE260.ext E270)
  have c278 := (fV260.ext E270)
  have c279 := (fC260.ext E270)
  have c280 := (fK260.ext E270)
  have c281 := ((c264.keep Kq260 (allS g_b11 all0)).ext E270)
  obtain ⟨cq276, kq276, q276a, q276b, q276c⟩ := isOf hZ270 e270 c277
  obtain ⟨_, _, ⟨T276, Lw276, kw276, nw276⟩, -, X276, ⟨Lc276, hQ276, lq276, yq276, zq276⟩, st276⟩ := X270.virtualBack hx (y := M43) (z := M43) hown270 (mvT hZ270 (wd hw 297 rfl)) (mvT hZ270 (wd hw 298 rfl)) (notFace_of_selects (args := #[]) (mvT hZ270 (wd hw 300 rfl))) (mvT hZ270 (wd hw 300 rfl)) (mvT hZ270 (wd hw 299 rfl)) (by decide) (StrChars.Road.eqW (W := 0) hZ270 (fun d hd => hw d (own_w_wordsEq d hd)) (kI := 4) (wd hw 29 rfl) c277 c278 c279 c280 (StrChars.Road.codOf (cs := ([84, 104, 101, 32, 112, 97, 121, 108, 111, 97, 100, 32, 105, 115, 32, 108, 97, 114, 103, 101, 114, 32, 116, 104, 97, 110, 32] : List Int32)) (n := 27) rfl (fun c hc => (own_hpP c hc).2)) (own_up own_hpP) (Nat.le_of_ble_eq_true rfl) fE270 fV270 fC270 fK270 (StrChars.Road.codOf (cs := ([84, 104, 101, 32, 112, 97, 121, 108, 111, 97, 100, 32, 105, 115, 32, 108, 97, 114, 103, 101, 114, 32, 116, 104, 97, 110, 32] : List Int32)) (n := 27) rfl (fun c hc => (own_hpP c hc).2)) (own_up own_hpP) (Nat.le_of_ble_eq_true rfl) (uS.ext c281.2) uP (by decide) (by decide)) q276a q276c (g := (mkF m 363 #[vi p0, vr nx_1, vr nm_1, vl qa, us, vi ng, vi nd, vi vT, vr b11, uu] [(.ref b270), (.ref b11)])) rfl (by rw [hml]; rfl) (Steps.refl _) (argsL := [(.ref b270)]) (rest := []) (lenOf pd_29 rfl) rfl (by show 2 * 0 + _ ≤ _; exact Nat.le_of_eq rfl) (hb hby at_363) (fun _ _ => ⟨rfl, e270, (by decide : 17 + 0 ≤ _), (by decide : 3262 + 0 ≤ _)⟩)
  dsimp only [Pt.U, Pt.locs, Pt.cells, Pt.slots] at X276 lq276 yq276 zq276 st276 hQ276
  have X276 := own_reb X276 lq276 yq276 zq276
  obtain ⟨ho276, rfl, eh276⟩ := hQ276; obtain rfl := own_eqv ho276
  have N276 := Fr.app N260 (Fr.nil n0)
  obtain ⟨T282, h282, X282, e282, E282, A282, D282, Un282, st282⟩ := newO X276 hx hZ270 hown270 (wd hw 256 rfl) (wd hw 29 rfl) (wd hw 22 rfl) eh276 (g := (mkF m 371 #[vi p0, vr nx_1, vr nm_1, vl qa, us, vi ng, vi nd, vi vT, vr b11, uu] [])) rfl (hb hby at_371) (by decide) (by decide)
  obtain ⟨b282, g282⟩ : ∃ z, z = h270.size := ⟨_, rfl⟩
  rw [← g282] at A282 D282 Un282 st282
  have ne_nx_1_b282 : nx_1 ≠ b282 := Nat.ne_of_lt (Nat.lt_of_lt_of_le c272.lt (Nat.le_of_eq g282.symm))
  have c283 := (((c252.wr W257).keep Kq260).ext E270)
  have ne_nm_1_b282 : nm_1 ≠ b282 := Nat.ne_of_lt (Nat.lt_of_lt_of_le c283.lt (Nat.le_of_eq g282.symm))
  have c284 := (((c255.other W257 ne_nt_1_b13).keep Kq260 (ninS ne_nt_1_b11 nin0)).ext E270)
  have ne_nt_1_b282 : nt_1 ≠ b282 := Nat.ne_of_lt (Nat.lt_of_lt_of_le c284.lt (Nat.le_of_eq g282.symm))
  have ne_b11_b282 : b11 ≠ b282 := Nat.ne_of_lt (Nat.lt_of_lt_of_le c277.lt (Nat.le_of_eq g282.symm))
  have c285 := ((V257.keep Kq260 (ninS (Ne.symm ne_b11_b13) nin0)).ext E270)
  have ne_b13_b282 : b13 ≠ b282 := Nat.ne_of_lt (Nat.lt_of_lt_of_le c285.lt (Nat.le_of_eq g282.symm))
  have ne_t260_b282 : t260 ≠ b282 := Nat.ne_of_lt (Nat.lt_of_lt_of_le c280.lt (Nat.le_of_eq g282.symm))
  have ne_b270_b282 : b270 ≠ b282 := Nat.ne_of_lt (Nat.lt_of_lt_of_le fE270.lt (Nat.le_of_eq g282.symm))
  have ne_t270_b282 : t270 ≠ b282 := Nat.ne_of_lt (Nat.lt_of_lt_of_le fK270.lt (Nat.le_of_eq g282.symm))
  have Re286 := Re271.trans (CHr.ext E282 hCe271)
  have hCe286 := Re286.1
  have Ut282 : Unt h282 b282 := Un282
  have sf282 := Safe.ext E282 hCe271 (Safe.new (Nat.le_of_eq g282.symm))
  have F282_value : Fld Z h282 b282 "java/lang/String" "value" "[B" .null := D282 (Or.inr (wd hw 30 rfl)) (ty := (.array .byte)) (by decide)
  have F282_coder : Fld Z h282 b282 "java/lang/String" "coder" "B" z0 := D282 (Or.inr (wd hw 31 rfl)) (ty := .byte) (by decide)
  have g_b282 : n0 ≤ b282 := Nat.le_trans Z270 (Nat.le_of_eq g282.symm)
  have sz_b282 : h0.size ≤ b282 := Nat.le_trans K270.1 (Nat.le_of_eq g282.symm)
  have K282 : Keep h0 h282 [] := K270.ext E282
  have Z282 : n0 ≤ h282.size := Nat.le_trans Z270 E282.1
  have hk282 : _ ≤ h282.size := Nat.le_trans hk270 E282.1
  obtain ⟨T287, h287, k287, X287, e287, E287, A287, AX287, st287⟩ := newPE X282 hx hZ270 (wd hw 257 rfl) e282 (g := (mkF m 377 #[vi p0, vr nx_1, vr nm_1, vl qa, us, vi ng, vi nd, vi vT, vr b11, uu] [(vI 6), (.ref b282), (.ref b282)])) rfl (hb hby at_377) rfl (by decide) (cap := 6) (by decide) (by decide) (by decide) (by decide) (ad := "[C") (by decide)
  obtain ⟨b287, g287⟩ : ∃ z, z = h282.size := ⟨_, rfl⟩
  rw [← g287] at A287 AX287 st287
  have c288 := (c272.ext E282)
  have ne_nx_1_b287 : nx_1 ≠ b287 := Nat.ne_of_lt (Nat.lt_of_lt_of_le c288.lt (Nat.le_of_eq g287.symm))
  have c289 := ((((c252.wr W257).keep Kq260).ext E270).ext E282)
  have ne_nm_1_b287 : nm_1 ≠ b287 := Nat.ne_of_lt (Nat.lt_of_lt_of_le c289.lt (Nat.le_of_eq g287.symm))
  have c290 := ((((c255.other W257 ne_nt_1_b13).keep Kq260 (ninS ne_nt_1_b11 nin0)).ext E270).ext E282)
  have ne_nt_1_b287 : nt_1 ≠ b287 := Nat.ne_of_lt (Nat.lt_of_lt_of_le c290.lt (Nat.le_of_eq g287.symm))
  have c291 := (c277.ext E282)
  have ne_b11_b287 : b11 ≠ b287 := Nat.ne_of_lt (Nat.lt_of_lt_of_le c291.lt (Nat.le_of_eq g287.symm))
  have c292 := (((V257.keep Kq260 (ninS (Ne.symm ne_b11_b13) nin0)).ext E270).ext E282)
  have ne_b13_b287 : b13 ≠ b287 := Nat.ne_of_lt (Nat.lt_of_lt_of_le c292.lt (Nat.le_of_eq g287.symm))
  have c293 := (c280.ext E282)
  have ne_t260_b287 : t260 ≠ b287 := Nat.ne_of_lt (Nat.lt_of_lt_of_le c293.lt (Nat.le_of_eq g287.symm))
  have c294 := (fE270.ext E282)
  have ne_b270_b287 : b270 ≠ b287 := Nat.ne_of_lt (Nat.lt_of_lt_of_le c294.lt (Nat.le_of_eq g287.symm))
  have c295 := (fK270.ext E282)
  have ne_t270_b287 : t270 ≠ b287 := Nat.ne_of_lt (Nat.lt_of_lt_of_le c295.lt (Nat.le_of_eq g287.symm))
  have ne_b282_b287 : b282 ≠ b287 := Nat.ne_of_lt (Nat.lt_of_lt_of_le A282.lt (Nat.le_of_eq g287.symm))
  have Re296 := Re286.trans (CHr.ext E287 hCe286)
  have hCe296 := Re296.1
  have V287 : Arv Z h287 b287 k287 .char (6 : Int32) [z0, z0, z0, z0, z0, z0] z0 := (Arv.new A287 (by decide)).pad (pad_rep [] z0 6)
  have g_b287 : n0 ≤ b287 := Nat.le_trans Z282 (Nat.le_of_eq g287.symm)
  have sz_b287 : h0.size ≤ b287 := Nat.le_trans K282.1 (Nat.le_of_eq g287.symm)
  have K287 : Keep h0 h287 [] := K282.ext E287
  have Z287 : n0 ≤ h287.size := Nat.le_trans Z282 E287.1
  have hk287 : _ ≤ h287.size := Nat.le_trans hk282 E287.1
  have c298 := (((((c252.wr W257).keep Kq260).ext E270).ext E282).ext E287)
  have c299 := (((((c253.other W257 (Or.inl ne_nm_1_b13)).keep Kq260 (ninS ne_nm_1_b11 nin0)).ext E270).ext E282).ext E287)
  have c300 := (((((c254.other W257 (Or.inl ne_nm_1_b13)).keep Kq260 (ninS ne_nm_1_b11 nin0)).ext E270).ext E282).ext E287)
  have c301 := (((((c255.other W257 ne_nt_1_b13).keep Kq260 (ninS ne_nt_1_b11 nin0)).ext E270).ext E282).ext E287)
  have c302 := ((c281.ext E282).ext E287)
  obtain ⟨T297, X297, e297, st297⟩ := own_chAt X287 hx hZ270 hown270 hw e287 c298 c299 c300 c301 (own_csb N sg d) uLe (uS.ext c302.2) uP (uF.ext c302.2) uR_ (i := (27 + (d + sg) + 0)) (own_il2 (by decide)) (j := (vT - (6 : Int32))) (uX 0 (by decide)) (g := (mkF m 387 #[vi p0, vr nx_1, vr nm_1, vl qa, us, vi ng, vi nd, vi vT, vr b11, uu] [(.int (vT - (6 : Int32))), (.ref nm_1), z0, (.ref b287), (.ref b287), (.ref b282), (.ref b282)])) rfl (by rw [hml]; rfl) (rest := [z0, (.ref b287), (.ref b287), (.ref b282), (.ref b282)]) rfl (hb hby at_387) (by decide) (by show 2 * 0 + 5 + 53 ≤ _; decide) (by decide) (by decide)
  obtain ⟨cl303, Ar303, q303, S303, Nn303, H303, G303⟩ := (id V287)
  have hin303 : ¬ ((0 : Int32) < 0 ∨ cl303.slots.size ≤ ((0 : Int32)).toNatClampNeg) := inb_of S303 ⟨by decide, by decide⟩
  obtain ⟨T303, h303, X303, e303, W303, st303⟩ := stC X297 hx hZ270 e297 Ar303 (j := (0 : Int32)) hin303 (g := (mkF m 390 #[vi p0, vr nx_1, vr nm_1, vl qa, us, vi ng, vi nd, vi vT, vr b11, uu] [(vI 32), z0, (.ref b287), (.ref b287), (.ref b282), (.ref b282)])) rfl rfl (hb hby at_390)
  have Re304 := Re296.trans (CHr.wr W303 (Safe.exa hZ270.alike AX287 (by decide) (by decide)) hCe296)
  have hCe304 := Re304.1
  have V303 := Arv.set Ar303 q303 S303 Nn303 H303 G303 (fits_nar_char _) W303 0 rfl (Nat.le_of_ble_eq_true rfl)
  have N303 := Fr.snoc X303 N276 g_b287
  have K303 : Keep h0 h303 [] := K287.wr W303 (Or.inr sz_b287)
  have Z303 : n0 ≤ h303.size := by rw [W303.size]; exact Z287
  have hk303 := own_szW W303 hk287
  have c306 := (c298.wr W303)
  have c307 := (c299.other W303 (Or.inl ne_nm_1_b287))
  have c308 := (c300.other W303 (Or.inl ne_nm_1_b287))
  have c309 := (c301.other W303 ne_nt_1_b287)
  have c310 := (c302.wr W303 g_b287)
  obtain ⟨T305, X305, e305, st305⟩ := own_chAt X303 hx hZ270 hown270 hw e303 c306 c307 c308 c309 (own_csb N sg d) uLe (uS.ext c310.2) uP (uF.ext c310.2) uR_ (i := (27 + (d + sg) + 1)) (own_il2 (by decide)) (j := (vT - (5 : Int32))) (uX 1 (by decide)) (g := (mkF m 398 #[vi p0, vr nx_1, vr nm_1, vl qa, us, vi ng, vi nd, vi vT, vr b11, uu] [(.int (vT - (5 : Int32))), (.ref nm_1), (vI 1), (.ref b287), (.ref b287), (.ref b282), (.ref b282)])) rfl (by rw [hml]; rfl) (rest := [(vI 1), (.ref b287), (.ref b287), (.ref b282), (.ref b282)]) rfl (hb hby at_398) (by decide) (by show 2 * 0 + 5 + 53 ≤ _; decide) (by decide) (by decide)
  obtain ⟨cl311, Ar311, q311, S311, Nn311, H311, G311⟩ := (id V303)
  have hin311 : ¬ ((1 : Int32) < 0 ∨ cl311.slots.size ≤ ((1 : Int32)).toNatClampNeg) := inb_of S311 ⟨by decide, by decide⟩
  obtain ⟨T311, h311, X311, e311, W311, st311⟩ := stC X305 hx hZ270 e305 Ar311 (j := (1 : Int32)) hin311 (g := (mkF m 401 #[vi p0, vr nx_1, vr nm_1, vl qa, us, vi ng, vi nd, vi vT, vr b11, uu] [(vI 98), (vI 1), (.ref b287), (.ref b287), (.ref b282), (.ref b282)])) rfl rfl (hb hby at_401)
  have c312 := (AX287.wr W303)
  have Re313 := Re304.trans (CHr.wr W311 (Safe.exa hZ270.alike c312 (by decide) (by decide)) hCe304)
  have hCe313 := Re313.1
  have V311 := Arv.set Ar311 q311 S311 Nn311 H311 G311 (fits_nar_char _) W311 1 rfl (Nat.le_of_ble_eq_true rfl)
  have N311 := Fr.snoc X311 N303 g_b287
  have K311 : Keep h0 h311 [] := K303.wr W311 (Or.inr sz_b287)
  have Z311 : n0 ≤ h311.size := by rw [W311.size]; exact Z303
  have hk311 := own_szW W311 hk303
  have c315 := (c306.wr W311)
  have c316 := (c307.other W311 (Or.inl ne_nm_1_b287))
  have c317 := (c308.other W311 (Or.inl ne_nm_1_b287))
  have c318 := (c309.other W311 ne_nt_1_b287)
  have c319 := (c310.wr W311 g_b287)
  obtain ⟨T314, X314, e314, st314⟩ := own_chAt X311 hx hZ270 hown270 hw e311 c315 c316 c317 c318 (own_csb N sg d) uLe (uS.ext c319.2) uP (uF.ext c319.2) uR_ (i := (27 + (d + sg) + 2)) (own_il2 (by decide)) (j := (vT - (4 : Int32))) (uX 2 (by decide)) (g := (mkF m 409 #[vi p0, vr nx_1, vr nm_1, vl qa, us, vi ng, vi nd, vi vT, vr b11, uu] [(.int (vT - (4 : Int32))), (.ref nm_1), (vI 2), (.ref b287), (.ref b287), (.ref b282), (.ref b282)])) rfl (by rw [hml]; rfl) (rest := [(vI 2), (.ref b287), (.ref b287), (.ref b282), (.ref b282)]) rfl (hb hby at_409) (by decide) (by show 2 * 0 + 5 + 53 ≤ _; decide) (by decide) (by decide)
  obtain ⟨cl320, Ar320, q320, S320, Nn320, H320, G320⟩ := (id V311)
  have hin320 : ¬ ((2 : Int32) < 0 ∨ cl320.slots.size ≤ ((2 : Int32)).toNatClampNeg) := inb_of S320 ⟨by decide, by decide⟩
  obtain ⟨T320, h320, X320, e320, W320, st320⟩ := stC X314 hx hZ270 e314 Ar320 (j := (2 : Int32)) hin320 (g := (mkF m 412 #[vi p0, vr nx_1, vr nm_1, vl qa, us, vi ng, vi nd, vi vT, vr b11, uu] [(vI 121), (vI 2), (.ref b287), (.ref b287), (.ref b282), (.ref b282)])) rfl rfl (hb hby at_412)
  have c321 := (c312.wr W311)
  have Re322 := Re313.trans (CHr.wr W320 (Safe.exa hZ270.alike c321 (by decide) (by decide)) hCe313)
  have hCe322 := Re322.1
  have V320 := Arv.set Ar320 q320 S320 Nn320 H320 G320 (fits_nar_char _) W320 2 rfl (Nat.le_of_ble_eq_true rfl)
  have N320 := Fr.snoc X320 N311 g_b287
  have K320 : Keep h0 h320 [] := K311.wr W320 (Or.inr sz_b287)
  have Z320 : n0 ≤ h320.size := by rw [W320.size]; exact Z311
  have hk320 := own_szW W320 hk311
  have c324 := (c315.wr W320)
  have c325 := (c316.other W320 (Or.inl ne_nm_1_b287))
  have c326 := (c317.other W320 (Or.inl ne_nm_1_b287))
  have c327 := (c318.other W320 ne_nt_1_b287)
  have c328 := (c319.wr W320 g_b287)
  obtain ⟨T323, X323, e323, st323⟩ := own_chAt X320 hx hZ270 hown270 hw e320 c324 c325 c326 c327 (own_csb N sg d) uLe (uS.ext c328.2) uP (uF.ext c328.2) uR_ (i := (27 + (d + sg) + 3)) (own_il2 (by decide)) (j := (vT - (3 : Int32))) (uX 3 (by decide)) (g := (mkF m 420 #[vi p0, vr nx_1, vr nm_1, vl qa, us, vi ng, vi nd, vi vT, vr b11, uu] [(.int (vT - (3 : Int32))), (.ref nm_1), (vI 3), (.ref b287), (.ref b287), (.ref b282), (.ref b282)])) rfl (by rw [hml]; rfl) (rest := [(vI 3), (.ref b287), (.ref b287), (.ref b282), (.ref b282)]) rfl (hb hby at_420) (by decide) (by show 2 * 0 + 5 + 53 ≤ _; decide) (by decide) (by decide)
  obtain ⟨cl329, Ar329, q329, S329, Nn329, H329, G329⟩ := (id V320)
  have hin329 : ¬ ((3 : Int32) < 0 ∨ cl329.slots.size ≤ ((3 : Int32)).toNatClampNeg) := inb_of S329 ⟨by decide, by decide⟩
  obtain ⟨T329, h329, X329, e329, W329, st329⟩ := stC X323 hx hZ270 e323 Ar329 (j := (3 : Int32)) hin329 (g := (mkF m 423 #[vi p0, vr nx_1, vr nm_1, vl qa, us, vi ng, vi nd, vi vT, vr b11, uu] [(vI 116), (vI 3), (.ref b287), (.ref b287), (.ref b282), (.ref b282)])) rfl rfl (hb hby at_423)
  have c330 := (c321.wr W320)
  have Re331 := Re322.trans (CHr.wr W329 (Safe.exa hZ270.alike c330 (by decide) (by decide)) hCe322)
  have hCe331 := Re331.1
  have V329 := Arv.set Ar329 q329 S329 Nn329 H329 G329 (fits_nar_char _) W329 3 rfl (Nat.le_of_ble_eq_true rfl)
  have N329 := Fr.snoc X329 N320 g_b287
  have K329 : Keep h0 h329 [] := K320.wr W329 (Or.inr sz_b287)
  have Z329 : n0 ≤ h329.size := by rw [W329.size]; exact Z320
  have hk329 := own_szW W329 hk320
  have c333 := (c324.wr W329)
  have c334 := (c325.other W329 (Or.inl ne_nm_1_b287))
  have c335 := (c326.other W329 (Or.inl ne_nm_1_b287))
  have c336 := (c327.other W329 ne_nt_1_b287)
  have c337 := (c328.wr W329 g_b287)
  obtain ⟨T332, X332, e332, st332⟩ := own_chAt X329 hx hZ270 hown270 hw e329 c333 c334 c335 c336 (own_csb N sg d) uLe (uS.ext c337.2) uP (uF.ext c337.2) uR_ (i := (27 + (d + sg) + 4)) (own_il2 (by decide)) (j := (vT - (2 : Int32))) (uX 4 (by decide)) (g := (mkF m 431 #[vi p0, vr nx_1, vr nm_1, vl qa, us, vi ng, vi nd, vi vT, vr b11, uu] [(.int (vT - (2 : Int32))), (.ref nm_1), (vI 4), (.ref b287), (.ref b287), (.ref b282), (.ref b282)])) rfl (by rw [hml]; rfl) (rest := [(vI 4), (.ref b287), (.ref b287), (.ref b282), (.ref b282)]) rfl (hb hby at_431) (by decide) (by show 2 * 0 + 5 + 53 ≤ _; decide) (by decide) (by decide)
  obtain ⟨cl338, Ar338, q338, S338, Nn338, H338, G338⟩ := (id V329)
  have hin338 : ¬ ((4 : Int32) < 0 ∨ cl338.slots.size ≤ ((4 : Int32)).toNatClampNeg) := inb_of S338 ⟨by decide, by decide⟩
  obtain ⟨T338, h338, X338, e338, W338, st338⟩ := stC X332 hx hZ270 e332 Ar338 (j := (4 : Int32)) hin338 (g := (mkF m 434 #[vi p0, vr nx_1, vr nm_1, vl qa, us, vi ng, vi nd, vi vT, vr b11, uu] [(vI 101), (vI 4), (.ref b287), (.ref b287), (.ref b282), (.ref b282)])) rfl rfl (hb hby at_434)
  have c339 := (c330.wr W329)
  have Re340 := Re331.trans (CHr.wr W338 (Safe.exa hZ270.alike c339 (by decide) (by decide)) hCe331)
  have hCe340 := Re340.1
  have V338 := Arv.set Ar338 q338 S338 Nn338 H338 G338 (fits_nar_char _) W338 4 rfl (Nat.le_of_ble_eq_true rfl)
  have N338 := Fr.snoc X338 N329 g_b287
  have K338 : Keep h0 h338 [] := K329.wr W338 (Or.inr sz_b287)
  have Z338 : n0 ≤ h338.size := by rw [W338.size]; exact Z329
  have hk338 := own_szW W338 hk329
  have c342 := (c333.wr W338)
  have c343 := (c334.other W338 (Or.inl ne_nm_1_b287))
  have c344 := (c335.other W338 (Or.inl ne_nm_1_b287))
  have c345 := (c336.other W338 ne_nt_1_b287)
  have c346 := (c337.wr W338 g_b287)
  obtain ⟨T341, X341, e341, st341⟩ := own_chAt X338 hx hZ270 hown270 hw e338 c342 c343 c344 c345 (own_csb N sg d) uLe (uS.ext c346.2) uP (uF.ext c346.2) uR_ (i := (27 + (d + sg) + 5)) (own_il2 (by decide)) (j := (vT - (1 : Int32))) (uX 5 (by decide)) (g := (mkF m 442 #[vi p0, vr nx_1, vr nm_1, vl qa, us, vi ng, vi nd, vi vT, vr b11, uu] [(.int (vT - (1 : Int32))), (.ref nm_1), (vI 5), (.ref b287), (.ref b287), (.ref b282), (.ref b282)])) rfl (by rw [hml]; rfl) (rest := [(vI 5), (.ref b287), (.ref b287), (.ref b282), (.ref b282)]) rfl (hb hby at_442) (by decide) (by show 2 * 0 + 5 + 53 ≤ _; decide) (by decide) (by decide)
  obtain ⟨cl347, Ar347, q347, S347, Nn347, H347, G347⟩ := (id V338)
  have hin347 : ¬ ((5 : Int32) < 0 ∨ cl347.slots.size ≤ ((5 : Int32)).toNatClampNeg) := inb_of S347 ⟨by decide, by decide⟩
  obtain ⟨T347, h347, X347, e347, W347, st347⟩ := stC X341 hx hZ270 e341 Ar347 (j := (5 : Int32)) hin347 (g := (mkF m 445 #[vi p0, vr nx_1, vr nm_1, vl qa, us, vi ng, vi nd, vi vT, vr b11, uu] [(vI 115), (vI 5), (.ref b287), (.ref b287), (.ref b282), (.ref b282)])) rfl rfl (hb hby at_445)
  have c348 := (c339.wr W338)
  have Re349 := Re340.trans (CHr.wr W347 (Safe.exa hZ270.alike c348 (by decide) (by decide)) hCe340)
  have hCe349 := Re349.1
  have V347 := Arv.set Ar347 q347 S347 Nn347 H347 G347 (fits_nar_char _) W347 5 rfl (Nat.le_of_ble_eq_true rfl)
  have N347 := Fr.snoc X347 N338 g_b287
  have K347 : Keep h0 h347 [] := K338.wr W347 (Or.inr sz_b287)
  have Z347 : n0 ≤ h347.size := by rw [W347.size]; exact Z338
  have hk347 := own_szW W347 hk338
  have c351 := (((((((A282.ext E287).wr W303).wr W311).wr W320).wr W329).wr W338).wr W347)
  have c352 := (((((((F282_value.ext E287).other W303 (Or.inl ne_b282_b287)).other W311 (Or.inl ne_b282_b287)).other W320 (Or.inl ne_b282_b287)).other W329 (Or.inl ne_b282_b287)).other W338 (Or.inl ne_b282_b287)).other W347 (Or.inl ne_b282_b287))
  have c353 := (((((((F282_coder.ext E287).other W303 (Or.inl ne_b282_b287)).other W311 (Or.inl ne_b282_b287)).other W320 (Or.inl ne_b282_b287)).other W329 (Or.inl ne_b282_b287)).other W338 (Or.inl ne_b282_b287)).other W347 (Or.inl ne_b282_b287))
  have c354 := (c346.wr W347 g_b287)
  obtain ⟨_, _, ⟨T350, Lw350, kw350, nw350⟩, -, X350, ⟨Lc350, hQ350, lq350, yq350, zq350⟩, st350⟩ := X347.specialBack hx (y := M42) rfl hown270 (mvT hZ270 (wd hw 280 rfl)) (mvT hZ270 (wd hw 281 rfl)) (mvT hZ270 (wd hw 282 rfl)) (by decide) (StrChars.Road.backV (W := 1) hZ270 (fun d hd => hw d (own_w_words d hd)) (kI := 4) (wd hw 29 rfl) (cs := ([32, 98, 121, 116, 101, 115] : List Int32)) (bs := (([32, 98, 121, 116, 101, 115] : List Int32).map (fun c => c.toInt8.toInt32))) (n := 6) g_b282 Z347 c351 c352 c353 V347 (uS.ext c354.2) uP rfl rfl (by decide) (by decide) own_hpS rfl (by decide) (by decide)) (g := (mkF m 446 #[vi p0, vr nx_1, vr nm_1, vl qa, us, vi ng, vi nd, vi vT, vr b11, uu] [(.ref b287), (.ref b282), (.ref b282)])) rfl (by rw [hml]; rfl) (Steps.refl _) (a := b282) (argsL := [(.ref b287)]) (rest := [(.ref b282)]) (lenOf pd_28 rfl) rfl (by show 2 * 0 + _ ≤ _; exact Nat.le_of_eq rfl) (hb hby at_446) (fun _ _ => ⟨rfl, e347, (by decide : 19 + 1 ≤ _), (by decide : 3272 + 6 ≤ _)⟩)
  dsimp only [Pt.U, Pt.locs, Pt.cells, Pt.slots] at X350 lq350 yq350 zq350 st350 hQ350
  have X350 := own_reb X350 lq350 yq350 zq350
  obtain ⟨rfl, Nq350, Kq350, fE350, fC350, t350, kt350, u1350, u2350, u3350, fV350, fK350⟩ := hQ350
  have N350 := Fr.app N347 Nq350
  have c355 := ((((((((c272.ext E282).ext E287).wr W303).wr W311).wr W320).wr W329).wr W338).wr W347)
  have ne_nx_1_t350 : nx_1 ≠ t350 := Nat.ne_of_lt (Nat.lt_of_lt_of_le c355.lt u2350)
  have c356 := (c342.wr W347)
  have ne_nm_1_t350 : nm_1 ≠ t350 := Nat.ne_of_lt (Nat.lt_of_lt_of_le c356.lt u2350)
  have c357 := (c345.other W347 ne_nt_1_b287)
  have ne_nt_1_t350 : nt_1 ≠ t350 := Nat.ne_of_lt (Nat.lt_of_lt_of_le c357.lt u2350)
  have c358 := ((((((((c277.ext E282).ext E287).wr W303).wr W311).wr W320).wr W329).wr W338).wr W347)
  have ne_b11_t350 : b11 ≠ t350 := Nat.ne_of_lt (Nat.lt_of_lt_of_le c358.lt u2350)
  have c359 := ((((((((((V257.keep Kq260 (ninS (Ne.symm ne_b11_b13) nin0)).ext E270).ext E282).ext E287).other W303 ne_b13_b287).other W311 ne_b13_b287).other W320 ne_b13_b287).other W329 ne_b13_b287).other W338 ne_b13_b287).other W347 ne_b13_b287)
  have ne_b13_t350 : b13 ≠ t350 := Nat.ne_of_lt (Nat.lt_of_lt_of_le c359.lt u2350)
  have c360 := ((((((((c280.ext E282).ext E287).other W303 ne_t260_b287).other W311 ne_t260_b287).other W320 ne_t260_b287).other W329 ne_t260_b287).other W338 ne_t260_b287).other W347 ne_t260_b287)
  have ne_t260_t350 : t260 ≠ t350 := Nat.ne_of_lt (Nat.lt_of_lt_of_le c360.lt u2350)
  have c361 := ((((((((fE270.ext E282).ext E287).wr W303).wr W311).wr W320).wr W329).wr W338).wr W347)
  have ne_b270_t350 : b270 ≠ t350 := Nat.ne_of_lt (Nat.lt_of_lt_of_le c361.lt u2350)
  have c362 := ((((((((fK270.ext E282).ext E287).other W303 ne_t270_b287).other W311 ne_t270_b287).other W320 ne_t270_b287).other W329 ne_t270_b287).other W338 ne_t270_b287).other W347 ne_t270_b287)
  have ne_t270_t350 : t270 ≠ t350 := Nat.ne_of_lt (Nat.lt_of_lt_of_le c362.lt u2350)
  have ne_b282_t350 : b282 ≠ t350 := Nat.ne_of_lt (Nat.lt_of_lt_of_le c351.lt u2350)
  have ne_b287_t350 : b287 ≠ t350 := Nat.ne_of_lt (Nat.lt_of_lt_of_le V347.lt u2350)
  have sz_t350 : h0.size ≤ t350 := Nat.le_trans K347.1 u2350
  have c363 := (Safe.wr W347 (Safe.exa hZ270.alike c348 (by decide) (by decide)) hCe340 (Safe.wr W338 (Safe.exa hZ270.alike c339 (by decide) (by decide)) hCe331 (Safe.wr W329 (Safe.exa hZ270.alike c330 (by decide) (by decide)) hCe322 (Safe.wr W320 (Safe.exa hZ270.alike c321 (by decide) (by decide)) hCe313 (Safe.wr W311 (Safe.exa hZ270.alike c312 (by decide) (by decide)) hCe304 (Safe.wr W303 (Safe.exa hZ270.alike AX287 (by decide) (by decide)) hCe296 (Safe.ext E287 hCe286 sf282)))))))
  have Re364 := Re349.trans (CHr.keep Kq350 (allS c363 all0) hCe349)
  have hCe364 := Re364.1
  have sf350 := Safe.keep Kq350 (allS c363 all0) hCe349 (Safe.new u2350)
  have K350 : Keep h0 T350.heap [] := K347.trans Kq350 (allS (Or.inr sz_b282) all0)
  have Z350 : n0 ≤ T350.heap.size := Nat.le_trans Z347 Kq350.1
  have hk350 : _ ≤ T350.heap.size := Nat.le_trans hk347 Kq350.1
  obtain ⟨b365, T365, h365, kk365, t365, kc365, X365, e365, E365, hS365, hk365, hZ365, hown365, fE365, fC365, fV365, fK365, lta365, ltb365, CH365, -, SF365, st365⟩ := ldcCH X350 hx hZ270 hown270 (wd hw 306 rfl) (fun d hd => hw d (own_strAtoms d hd)) rfl hS270 hk350 (own_EW hw) (by decide) hCe364 (vs := [(vI 32), (vI 98), (vI 121), (vI 116), (vI 101), (vI 115)]) (z := (6 : Int32)) ⟨by decide, by decide⟩ (by decide) (by decide) (g := (mkF m 453 #[vi p0, vr nx_1, vr nm_1, vl qa, us, vi ng, vi nd, vi vT, vr b11, vr b282] [(.ref b282)])) rfl (hb hby at_453) (n := 24) (by decide) (by decide) (by decide) (by decide)
  have Re366 := Re364.trans CH365
  have hCe366 := Re366.1
  have c367 := ((((((((((c272.ext E282).ext E287).wr W303).wr W311).wr W320).wr W329).wr W338).wr W347).keep Kq350).ext E365)
  have nlnx_1_365 := SF365 nx_1 (Safe.exa hZ365.alike c367 (by decide) (by decide))
  have c368 := (((((((((c277.ext E282).ext E287).wr W303).wr W311).wr W320).wr W329).wr W338).wr W347).keep Kq350)
  have c369 := (CHr.safe CH365 c368.lt (Safe.keep Kq350 (allS c363 all0) hCe349 (Safe.wr W347 (Safe.exa hZ270.alike c348 (by decide) (by decide)) hCe340 (Safe.wr W338 (Safe.exa hZ270.alike c339 (by decide) (by decide)) hCe331 (Safe.wr W329 (Safe.exa hZ270.alike c330 (by decide) (by decide)) hCe322 (Safe.wr W320 (Safe.exa hZ270.alike c321 (by decide) (by decide)) hCe313 (Safe.wr W311 (Safe.exa hZ270.alike c312 (by decide) (by decide)) hCe304 (Safe.wr W303 (Safe.exa hZ270.alike AX287 (by decide) (by decide)) hCe296 (Safe.ext E287 hCe286 (Safe.ext E282 hCe271 c273))))))))))
  have nlb11_365 := SF365 b11 c369
  have c370 := ((((((((((c274.ext E282).ext E287).wr W303).wr W311).wr W320).wr W329).wr W338).wr W347).keep Kq350).ext E365)
  have nlb13_365 := SF365 b13 (Safe.exa hZ365.alike c370 (by decide) (by decide))
  have c371 := (((((((((c280.ext E282).ext E287).other W303 ne_t260_b287).other W311 ne_t260_b287).other W320 ne_t260_b287).other W329 ne_t260_b287).other W338 ne_t260_b287).other W347 ne_t260_b287).keep Kq350 (ninS ne_t260_b282 nin0))
  have c372 := (CHr.safe CH365 c371.lt (Safe.keep Kq350 (allS c363 all0) hCe349 (Safe.wr W347 (Safe.exa hZ270.alike c348 (by decide) (by decide)) hCe340 (Safe.wr W338 (Safe.exa hZ270.alike c339 (by decide) (by decide)) hCe331 (Safe.wr W329 (Safe.exa hZ270.alike c330 (by decide) (by decide)) hCe322 (Safe.wr W320 (Safe.exa hZ270.alike c321 (by decide) (by decide)) hCe313 (Safe.wr W311 (Safe.exa hZ270.alike c312 (by decide) (by decide)) hCe304 (Safe.wr W303 (Safe.exa hZ270.alike AX287 (by decide) (by decide)) hCe296 (Safe.ext E287 hCe286 (Safe.ext E282 hCe271 c275))))))))))
  have nlt260_365 := SF365 t260 c372
  have c373 := (CHr.safe CH365 fE350.lt (Safe.keep Kq350 (allS c363 all0) hCe349 c363))
  have nlb282_365 := SF365 b282 c373
  have c374 := (((c348.wr W347).keep Kq350).ext E365)
  have nlb287_365 := SF365 b287 (Safe.exa hZ365.alike c374 (by decide) (by decide))
  have c375 := (CHr.safe CH365 fK350.lt sf350)
  have nlt350_365 := SF365 t350 c375
  have K365 : Keep h0 h365 [] := K350.ext E365
  have Z365 : n0 ≤ h365.size := Nat.le_trans Z350 E365.1
  have c377 := (fE350.ext E365)
  have c378 := (fV350.ext E365)
  have c379 := (fC350.ext E365)
  have c380 := (fK350.ext E365)
  have c381 := ((c354.keep Kq350 (allS g_b282 all0)).ext E365)
  obtain ⟨cq376, kq376, q376a, q376b, q376c⟩ := isOf hZ365 e365 c377
  obtain ⟨_, _, ⟨T376, Lw376, kw376, nw376⟩, -, X376, ⟨Lc376, hQ376, lq376, yq376, zq376⟩, st376⟩ := X365.virtualBack hx (y := M43) (z := M43) hown365 (mvT hZ365 (wd hw 297 rfl)) (mvT hZ365 (wd hw 298 rfl)) (notFace_of_selects (args := #[]) (mvT hZ365 (wd hw 300 rfl))) (mvT hZ365 (wd hw 300 rfl)) (mvT hZ365 (wd hw 299 rfl)) (by decide) (StrChars.Road.eqW (W := 0) hZ365 (fun d hd => hw d (own_w_wordsEq d hd)) (kI := 4) (wd hw 29 rfl) c377 c378 c379 c380 (StrChars.Road.codOf (cs := ([32, 98, 121, 116, 101, 115] : List Int32)) (n := 6) rfl (fun c hc => (own_hpS c hc).2)) (own_up own_hpS) (Nat.le_of_ble_eq_true rfl) fE365 fV365 fC365 fK365 (StrChars.Road.codOf (cs := ([32, 98, 121, 116, 101, 115] : List Int32)) (n := 6) rfl (fun c hc => (own_hpS c hc).2)) (own_up own_hpS) (Nat.le_of_ble_eq_true rfl) (uS.ext c381.2) uP (by decide) (by decide)) q376a q376c (g := (mkF m 455 #[vi p0, vr nx_1, vr nm_1, vl qa, us, vi ng, vi nd, vi vT, vr b11, vr b282] [(.ref b365), (.ref b282)])) rfl (by rw [hml]; rfl) (Steps.refl _) (argsL := [(.ref b365)]) (rest := []) (lenOf pd_29 rfl) rfl (by show 2 * 0 + _ ≤ _; exact Nat.le_of_eq rfl) (hb hby at_455) (fun _ _ => ⟨rfl, e365, (by decide : 22 + 0 ≤ _), (by decide : 3306 + 0 ≤ _)⟩)
  dsimp only [Pt.U, Pt.locs, Pt.cells, Pt.slots] at X376 lq376 yq376 zq376 st376 hQ376
  have X376 := own_reb X376 lq376 yq376 zq376
  obtain ⟨ho376, rfl, eh376⟩ := hQ376; obtain rfl := own_eqv ho376
  have N376 := Fr.app N350 (Fr.nil n0)
  have c383 := (((c342.wr W347).keep Kq350).ext E365)
  have c384 := (((c343.other W347 (Or.inl ne_nm_1_b287)).keep Kq350 (ninS ne_nm_1_b282 nin0)).ext E365)
  have c385 := (((c344.other W347 (Or.inl ne_nm_1_b287)).keep Kq350 (ninS ne_nm_1_b282 nin0)).ext E365)
  have c386 := (((c345.other W347 ne_nt_1_b287).keep Kq350 (ninS ne_nt_1_b282 nin0)).ext E365)
  obtain ⟨T382, X382, e382, st382⟩ := own_minus X376 hx hZ365 hown365 hw eh376 c383 c384 c385 c386 (own_csb N sg d) uLe (uS.ext c381.2) uP (uF.ext c381.2) uR_ hby (fun q => own_c27 (uNg1 q)) (own_il (by decide)) (Ls := #[vi p0, vr nx_1, vr nm_1, vl qa, us, vi ng, vi nd, vi vT, vr b11, vr b282]) (by rw [hml]; rfl) rfl rfl (by decide) (by decide) (by decide) (by decide)
  obtain ⟨_, _, ⟨T387, Lw387, kw387, nw387⟩, -, X387, ⟨Lc387, hQ387, lq387, yq387, zq387⟩, st387⟩ := Jvm.LawKit.callS X382 hx (y := M40) hown365 (mvT hZ365 (wd hw 307 rfl)) (mvT hZ365 (wd hw 308 rfl)) (mvT hZ365 (wd hw 252 rfl)) (mvT hZ365 (wd hw 309 rfl)) (by decide) (backOf (W := 0) (rmDg l Z a0 hw [] nm_1 vT qa nd (0 : Int32) (1 : Int64) zc fm N sg d nt_1 nk_1 (27 + (d + sg) - 1 - 0) (own_dch qa (1 : Int64)) h365 n0 Z365 c381 uS uP uF uR_ uLe c383 c385 c384 c386 (by decide) rfl (uDg 0 (by decide)).1 (uDg 0 (by decide)).2.1 (uDg 0 (by decide)).2.2) hZ365 (wd hw 309 rfl) (wd hw 252 rfl) (by decide) (by decide)) (g := (mkF m 490 #[vi p0, vr nx_1, vr nm_1, vl qa, us, vi ng, vi nd, vi vT, vr b11, vr b282] [(.long (1 : Int64)), z0, (.int nd), (.long qa), (.int vT), (.ref nm_1)])) rfl (by rw [hml]; rfl) (argsL := [(.ref nm_1), (.int vT), (.long qa), (.int nd), z0, (.long (1 : Int64))]) (rest := []) (lenOf pd_30 rfl) rfl (by show 2 * 0 + _ ≤ _; exact Nat.le_of_eq rfl) (hb hby at_490) (fun _ _ => ⟨rfl, e382, (by decide : 22 + 0 ≤ _), (by decide : 3306 + 0 ≤ _)⟩)
  dsimp only [Pt.U, Pt.locs, Pt.cells, Pt.slots] at X387 lq387 yq387 zq387 st387 hQ387
  have X387 := own_reb X387 lq387 yq387 zq387
  obtain ⟨rfl, Nq387, eh387⟩ := hQ387
  have N387 := Fr.app N376 Nq387
  obtain ⟨_, _, ⟨T388, Lw388, kw388, nw388⟩, -, X388, ⟨Lc388, hQ388, lq388, yq388, zq388⟩, st388⟩ := Jvm.LawKit.callS X387 hx (y := M40) hown365 (mvT hZ365 (wd hw 307 rfl)) (mvT hZ365 (wd hw 308 rfl)) (mvT hZ365 (wd hw 252 rfl)) (mvT hZ365 (wd hw 309 rfl)) (by decide) (backOf (W := 0) (rmDg l Z a0 hw [] nm_1 vT qa nd (1 : Int32) (10 : Int64) zc fm N sg d nt_1 nk_1 (27 + (d + sg) - 1 - 1) (own_dch qa (10 : Int64)) h365 n0 Z365 c381 uS uP uF uR_ uLe c383 c385 c384 c386 (by decide) rfl (uDg 1 (by decide)).1 (uDg 1 (by decide)).2.1 (uDg 1 (by decide)).2.2) hZ365 (wd hw 309 rfl) (wd hw 252 rfl) (by decide) (by decide)) (g := (mkF m 506 #[vi p0, vr nx_1, vr nm_1, vl qa, us, vi ng, vi nd, vi vT, vr b11, vr b282] [(.long (10 : Int64)), (vI 1), (.int nd), (.long qa), (.int vT), (.ref nm_1)])) rfl (by rw [hml]; rfl) (argsL := [(.ref nm_1), (.int vT), (.long qa), (.int nd), (vI 1), (.long (10 : Int64))]) (rest := []) (lenOf pd_30 rfl) rfl (by show 2 * 0 + _ ≤ _; exact Nat.le_of_eq rfl) (hb hby at_506) (fun _ _ => ⟨rfl, eh387, (by decide : 22 + 0 ≤ _), (by decide : 3306 + 0 ≤ _)⟩)
  dsimp only [Pt.U, Pt.locs, Pt.cells, Pt.slots] at X388 lq388 yq388 zq388 st388 hQ388
  have X388 := own_reb X388 lq388 yq388 zq388
  obtain ⟨rfl, Nq388, eh388⟩ := hQ388
  have N388 := Fr.app N387 Nq388
  obtain ⟨_, _, ⟨T389, Lw389, kw389, nw389⟩, -, X389, ⟨Lc389, hQ389, lq389, yq389, zq389⟩, st389⟩ := Jvm.LawKit.callS X388 hx (y := M40) hown365 (mvT hZ365 (wd hw 307 rfl)) (mvT hZ365 (wd hw 308 rfl)) (mvT hZ365 (wd hw 252 rfl)) (mvT hZ365 (wd hw 309 rfl)) (by decide) (backOf (W := 0) (rmDg l Z a0 hw [] nm_1 vT qa nd (2 : Int32) (100 : Int64) zc fm N sg d nt_1 nk_1 (27 + (d + sg) - 1 - 2) (own_dch qa (100 : Int64)) h365 n0 Z365 c381 uS uP uF uR_ uLe c383 c385 c384 c386 (by decide) rfl (uDg 2 (by decide)).1 (uDg 2 (by decide)).2.1 (uDg 2 (by decide)).2.2) hZ365 (wd hw 309 rfl) (wd hw 252 rfl) (by decide) (by decide)) (g := (mkF m 522 #[vi p0, vr nx_1, vr nm_1, vl qa, us, vi ng, vi nd, vi vT, vr b11, vr b282] [(.long (100 : Int64)), (vI 2), (.int nd), (.long qa), (.int vT), (.ref nm_1)])) rfl (by rw [hml]; rfl) (argsL := [(.ref nm_1), (.int vT), (.long qa), (.int nd), (vI 2), (.long (100 : Int64))]) (rest := []) (lenOf pd_30 rfl) rfl (by show 2 * 0 + _ ≤ _; exact Nat.le_of_eq rfl) (hb hby at_522) (fun _ _ => ⟨rfl, eh388, (by decide : 22 + 0 ≤ _), (by decide : 3306 + 0 ≤ _)⟩)
  dsimp only [Pt.U, Pt.locs, Pt.cells, Pt.slots] at X389 lq389 yq389 zq389 st389 hQ389
  have X389 := own_reb X389 lq389 yq389 zq389
  obtain ⟨rfl, Nq389, eh389⟩ := hQ389
  have N389 := Fr.app N388 Nq389
  obtain ⟨_, _, ⟨T390, Lw390, kw390, nw390⟩, -, X390, ⟨Lc390, hQ390, lq390, yq390, zq390⟩, st390⟩ := Jvm.LawKit.callS X389 hx (y := M40) hown365 (mvT hZ365 (wd hw 307 rfl)) (mvT hZ365 (wd hw 308 rfl)) (mvT hZ365 (wd hw 252 rfl)) (mvT hZ365 (wd hw 309 rfl)) (by decide) (backOf (W := 0) (rmDg l Z a0 hw [] nm_1 vT qa nd (3 : Int32) (1000 : Int64) zc fm N sg d nt_1 nk_1 (27 + (d + sg) - 1 - 3) (own_dch qa (1000 : Int64)) h365 n0 Z365 c381 uS uP uF uR_ uLe c383 c385 c384 c386 (by decide) rfl (uDg 3 (by decide)).1 (uDg 3 (by decide)).2.1 (uDg 3 (by decide)).2.2) hZ365 (wd hw 309 rfl) (wd hw 252 rfl) (by decide) (by decide)) (g := (mkF m 538 #[vi p0, vr nx_1, vr nm_1, vl qa, us, vi ng, vi nd, vi vT, vr b11, vr b282] [(.long (1000 : Int64)), (vI 3), (.int nd), (.long qa), (.int vT), (.ref nm_1)])) rfl (by rw [hml]; rfl) (argsL := [(.ref nm_1), (.int vT), (.long qa), (.int nd), (vI 3), (.long (1000 : Int64))]) (rest := []) (lenOf pd_30 rfl) rfl (by show 2 * 0 + _ ≤ _; exact Nat.le_of_eq rfl) (hb hby at_538) (fun _ _ => ⟨rfl, eh389, (by decide : 22 + 0 ≤ _), (by decide : 3306 + 0 ≤ _)⟩)
  dsimp only [Pt.U, Pt.locs, Pt.cells, Pt.slots] at X390 lq390 yq390 zq390 st390 hQ390
  have X390 := own_reb X390 lq390 yq390 zq390
  obtain ⟨rfl, Nq390, eh390⟩ := hQ390
  have N390 := Fr.app N389 Nq390
  obtain ⟨_, _, ⟨T391, Lw391, kw391, nw391⟩, -, X391, ⟨Lc391, hQ391, lq391, yq391, zq391⟩, st391⟩ := Jvm.LawKit.callS X390 hx (y := M40) hown365 (mvT hZ365 (wd hw 307 rfl)) (mvT hZ365 (wd hw 308 rfl)) (mvT hZ365 (wd hw 252 rfl)) (mvT hZ365 (wd hw 309 rfl)) (by decide) (backOf (W := 0) (rmDg l Z a0 hw [] nm_1 vT qa nd (4 : Int32) (10000 : Int64) zc fm N sg d nt_1 nk_1 (27 + (d + sg) - 1 - 4) (own_dch qa (10000 : Int64)) h365 n0 Z365 c381 uS uP uF uR_ uLe c383 c385 c384 c386 (by decide) rfl (uDg 4 (by decide)).1 (uDg 4 (by decide)).2.1 (uDg 4 (by decide)).2.2) hZ365 (wd hw 309 rfl) (wd hw 252 rfl) (by decide) (by decide)) (g := (mkF m 554 #[vi p0, vr nx_1, vr nm_1, vl qa, us, vi ng, vi nd, vi vT, vr b11, vr b282] [(.long (10000 : Int64)), (vI 4), (.int nd), (.long qa), (.int vT), (.ref nm_1)])) rfl (by rw [hml]; rfl) (argsL := [(.ref nm_1), (.int vT), (.long qa), (.int nd), (vI 4), (.long (10000 : Int64))]) (rest := []) (lenOf pd_30 rfl) rfl (by show 2 * 0 + _ ≤ _; exact Nat.le_of_eq rfl) (hb hby at_554) (fun _ _ => ⟨rfl, eh390, (by decide : 22 + 0 ≤ _), (by decide : 3306 + 0 ≤ _)⟩)
  dsimp only [Pt.U, Pt.locs, Pt.cells, Pt.slots] at X391 lq391 yq391 zq391 st391 hQ391
  have X391 := own_reb X391 lq391 yq391 zq391
  obtain ⟨rfl, Nq391, eh391⟩ := hQ391
  have N391 := Fr.app N390 Nq391
  obtain ⟨_, _, ⟨T392, Lw392, kw392, nw392⟩, -, X392, ⟨Lc392, hQ392, lq392, yq392, zq392⟩, st392⟩ := Jvm.LawKit.callS X391 hx (y := M40) hown365 (mvT hZ365 (wd hw 307 rfl)) (mvT hZ365 (wd hw 308 rfl)) (mvT hZ365 (wd hw 252 rfl)) (mvT hZ365 (wd hw 309 rfl)) (by decide) (backOf (W := 0) (rmDg l Z a0 hw [] nm_1 vT qa nd (5 : Int32) (100000 : Int64) zc fm N sg d nt_1 nk_1 (27 + (d + sg) - 1 - 5) (own_dch qa (100000 : Int64)) h365 n0 Z365 c381 uS uP uF uR_ uLe c383 c385 c384 c386 (by decide) rfl (uDg 5 (by decide)).1 (uDg 5 (by decide)).2.1 (uDg 5 (by decide)).2.2) hZ365 (wd hw 309 rfl) (wd hw 252 rfl) (by decide) (by decide)) (g := (mkF m 570 #[vi p0, vr nx_1, vr nm_1, vl qa, us, vi ng, vi nd, vi vT, vr b11, vr b282] [(.long (100000 : Int64)), (vI 5), (.int nd), (.long qa), (.int vT), (.ref nm_1)])) rfl (by rw [hml]; rfl) (argsL := [(.ref nm_1), (.int vT), (.long qa), (.int nd), (vI 5), (.long (100000 : Int64))]) (rest := []) (lenOf pd_30 rfl) rfl (by show 2 * 0 + _ ≤ _; exact Nat.le_of_eq rfl) (hb hby at_570) (fun _ _ => ⟨rfl, eh391, (by decide : 22 + 0 ≤ _), (by decide : 3306 + 0 ≤ _)⟩)
  dsimp only [Pt.U, Pt.locs, Pt.cells, Pt.slots] at X392 lq392 yq392 zq392 st392 hQ392
  have X392 := own_reb X392 lq392 yq392 zq392
  obtain ⟨rfl, Nq392, eh392⟩ := hQ392
  have N392 := Fr.app N391 Nq392
  obtain ⟨_, _, ⟨T393, Lw393, kw393, nw393⟩, -, X393, ⟨Lc393, hQ393, lq393, yq393, zq393⟩, st393⟩ := Jvm.LawKit.callS X392 hx (y := M40) hown365 (mvT hZ365 (wd hw 307 rfl)) (mvT hZ365 (wd hw 308 rfl)) (mvT hZ365 (wd hw 252 rfl)) (mvT hZ365 (wd hw 309 rfl)) (by decide) (backOf (W := 0) (rmDg l Z a0 hw [] nm_1 vT qa nd (6 : Int32) (1000000 : Int64) zc fm N sg d nt_1 nk_1 (27 + (d + sg) - 1 - 6) (own_dch qa (1000000 : Int64)) h365 n0 Z365 c381 uS uP uF uR_ uLe c383 c385 c384 c386 (by decide) rfl (uDg 6 (by decide)).1 (uDg 6 (by decide)).2.1 (uDg 6 (by decide)).2.2) hZ365 (wd hw 309 rfl) (wd hw 252 rfl) (by decide) (by decide)) (g := (mkF m 587 #[vi p0, vr nx_1, vr nm_1, vl qa, us, vi ng, vi nd, vi vT, vr b11, vr b282] [(.long (1000000 : Int64)), (vI 6), (.int nd), (.long qa), (.int vT), (.ref nm_1)])) rfl (by rw [hml]; rfl) (argsL := [(.ref nm_1), (.int vT), (.long qa), (.int nd), (vI 6), (.long (1000000 : Int64))]) (rest := []) (lenOf pd_30 rfl) rfl (by show 2 * 0 + _ ≤ _; exact Nat.le_of_eq rfl) (hb hby at_587) (fun _ _ => ⟨rfl, eh392, (by decide : 22 + 0 ≤ _), (by decide : 3306 + 0 ≤ _)⟩)
  dsimp only [Pt.U, Pt.locs, Pt.cells, Pt.slots] at X393 lq393 yq393 zq393 st393 hQ393
  have X393 := own_reb X393 lq393 yq393 zq393
  obtain ⟨rfl, Nq393, eh393⟩ := hQ393
  have N393 := Fr.app N392 Nq393
  obtain ⟨_, _, ⟨T394, Lw394, kw394, nw394⟩, -, X394, ⟨Lc394, hQ394, lq394, yq394, zq394⟩, st394⟩ := Jvm.LawKit.callS X393 hx (y := M40) hown365 (mvT hZ365 (wd hw 307 rfl)) (mvT hZ365 (wd hw 308 rfl)) (mvT hZ365 (wd hw 252 rfl)) (mvT hZ365 (wd hw 309 rfl)) (by decide) (backOf (W := 0) (rmDg l Z a0 hw [] nm_1 vT qa nd (7 : Int32) (10000000 : Int64) zc fm N sg d nt_1 nk_1 (27 + (d + sg) - 1 - 7) (own_dch qa (10000000 : Int64)) h365 n0 Z365 c381 uS uP uF uR_ uLe c383 c385 c384 c386 (by decide) rfl (uDg 7 (by decide)).1 (uDg 7 (by decide)).2.1 (uDg 7 (by decide)).2.2) hZ365 (wd hw 309 rfl) (wd hw 252 rfl) (by decide) (by decide)) (g := (mkF m 604 #[vi p0, vr nx_1, vr nm_1, vl qa, us, vi ng, vi nd, vi vT, vr b11, vr b282] [(.long (10000000 : Int64)), (vI 7), (.int nd), (.long qa), (.int vT), (.ref nm_1)])) rfl (by rw [hml]; rfl) (argsL := [(.ref nm_1), (.int vT), (.long qa), (.int nd), (vI 7), (.long (10000000 : Int64))]) (rest := []) (lenOf pd_30 rfl) rfl (by show 2 * 0 + _ ≤ _; exact Nat.le_of_eq rfl) (hb hby at_604) (fun _ _ => ⟨rfl, eh393, (by decide : 22 + 0 ≤ _), (by decide : 3306 + 0 ≤ _)⟩)
  dsimp only [Pt.U, Pt.locs, Pt.cells, Pt.slots] at X394 lq394 yq394 zq394 st394 hQ394
  have X394 := own_reb X394 lq394 yq394 zq394
  obtain ⟨rfl, Nq394, eh394⟩ := hQ394
  have N394 := Fr.app N393 Nq394
  obtain ⟨_, _, ⟨T395, Lw395, kw395, nw395⟩, -, X395, ⟨Lc395, hQ395, lq395, yq395, zq395⟩, st395⟩ := Jvm.LawKit.callS X394 hx (y := M40) hown365 (mvT hZ365 (wd hw 307 rfl)) (mvT hZ365 (wd hw 308 rfl)) (mvT hZ365 (wd hw 252 rfl)) (mvT hZ365 (wd hw 309 rfl)) (by decide) (backOf (W := 0) (rmDg l Z a0 hw [] nm_1 vT qa nd (8 : Int32) (100000000 : Int64) zc fm N sg d nt_1 nk_1 (27 + (d + sg) - 1 - 8) (own_dch qa (100000000 : Int64)) h365 n0 Z365 c381 uS uP uF uR_ uLe c383 c385 c384 c386 (by decide) rfl (uDg 8 (by decide)).1 (uDg 8 (by decide)).2.1 (uDg 8 (by decide)).2.2) hZ365 (wd hw 309 rfl) (wd hw 252 rfl) (by decide) (by decide)) (g := (mkF m 621 #[vi p0, vr nx_1, vr nm_1, vl qa, us, vi ng, vi nd, vi vT, vr b11, vr b282] [(.long (100000000 : Int64)), (vI 8), (.int nd), (.long qa), (.int vT), (.ref nm_1)])) rfl (by rw [hml]; rfl) (argsL := [(.ref nm_1), (.int vT), (.long qa), (.int nd), (vI 8), (.long (100000000 : Int64))]) (rest := []) (lenOf pd_30 rfl) rfl (by show 2 * 0 + _ ≤ _; exact Nat.le_of_eq rfl) (hb hby at_621) (fun _ _ => ⟨rfl, eh394, (by decide : 22 + 0 ≤ _), (by decide : 3306 + 0 ≤ _)⟩)
  dsimp only [Pt.U, Pt.locs, Pt.cells, Pt.slots] at X395 lq395 yq395 zq395 st395 hQ395
  have X395 := own_reb X395 lq395 yq395 zq395
  obtain ⟨rfl, Nq395, eh395⟩ := hQ395
  have N395 := Fr.app N394 Nq395
  obtain ⟨_, _, ⟨T396, Lw396, kw396, nw396⟩, -, X396, ⟨Lc396, hQ396, lq396, yq396, zq396⟩, st396⟩ := Jvm.LawKit.callS X395 hx (y := M40) hown365 (mvT hZ365 (wd hw 307 rfl)) (mvT hZ365 (wd hw 308 rfl)) (mvT hZ365 (wd hw 252 rfl)) (mvT hZ365 (wd hw 309 rfl)) (by decide) (backOf (W := 0) (rmDg l Z a0 hw [] nm_1 vT qa nd (9 : Int32) (1000000000 : Int64) zc fm N sg d nt_1 nk_1 (27 + (d + sg) - 1 - 9) (own_dch qa (1000000000 : Int64)) h365 n0 Z365 c381 uS uP uF uR_ uLe c383 c385 c384 c386 (by decide) rfl (uDg 9 (by decide)).1 (uDg 9 (by decide)).2.1 (uDg 9 (by decide)).2.2) hZ365 (wd hw 309 rfl) (wd hw 252 rfl) (by decide) (by decide)) (g := (mkF m 638 #[vi p0, vr nx_1, vr nm_1, vl qa, us, vi ng, vi nd, vi vT, vr b11, vr b282] [(.long (1000000000 : Int64)), (vI 9), (.int nd), (.long qa), (.int vT), (.ref nm_1)])) rfl (by rw [hml]; rfl) (argsL := [(.ref nm_1), (.int vT), (.long qa), (.int nd), (vI 9), (.long (1000000000 : Int64))]) (rest := []) (lenOf pd_30 rfl) rfl (by show 2 * 0 + _ ≤ _; exact Nat.le_of_eq rfl) (hb hby at_638) (fun _ _ => ⟨rfl, eh395, (by decide : 22 + 0 ≤ _), (by decide : 3306 + 0 ≤ _)⟩)
  dsimp only [Pt.U, Pt.locs, Pt.cells, Pt.slots] at X396 lq396 yq396 zq396 st396 hQ396
  have X396 := own_reb X396 lq396 yq396 zq396
  obtain ⟨rfl, Nq396, eh396⟩ := hQ396
  have N396 := Fr.app N395 Nq396
  obtain ⟨fs, hr, hrun, hended, en1, en2, en3, en4⟩ := X396.leaveW hS365 (own_hk eh396 hk365) (v := some (.int (nar .boolean (1 : Int32)))) (fun h => by rw [Bd.returns] at h; cases h)
  refine ⟨_, _, pre0 _ ?_, hrun, hended, _, _, rfl, ?_, own_chr (T := T396) hh eh396 (Re366.trans (CHv.at X396 hZ365 (own_EW hw) hCe366)), en1, en2, en3, en4.mono (by decide) (by decide)⟩
  · show SS p e below s₁ (mkF m 0 #[vi p0, uu, uu, uu, uu, uu, uu, uu, uu, uu] []) _
    refine XS.iloadN X0.here hx rfl (hb hby at_0) rfl ?_
    show SS p e below s₁ (mkF m 1 #[vi p0, uu, uu, uu, uu, uu, uu, uu, uu, uu] [(.int p0)]) _
    refine st1.trans ?_
    refine XS.astoreN X1.here hx rfl (hb hby at_4) rfl rfl (l' := #[vi p0, vr nx_1, uu, uu, uu, uu, uu, uu, uu, uu]) rfl ?_
    refine XS.aloadN X1.here hx rfl (hb hby at_5) rfl rfl ?_
    show SS p e below T1 (mkF m 6 #[vi p0, vr nx_1, uu, uu, uu, uu, uu, uu, uu, uu] [(.ref nx_1)]) _
    refine XS.ifnonnullYes X1.here hx rfl (pc0 := 6) (pc' := 11) rfl (hb hby at_6) rfl (by decide) (by decide) ?_
    refine XS.aloadN X1.here hx rfl (hb hby at_11) rfl rfl ?_
    show SS p e below T1 (mkF m 12 #[vi p0, vr nx_1, uu, uu, uu, uu, uu, uu, uu, uu] [(.ref nx_1)]) _
    refine st3.trans ?_
    refine XS.sipush X3.here hx rfl (hb hby at_15) ?_
    show SS p e below T3 (mkF m 18 #[vi p0, vr nx_1, uu, uu, uu, uu, uu, uu, uu, uu] [(vI 413), (vI 413)]) _
    refine XS.icmpNo X3.here hx rfl (hb hby at_18) rfl (teq (by decide : (413 : Int32) = (413 : Int32))).2 ?_
    refine XS.aloadN X3.here hx rfl (hb hby at_21) rfl rfl ?_
    show SS p e below T3 (mkF m 22 #[vi p0, vr nx_1, uu, uu, uu, uu, uu, uu, uu, uu] [(.ref nx_1)]) _
    refine st4.trans ?_
    refine XS.sipush X4.here hx rfl (hb hby at_25) ?_
    show SS p e below T4 (mkF m 28 #[vi p0, vr nx_1, uu, uu, uu, uu, uu, uu, uu, uu] [(vI 430), (vI 430)]) _
    refine XS.icmpYes X4.here hx rfl (pc0 := 28) (pc' := 33) rfl (hb hby at_28) rfl (teq (by decide : (430 : Int32) = (430 : Int32))).1 (by decide) (by decide) ?_
    refine XS.aloadN X4.here hx rfl (hb hby at_33) rfl rfl ?_
    show SS p e below T4 (mkF m 34 #[vi p0, vr nx_1, uu, uu, uu, uu, uu, uu, uu, uu] [(.ref nx_1)]) _
    refine st5.trans ?_
    refine XS.astoreN X5.here hx rfl (hb hby at_37) rfl rfl (l' := #[vi p0, vr nx_1, vr nm_1, uu, uu, uu, uu, uu, uu, uu]) rfl ?_
    refine XS.aloadN X5.here hx rfl (hb hby at_38) rfl rfl ?_
    show SS p e below T5 (mkF m 39 #[vi p0, vr nx_1, vr nm_1, uu, uu, uu, uu, uu, uu, uu] [(.ref nm_1)]) _
    refine XS.ifnonnullYes X5.here hx rfl (pc0 := 39) (pc' := 44) rfl (hb hby at_39) rfl (by decide) (by decide) ?_
    refine XS.iloadN X5.here hx rfl (hb hby at_44) rfl ?_
    show SS p e below T5 (mkF m 45 #[vi p0, vr nx_1, vr nm_1, uu, uu, uu, uu, uu, uu, uu] [(.int p0)]) _
    refine XS.i2l X5.here hx rfl (hb hby at_45) rfl ?_
    show SS p e below T5 (mkF m 46 #[vi p0, vr nx_1, vr nm_1, uu, uu, uu, uu, uu, uu, uu] [(.long (p0.toInt64))]) _
    refine st6 _ ?_
    show SS p e below T6 (mkF m 49 #[vi p0, vr nx_1, vr nm_1, uu, uu, uu, uu, uu, uu, uu] [(.long qa)]) _
    refine XS.lstoreN X6.here hx rfl (hb hby at_49) rfl (l' := #[vi p0, vr nx_1, vr nm_1, vl qa, us, uu, uu, uu, uu, uu]) rfl ?_
    refine XS.iloadN X6.here hx rfl (hb hby at_50) rfl ?_
    show SS p e below T6 (mkF m 51 #[vi p0, vr nx_1, vr nm_1, vl qa, us, uu, uu, uu, uu, uu] [(.int p0)]) _
    refine dia7 _ ?_
    rw [uNg]
    refine XS.istore X6.here hx rfl (hb hby at_59) rfl (l' := #[vi p0, vr nx_1, vr nm_1, vl qa, us, vi ng, uu, uu, uu, uu]) rfl ?_
    refine XS.lloadN X6.here hx rfl (hb hby at_61) rfl ?_
    show SS p e below T6 (mkF m 62 #[vi p0, vr nx_1, vr nm_1, vl qa, us, vi ng, uu, uu, uu, uu] [(.long qa)]) _
    refine st8 _ ?_
    refine XS.istore X8.here hx rfl (hb hby at_65) rfl (l' := #[vi p0, vr nx_1, vr nm_1, vl qa, us, vi ng, vi nd, uu, uu, uu]) rfl ?_
    refine XS.bipush X8.here hx rfl (hb hby at_67) ?_
    refine XS.iload X8.here hx rfl (hb hby at_69) rfl ?_
    refine XS.iadd X8.here hx rfl (hb hby at_71) rfl ?_
    refine XS.iload X8.here hx rfl (hb hby at_72) rfl ?_
    refine XS.iadd X8.here hx rfl (hb hby at_74) rfl ?_
    show SS p e below T8 (mkF m 75 #[vi p0, vr nx_1, vr nm_1, vl qa, us, vi ng, vi nd, uu, uu, uu] [(.int (((33 : Int32) + ng) + nd))]) _
    rw [uTot]
    refine XS.istore X8.here hx rfl (hb hby at_75) rfl (l' := #[vi p0, vr nx_1, vr nm_1, vl qa, us, vi ng, vi nd, vi vT, uu, uu]) rfl ?_
    refine XS.aloadN X8.here hx rfl (hb hby at_77) rfl rfl ?_
    show SS p e below T8 (mkF m 78 #[vi p0, vr nx_1, vr nm_1, vl qa, us, vi ng, vi nd, vi vT, uu, uu] [(.ref nm_1)]) _
    refine st9.trans ?_
    refine XS.iload X9.here hx rfl (hb hby at_81) rfl ?_
    show SS p e below T9 (mkF m 83 #[vi p0, vr nx_1, vr nm_1, vl qa, us, vi ng, vi nd, vi vT, uu, uu] [(.int vT), (.int (Int32.ofNat (own_cs N sg d).length))]) _
    refine XS.icmpYes X9.here hx rfl (pc0 := 83) (pc' := 88) rfl (hb hby at_83) rfl (teq (uTZ : (Int32.ofNat (own_cs N sg d).length) = vT)).1 (by decide) (by decide) ?_
    refine st11 _ ?_
    refine XS.dup X11.here hx rfl (hb hby at_91) rfl rfl ?_
    refine XS.bipush X11.here hx rfl (hb hby at_92) ?_
    refine st13 _ ?_
    refine XS.dup X13.here hx rfl (hb hby at_96) rfl rfl ?_
    refine XS.iconst X13.here hx rfl (hb hby at_97) ?_
    refine XS.aloadN X13.here hx rfl (hb hby at_98) rfl rfl ?_
    refine XS.iconst X13.here hx rfl (hb hby at_99) ?_
    show SS p e below T13 (mkF m 100 #[vi p0, vr nx_1, vr nm_1, vl qa, us, vi ng, vi nd, vi vT, uu, uu] [z0, (.ref nm_1), z0, (.ref b13), (.ref b13), (.ref b11), (.ref b11)]) _
    refine st18 _ ?_
    rw [(show (own_cs N sg d).getD 0 0 = (84 : Int32) from own_cp (by decide))]
    refine st24 _ ?_
    refine XS.dup X24.here hx rfl (hb hby at_104) rfl rfl ?_
    refine XS.iconst X24.here hx rfl (hb hby at_105) ?_
    refine XS.aloadN X24.here hx rfl (hb hby at_106) rfl rfl ?_
    refine XS.iconst X24.here hx rfl (hb hby at_107) ?_
    show SS p e below T24 (mkF m 108 #[vi p0, vr nx_1, vr nm_1, vl qa, us, vi ng, vi nd, vi vT, uu, uu] [(vI 1), (.ref nm_1), (vI 1), (.ref b13), (.ref b13), (.ref b11), (.ref b11)]) _
    refine st26 _ ?_
    rw [(show (own_cs N sg d).getD 1 0 = (104 : Int32) from own_cp (by decide))]
    refine st32 _ ?_
    refine XS.dup X32.here hx rfl (hb hby at_112) rfl rfl ?_
    refine XS.iconst X32.here hx rfl (hb hby at_113) ?_
    refine XS.aloadN X32.here hx rfl (hb hby at_114) rfl rfl ?_
    refine XS.iconst X32.here hx rfl (hb hby at_115) ?_
    show SS p e below T32 (mkF m 116 #[vi p0, vr nx_1, vr nm_1, vl qa, us, vi ng, vi nd, vi vT, uu, uu] [(vI 2), (.ref nm_1), (vI 2), (.ref b13), (.ref b13), (.ref b11), (.ref b11)]) _
    refine st35 _ ?_
    rw [(show (own_cs N sg d).getD 2 0 = (101 : Int32) from own_cp (by decide))]
    refine st41 _ ?_
    refine XS.dup X41.here hx rfl (hb hby at_120) rfl rfl ?_
    refine XS.iconst X41.here hx rfl (hb hby at_121) ?_
    refine XS.aloadN X41.here hx rfl (hb hby at_122) rfl rfl ?_
    refine XS.iconst X41.here hx rfl (hb hby at_123) ?_
    show SS p e below T41 (mkF m 124 #[vi p0, vr nx_1, vr nm_1, vl qa, us, vi ng, vi nd, vi vT, uu, uu] [(vI 3), (.ref nm_1), (vI 3), (.ref b13), (.ref b13), (.ref b11), (.ref b11)]) _
    refine st44 _ ?_
    rw [(show (own_cs N sg d).getD 3 0 = (32 : Int32) from own_cp (by decide))]
    refine st50 _ ?_
    refine XS.dup X50.here hx rfl (hb hby at_128) rfl rfl ?_
    refine XS.iconst X50.here hx rfl (hb hby at_129) ?_
    refine XS.aloadN X50.here hx rfl (hb hby at_130) rfl rfl ?_
    refine XS.iconst X50.here hx rfl (hb hby at_131) ?_
    show SS p e below T50 (mkF m 132 #[vi p0, vr nx_1, vr nm_1, vl qa, us, vi ng, vi nd, vi vT, uu, uu] [(vI 4), (.ref nm_1), (vI 4), (.ref b13), (.ref b13), (.ref b11), (.ref b11)]) _
    refine st53 _ ?_
    rw [(show (own_cs N sg d).getD 4 0 = (112 : Int32) from own_cp (by decide))]
    refine st59 _ ?_
    refine XS.dup X59.here hx rfl (hb hby at_136) rfl rfl ?_
    refine XS.iconst X59.here hx rfl (hb hby at_137) ?_
    refine XS.aloadN X59.here hx rfl (hb hby at_138) rfl rfl ?_
    refine XS.iconst X59.here hx rfl (hb hby at_139) ?_
    show SS p e below T59 (mkF m 140 #[vi p0, vr nx_1, vr nm_1, vl qa, us, vi ng, vi nd, vi vT, uu, uu] [(vI 5), (.ref nm_1), (vI 5), (.ref b13), (.ref b13), (.ref b11), (.ref b11)]) _
    refine st62 _ ?_
    rw [(show (own_cs N sg d).getD 5 0 = (97 : Int32) from own_cp (by decide))]
    refine st68 _ ?_
    refine XS.dup X68.here hx rfl (hb hby at_144) rfl rfl ?_
    refine XS.bipush X68.here hx rfl (hb hby at_145) ?_
    refine XS.aloadN X68.here hx rfl (hb hby at_147) rfl rfl ?_
    refine XS.bipush X68.here hx rfl (hb hby at_148) ?_
    show SS p e below T68 (mkF m 150 #[vi p0, vr nx_1, vr nm_1, vl qa, us, vi ng, vi nd, vi vT, uu, uu] [(vI 6), (.ref nm_1), (vI 6), (.ref b13), (.ref b13), (.ref b11), (.ref b11)]) _
    refine st71 _ ?_
    rw [(show (own_cs N sg d).getD 6 0 = (121 : Int32) from own_cp (by decide))]
    refine st77 _ ?_
    refine XS.dup X77.here hx rfl (hb hby at_154) rfl rfl ?_
    refine XS.bipush X77.here hx rfl (hb hby at_155) ?_
    refine XS.aloadN X77.here hx rfl (hb hby at_157) rfl rfl ?_
    refine XS.bipush X77.here hx rfl (hb hby at_158) ?_
    show SS p e below T77 (mkF m 160 #[vi p0, vr nx_1, vr nm_1, vl qa, us, vi ng, vi nd, vi vT, uu, uu] [(vI 7), (.ref nm_1), (vI 7), (.ref b13), (.ref b13), (.ref b11), (.ref b11)]) _
    refine st80 _ ?_
    rw [(show (own_cs N sg d).getD 7 0 = (108 : Int32) from own_cp (by decide))]
    refine st86 _ ?_
    refine XS.dup X86.here hx rfl (hb hby at_164) rfl rfl ?_
    refine XS.bipush X86.here hx rfl (hb hby at_165) ?_
    refine XS.aloadN X86.here hx rfl (hb hby at_167) rfl rfl ?_
    refine XS.bipush X86.here hx rfl (hb hby at_168) ?_
    show SS p e below T86 (mkF m 170 #[vi p0, vr nx_1, vr nm_1, vl qa, us, vi ng, vi nd, vi vT, uu, uu] [(vI 8), (.ref nm_1), (vI 8), (.ref b13), (.ref b13), (.ref b11), (.ref b11)]) _
    refine st89 _ ?_
    rw [(show (own_cs N sg d).getD 8 0 = (111 : Int32) from own_cp (by decide))]
    refine st95 _ ?_
    refine XS.dup X95.here hx rfl (hb hby at_174) rfl rfl ?_
    refine XS.bipush X95.here hx rfl (hb hby at_175) ?_
    refine XS.aloadN X95.here hx rfl (hb hby at_177) rfl rfl ?_
    refine XS.bipush X95.here hx rfl (hb hby at_178) ?_
    show SS p e below T95 (mkF m 180 #[vi p0, vr nx_1, vr nm_1, vl qa, us, vi ng, vi nd, vi vT, uu, uu] [(vI 9), (.ref nm_1), (vI 9), (.ref b13), (.ref b13), (.ref b11), (.ref b11)]) _
    refine st98 _ ?_
    rw [(show (own_cs N sg d).getD 9 0 = (97 : Int32) from own_cp (by decide))]
    refine st104 _ ?_
    refine XS.dup X104.here hx rfl (hb hby at_184) rfl rfl ?_
    refine XS.bipush X104.here hx rfl (hb hby at_185) ?_
    refine XS.aloadN X104.here hx rfl (hb hby at_187) rfl rfl ?_
    refine XS.bipush X104.here hx rfl (hb hby at_188) ?_
    show SS p e below T104 (mkF m 190 #[vi p0, vr nx_1, vr nm_1, vl qa, us, vi ng, vi nd, vi vT, uu, uu] [(vI 10), (.ref nm_1), (vI 10), (.ref b13), (.ref b13), (.ref b11), (.ref b11)]) _
    refine st107 _ ?_
    rw [(show (own_cs N sg d).getD 10 0 = (100 : Int32) from own_cp (by decide))]
    refine st113 _ ?_
    refine XS.dup X113.here hx rfl (hb hby at_194) rfl rfl ?_
    refine XS.bipush X113.here hx rfl (hb hby at_195) ?_
    refine XS.aloadN X113.here hx rfl (hb hby at_197) rfl rfl ?_
    refine XS.bipush X113.here hx rfl (hb hby at_198) ?_
    show SS p e below T113 (mkF m 200 #[vi p0, vr nx_1, vr nm_1, vl qa, us, vi ng, vi nd, vi vT, uu, uu] [(vI 11), (.ref nm_1), (vI 11), (.ref b13), (.ref b13), (.ref b11), (.ref b11)]) _
    refine st116 _ ?_
    rw [(show (own_cs N sg d).getD 11 0 = (32 : Int32) from own_cp (by decide))]
    refine st122 _ ?_
    refine XS.dup X122.here hx rfl (hb hby at_204) rfl rfl ?_
    refine XS.bipush X122.here hx rfl (hb hby at_205) ?_
    refine XS.aloadN X122.here hx rfl (hb hby at_207) rfl rfl ?_
    refine XS.bipush X122.here hx rfl (hb hby at_208) ?_
    show SS p e below T122 (mkF m 210 #[vi p0, vr nx_1, vr nm_1, vl qa, us, vi ng, vi nd, vi vT, uu, uu] [(vI 12), (.ref nm_1), (vI 12), (.ref b13), (.ref b13), (.ref b11), (.ref b11)]) _
    refine st125 _ ?_
    rw [(show (own_cs N sg d).getD 12 0 = (105 : Int32) from own_cp (by decide))]
    refine st131 _ ?_
    refine XS.dup X131.here hx rfl (hb hby at_214) rfl rfl ?_
    refine XS.bipush X131.here hx rfl (hb hby at_215) ?_
    refine XS.aloadN X131.here hx rfl (hb hby at_217) rfl rfl ?_
    refine XS.bipush X131.here hx rfl (hb hby at_218) ?_
    show SS p e below T131 (mkF m 220 #[vi p0, vr nx_1, vr nm_1, vl qa, us, vi ng, vi nd, vi vT, uu, uu] [(vI 13), (.ref nm_1), (vI 13), (.ref b13), (.ref b13), (.ref b11), (.ref b11)]) _
    refine st134 _ ?_
    rw [(show (own_cs N sg d).getD 13 0 = (115 : Int32) from own_cp (by decide))]
    refine st140 _ ?_
    refine XS.dup X140.here hx rfl (hb hby at_224) rfl rfl ?_
    refine XS.bipush X140.here hx rfl (hb hby at_225) ?_
    refine XS.aloadN X140.here hx rfl (hb hby at_227) rfl rfl ?_
    refine XS.bipush X140.here hx rfl (hb hby at_228) ?_
    show SS p e below T140 (mkF m 230 #[vi p0, vr nx_1, vr nm_1, vl qa, us, vi ng, vi nd, vi vT, uu, uu] [(vI 14), (.ref nm_1), (vI 14), (.ref b13), (.ref b13), (.ref b11), (.ref b11)]) _
    refine st143 _ ?_
    rw [(show (own_cs N sg d).getD 14 0 = (32 : Int32) from own_cp (by decide))]
    refine st149 _ ?_
    refine XS.dup X149.here hx rfl (hb hby at_234) rfl rfl ?_
    refine XS.bipush X149.here hx rfl (hb hby at_235) ?_
    refine XS.aloadN X149.here hx rfl (hb hby at_237) rfl rfl ?_
    refine XS.bipush X149.here hx rfl (hb hby at_238) ?_
    show SS p e below T149 (mkF m 240 #[vi p0, vr nx_1, vr nm_1, vl qa, us, vi ng, vi nd, vi vT, uu, uu] [(vI 15), (.ref nm_1), (vI 15), (.ref b13), (.ref b13), (.ref b11), (.ref b11)]) _
    refine st152 _ ?_
    rw [(show (own_cs N sg d).getD 15 0 = (108 : Int32) from own_cp (by decide))]
    refine st158 _ ?_
    refine XS.dup X158.here hx rfl (hb hby at_244) rfl rfl ?_
    refine XS.bipush X158.here hx rfl (hb hby at_245) ?_
    refine XS.aloadN X158.here hx rfl (hb hby at_247) rfl rfl ?_
    refine XS.bipush X158.here hx rfl (hb hby at_248) ?_
    show SS p e below T158 (mkF m 250 #[vi p0, vr nx_1, vr nm_1, vl qa, us, vi ng, vi nd, vi vT, uu, uu] [(vI 16), (.ref nm_1), (vI 16), (.ref b13), (.ref b13), (.ref b11), (.ref b11)]) _
    refine st161 _ ?_
    rw [(show (own_cs N sg d).getD 16 0 = (97 : Int32) from own_cp (by decide))]
    refine st167 _ ?_
    refine XS.dup X167.here hx rfl (hb hby at_254) rfl rfl ?_
    refine XS.bipush X167.here hx rfl (hb hby at_255) ?_
    refine XS.aloadN X167.here hx rfl (hb hby at_257) rfl rfl ?_
    refine XS.bipush X167.here hx rfl (hb hby at_258) ?_
    show SS p e below T167 (mkF m 260 #[vi p0, vr nx_1, vr nm_1, vl qa, us, vi ng, vi nd, vi vT, uu, uu] [(vI 17), (.ref nm_1), (vI 17), (.ref b13), (.ref b13), (.ref b11), (.ref b11)]) _
    refine st170 _ ?_
    rw [(show (own_cs N sg d).getD 17 0 = (114 : Int32) from own_cp (by decide))]
    refine st176 _ ?_
    refine XS.dup X176.here hx rfl (hb hby at_264) rfl rfl ?_
    refine XS.bipush X176.here hx rfl (hb hby at_265) ?_
    refine XS.aloadN X176.here hx rfl (hb hby at_267) rfl rfl ?_
    refine XS.bipush X176.here hx rfl (hb hby at_268) ?_
    show SS p e below T176 (mkF m 270 #[vi p0, vr nx_1, vr nm_1, vl qa, us, vi ng, vi nd, vi vT, uu, uu] [(vI 18), (.ref nm_1), (vI 18), (.ref b13), (.ref b13), (.ref b11), (.ref b11)]) _
    refine st179 _ ?_
    rw [(show (own_cs N sg d).getD 18 0 = (103 : Int32) from own_cp (by decide))]
    refine st185 _ ?_
    refine XS.dup X185.here hx rfl (hb hby at_274) rfl rfl ?_
    refine XS.bipush X185.here hx rfl (hb hby at_275) ?_
    refine XS.aloadN X185.here hx rfl (hb hby at_277) rfl rfl ?_
    refine XS.bipush X185.here hx rfl (hb hby at_278) ?_
    show SS p e below T185 (mkF m 280 #[vi p0, vr nx_1, vr nm_1, vl qa, us, vi ng, vi nd, vi vT, uu, uu] [(vI 19), (.ref nm_1), (vI 19), (.ref b13), (.ref b13), (.ref b11), (.ref b11)]) _
    refine st188 _ ?_
    rw [(show (own_cs N sg d).getD 19 0 = (101 : Int32) from own_cp (by decide))]
    refine st194 _ ?_
    refine XS.dup X194.here hx rfl (hb hby at_284) rfl rfl ?_
    refine XS.bipush X194.here hx rfl (hb hby at_285) ?_
    refine XS.aloadN X194.here hx rfl (hb hby at_287) rfl rfl ?_
    refine XS.bipush X194.here hx rfl (hb hby at_288) ?_
    show SS p e below T194 (mkF m 290 #[vi p0, vr nx_1, vr nm_1, vl qa, us, vi ng, vi nd, vi vT, uu, uu] [(vI 20), (.ref nm_1), (vI 20), (.ref b13), (.ref b13), (.ref b11), (.ref b11)]) _
    refine st197 _ ?_
    rw [(show (own_cs N sg d).getD 20 0 = (114 : Int32) from own_cp (by decide))]
    refine st203 _ ?_
    refine XS.dup X203.here hx rfl (hb hby at_294) rfl rfl ?_
    refine XS.bipush X203.here hx rfl (hb hby at_295) ?_
    refine XS.aloadN X203.here hx rfl (hb hby at_297) rfl rfl ?_
    refine XS.bipush X203.here hx rfl (hb hby at_298) ?_
    show SS p e below T203 (mkF m 300 #[vi p0, vr nx_1, vr nm_1, vl qa, us, vi ng, vi nd, vi vT, uu, uu] [(vI 21), (.ref nm_1), (vI 21), (.ref b13), (.ref b13), (.ref b11), (.ref b11)]) _
    refine st206 _ ?_
    rw [(show (own_cs N sg d).getD 21 0 = (32 : Int32) from own_cp (by decide))]
    refine st212 _ ?_
    refine XS.dup X212.here hx rfl (hb hby at_304) rfl rfl ?_
    refine XS.bipush X212.here hx rfl (hb hby at_305) ?_
    refine XS.aloadN X212.here hx rfl (hb hby at_307) rfl rfl ?_
    refine XS.bipush X212.here hx rfl (hb hby at_308) ?_
    show SS p e below T212 (mkF m 310 #[vi p0, vr nx_1, vr nm_1, vl qa, us, vi ng, vi nd, vi vT, uu, uu] [(vI 22), (.ref nm_1), (vI 22), (.ref b13), (.ref b13), (.ref b11), (.ref b11)]) _
    refine st215 _ ?_
    rw [(show (own_cs N sg d).getD 22 0 = (116 : Int32) from own_cp (by decide))]
    refine st221 _ ?_
    refine XS.dup X221.here hx rfl (hb hby at_314) rfl rfl ?_
    refine XS.bipush X221.here hx rfl (hb hby at_315) ?_
    refine XS.aloadN X221.here hx rfl (hb hby at_317) rfl rfl ?_
    refine XS.bipush X221.here hx rfl (hb hby at_318) ?_
    show SS p e below T221 (mkF m 320 #[vi p0, vr nx_1, vr nm_1, vl qa, us, vi ng, vi nd, vi vT, uu, uu] [(vI 23), (.ref nm_1), (vI 23), (.ref b13), (.ref b13), (.ref b11), (.ref b11)]) _
    refine st224 _ ?_
    rw [(show (own_cs N sg d).getD 23 0 = (104 : Int32) from own_cp (by decide))]
    refine st230 _ ?_
    refine XS.dup X230.here hx rfl (hb hby at_324) rfl rfl ?_
    refine XS.bipush X230.here hx rfl (hb hby at_325) ?_
    refine XS.aloadN X230.here hx rfl (hb hby at_327) rfl rfl ?_
    refine XS.bipush X230.here hx rfl (hb hby at_328) ?_
    show SS p e below T230 (mkF m 330 #[vi p0, vr nx_1, vr nm_1, vl qa, us, vi ng, vi nd, vi vT, uu, uu] [(vI 24), (.ref nm_1), (vI 24), (.ref b13), (.ref b13), (.ref b11), (.ref b11)]) _
    refine st233 _ ?_
    rw [(show (own_cs N sg d).getD 24 0 = (97 : Int32) from own_cp (by decide))]
    refine st239 _ ?_
    refine XS.dup X239.here hx rfl (hb hby at_334) rfl rfl ?_
    refine XS.bipush X239.here hx rfl (hb hby at_335) ?_
    refine XS.aloadN X239.here hx rfl (hb hby at_337) rfl rfl ?_
    refine XS.bipush X239.here hx rfl (hb hby at_338) ?_
    show SS p e below T239 (mkF m 340 #[vi p0, vr nx_1, vr nm_1, vl qa, us, vi ng, vi nd, vi vT, uu, uu] [(vI 25), (.ref nm_1), (vI 25), (.ref b13), (.ref b13), (.ref b11), (.ref b11)]) _
    refine st242 _ ?_
    rw [(show (own_cs N sg d).getD 25 0 = (110 : Int32) from own_cp (by decide))]
    refine st248 _ ?_
    refine XS.dup X248.here hx rfl (hb hby at_344) rfl rfl ?_
    refine XS.bipush X248.here hx rfl (hb hby at_345) ?_
    refine XS.aloadN X248.here hx rfl (hb hby at_347) rfl rfl ?_
    refine XS.bipush X248.here hx rfl (hb hby at_348) ?_
    show SS p e below T248 (mkF m 350 #[vi p0, vr nx_1, vr nm_1, vl qa, us, vi ng, vi nd, vi vT, uu, uu] [(vI 26), (.ref nm_1), (vI 26), (.ref b13), (.ref b13), (.ref b11), (.ref b11)]) _
    refine st251 _ ?_
    rw [(show (own_cs N sg d).getD 26 0 = (32 : Int32) from own_cp (by decide))]
    refine st257 _ ?_
    show SS p e below T257 (mkF m 354 #[vi p0, vr nx_1, vr nm_1, vl qa, us, vi ng, vi nd, vi vT, uu, uu] [(.ref b13), (.ref b11), (.ref b11)]) _
    refine st260.trans ?_
    refine XS.astore X260.here hx rfl (hb hby at_357) rfl rfl (l' := #[vi p0, vr nx_1, vr nm_1, vl qa, us, vi ng, vi nd, vi vT, vr b11, uu]) rfl ?_
    refine XS.aload X260.here hx rfl (hb hby at_359) rfl rfl ?_
    show SS p e below T260 (mkF m 361 #[vi p0, vr nx_1, vr nm_1, vl qa, us, vi ng, vi nd, vi vT, vr b11, uu] [(.ref b11)]) _
    refine st270 _ ?_
    show SS p e below T270 (mkF m 363 #[vi p0, vr nx_1, vr nm_1, vl qa, us, vi ng, vi nd, vi vT, vr b11, uu] [(.ref b270), (.ref b11)]) _
    refine st276.trans ?_
    show SS p e below T276 (mkF m 366 #[vi p0, vr nx_1, vr nm_1, vl qa, us, vi ng, vi nd, vi vT, vr b11, uu] [(.int (if ([84, 104, 101, 32, 112, 97, 121, 108, 111, 97, 100, 32, 105, 115, 32, 108, 97, 114, 103, 101, 114, 32, 116, 104, 97, 110, 32] : List Int32) = ([84, 104, 101, 32, 112, 97, 121, 108, 111, 97, 100, 32, 105, 115, 32, 108, 97, 114, 103, 101, 114, 32, 116, 104, 97, 110, 32] : List Int32) then (1 : Int32) else (0 : Int32)))]) _
    refine XS.ifYes X276.here hx rfl (pc0 := 366) (pc' := 371) rfl (hb hby at_366) rfl ((if0 _ _).trans (feq (by rw [if_pos rfl]; decide : ¬ ((if ([84, 104, 101, 32, 112, 97, 121, 108, 111, 97, 100, 32, 105, 115, 32, 108, 97, 114, 103, 101, 114, 32, 116, 104, 97, 110, 32] : List Int32) = ([84, 104, 101, 32, 112, 97, 121, 108, 111, 97, 100, 32, 105, 115, 32, 108, 97, 114, 103, 101, 114, 32, 116, 104, 97, 110, 32] : List Int32) then (1 : Int32) else (0 : Int32)) = (0 : Int32)))).2) (by decide) (by decide) ?_
    refine st282 _ ?_
    refine XS.dup X282.here hx rfl (hb hby at_374) rfl rfl ?_
    refine XS.bipush X282.here hx rfl (hb hby at_375) ?_
    refine st287 _ ?_
    refine XS.dup X287.here hx rfl (hb hby at_379) rfl rfl ?_
    refine XS.iconst X287.here hx rfl (hb hby at_380) ?_
    refine XS.aloadN X287.here hx rfl (hb hby at_381) rfl rfl ?_
    refine XS.iload X287.here hx rfl (hb hby at_382) rfl ?_
    refine XS.bipush X287.here hx rfl (hb hby at_384) ?_
    refine XS.isub X287.here hx rfl (hb hby at_386) rfl ?_
    show SS p e below T287 (mkF m 387 #[vi p0, vr nx_1, vr nm_1, vl qa, us, vi ng, vi nd, vi vT, vr b11, uu] [(.int (vT - (6 : Int32))), (.ref nm_1), z0, (.ref b287), (.ref b287), (.ref b282), (.ref b282)]) _
    refine st297 _ ?_
    rw [(show (own_cs N sg d).getD (27 + (d + sg) + 0) 0 = (32 : Int32) from own_cs2 (by decide))]
    refine st303 _ ?_
    refine XS.dup X303.here hx rfl (hb hby at_391) rfl rfl ?_
    refine XS.iconst X303.here hx rfl (hb hby at_392) ?_
    refine XS.aloadN X303.here hx rfl (hb hby at_393) rfl rfl ?_
    refine XS.iload X303.here hx rfl (hb hby at_394) rfl ?_
    refine XS.iconst X303.here hx rfl (hb hby at_396) ?_
    refine XS.isub X303.here hx rfl (hb hby at_397) rfl ?_
    show SS p e below T303 (mkF m 398 #[vi p0, vr nx_1, vr nm_1, vl qa, us, vi ng, vi nd, vi vT, vr b11, uu] [(.int (vT - (5 : Int32))), (.ref nm_1), (vI 1), (.ref b287), (.ref b287), (.ref b282), (.ref b282)]) _
    refine st305 _ ?_
    rw [(show (own_cs N sg d).getD (27 + (d + sg) + 1) 0 = (98 : Int32) from own_cs2 (by decide))]
    refine st311 _ ?_
    refine XS.dup X311.here hx rfl (hb hby at_402) rfl rfl ?_
    refine XS.iconst X311.here hx rfl (hb hby at_403) ?_
    refine XS.aloadN X311.here hx rfl (hb hby at_404) rfl rfl ?_
    refine XS.iload X311.here hx rfl (hb hby at_405) rfl ?_
    refine XS.iconst X311.here hx rfl (hb hby at_407) ?_
    refine XS.isub X311.here hx rfl (hb hby at_408) rfl ?_
    show SS p e below T311 (mkF m 409 #[vi p0, vr nx_1, vr nm_1, vl qa, us, vi ng, vi nd, vi vT, vr b11, uu] [(.int (vT - (4 : Int32))), (.ref nm_1), (vI 2), (.ref b287), (.ref b287), (.ref b282), (.ref b282)]) _
    refine st314 _ ?_
    rw [(show (own_cs N sg d).getD (27 + (d + sg) + 2) 0 = (121 : Int32) from own_cs2 (by decide))]
    refine st320 _ ?_
    refine XS.dup X320.here hx rfl (hb hby at_413) rfl rfl ?_
    refine XS.iconst X320.here hx rfl (hb hby at_414) ?_
    refine XS.aloadN X320.here hx rfl (hb hby at_415) rfl rfl ?_
    refine XS.iload X320.here hx rfl (hb hby at_416) rfl ?_
    refine XS.iconst X320.here hx rfl (hb hby at_418) ?_
    refine XS.isub X320.here hx rfl (hb hby at_419) rfl ?_
    show SS p e below T320 (mkF m 420 #[vi p0, vr nx_1, vr nm_1, vl qa, us, vi ng, vi nd, vi vT, vr b11, uu] [(.int (vT - (3 : Int32))), (.ref nm_1), (vI 3), (.ref b287), (.ref b287), (.ref b282), (.ref b282)]) _
    refine st323 _ ?_
    rw [(show (own_cs N sg d).getD (27 + (d + sg) + 3) 0 = (116 : Int32) from own_cs2 (by decide))]
    refine st329 _ ?_
    refine XS.dup X329.here hx rfl (hb hby at_424) rfl rfl ?_
    refine XS.iconst X329.here hx rfl (hb hby at_425) ?_
    refine XS.aloadN X329.here hx rfl (hb hby at_426) rfl rfl ?_
    refine XS.iload X329.here hx rfl (hb hby at_427) rfl ?_
    refine XS.iconst X329.here hx rfl (hb hby at_429) ?_
    refine XS.isub X329.here hx rfl (hb hby at_430) rfl ?_
    show SS p e below T329 (mkF m 431 #[vi p0, vr nx_1, vr nm_1, vl qa, us, vi ng, vi nd, vi vT, vr b11, uu] [(.int (vT - (2 : Int32))), (.ref nm_1), (vI 4), (.ref b287), (.ref b287), (.ref b282), (.ref b282)]) _
    refine st332 _ ?_
    rw [(show (own_cs N sg d).getD (27 + (d + sg) + 4) 0 = (101 : Int32) from own_cs2 (by decide))]
    refine st338 _ ?_
    refine XS.dup X338.here hx rfl (hb hby at_435) rfl rfl ?_
    refine XS.iconst X338.here hx rfl (hb hby at_436) ?_
    refine XS.aloadN X338.here hx rfl (hb hby at_437) rfl rfl ?_
    refine XS.iload X338.here hx rfl (hb hby at_438) rfl ?_
    refine XS.iconst X338.here hx rfl (hb hby at_440) ?_
    refine XS.isub X338.here hx rfl (hb hby at_441) rfl ?_
    show SS p e below T338 (mkF m 442 #[vi p0, vr nx_1, vr nm_1, vl qa, us, vi ng, vi nd, vi vT, vr b11, uu] [(.int (vT - (1 : Int32))), (.ref nm_1), (vI 5), (.ref b287), (.ref b287), (.ref b282), (.ref b282)]) _
    refine st341 _ ?_
    rw [(show (own_cs N sg d).getD (27 + (d + sg) + 5) 0 = (115 : Int32) from own_cs2 (by decide))]
    refine st347 _ ?_
    show SS p e below T347 (mkF m 446 #[vi p0, vr nx_1, vr nm_1, vl qa, us, vi ng, vi nd, vi vT, vr b11, uu] [(.ref b287), (.ref b282), (.ref b282)]) _
    refine st350.trans ?_
    refine XS.astore X350.here hx rfl (hb hby at_449) rfl rfl (l' := #[vi p0, vr nx_1, vr nm_1, vl qa, us, vi ng, vi nd, vi vT, vr b11, vr b282]) rfl ?_
    refine XS.aload X350.here hx rfl (hb hby at_451) rfl rfl ?_
    show SS p e below T350 (mkF m 453 #[vi p0, vr nx_1, vr nm_1, vl qa, us, vi ng, vi nd, vi vT, vr b11, vr b282] [(.ref b282)]) _
    refine st365 _ ?_
    show SS p e below T365 (mkF m 455 #[vi p0, vr nx_1, vr nm_1, vl qa, us, vi ng, vi nd, vi vT, vr b11, vr b282] [(.ref b365), (.ref b282)]) _
    refine st376.trans ?_
    show SS p e below T376 (mkF m 458 #[vi p0, vr nx_1, vr nm_1, vl qa, us, vi ng, vi nd, vi vT, vr b11, vr b282] [(.int (if ([32, 98, 121, 116, 101, 115] : List Int32) = ([32, 98, 121, 116, 101, 115] : List Int32) then (1 : Int32) else (0 : Int32)))]) _
    refine XS.ifYes X376.here hx rfl (pc0 := 458) (pc' := 463) rfl (hb hby at_458) rfl ((if0 _ _).trans (feq (by rw [if_pos rfl]; decide : ¬ ((if ([32, 98, 121, 116, 101, 115] : List Int32) = ([32, 98, 121, 116, 101, 115] : List Int32) then (1 : Int32) else (0 : Int32)) = (0 : Int32)))).2) (by decide) (by decide) ?_
    refine st382 _ ?_
    refine XS.aloadN X382.here hx rfl (hb hby at_482) rfl rfl ?_
    refine XS.iload X382.here hx rfl (hb hby at_483) rfl ?_
    refine XS.lloadN X382.here hx rfl (hb hby at_485) rfl ?_
    refine XS.iload X382.here hx rfl (hb hby at_486) rfl ?_
    refine XS.iconst X382.here hx rfl (hb hby at_488) ?_
    refine XS.lconst X382.here hx rfl (hb hby at_489) ?_
    show SS p e below T382 (mkF m 490 #[vi p0, vr nx_1, vr nm_1, vl qa, us, vi ng, vi nd, vi vT, vr b11, vr b282] [(.long (1 : Int64)), z0, (.int nd), (.long qa), (.int vT), (.ref nm_1)]) _
    refine st387 _ ?_
    show SS p e below T387 (mkF m 493 #[vi p0, vr nx_1, vr nm_1, vl qa, us, vi ng, vi nd, vi vT, vr b11, vr b282] [(vI 1)]) _
    refine XS.ifNo X387.here hx rfl (hb hby at_493) rfl ((if0 _ _).trans (feq (by decide : ¬ ((1 : Int32) = (0 : Int32)))).1) ?_
    refine XS.aloadN X387.here hx rfl (hb hby at_496) rfl rfl ?_
    refine XS.iload X387.here hx rfl (hb hby at_497) rfl ?_
    refine XS.lloadN X387.here hx rfl (hb hby at_499) rfl ?_
    refine XS.iload X387.here hx rfl (hb hby at_500) rfl ?_
    refine XS.iconst X387.here hx rfl (hb hby at_502) ?_
    show SS p e below T387 (mkF m 503 #[vi p0, vr nx_1, vr nm_1, vl qa, us, vi ng, vi nd, vi vT, vr b11, vr b282] [(vI 1), (.int nd), (.long qa), (.int vT), (.ref nm_1)]) _
    refine X387.ldc2Long hx hown365 (mvT hZ365 (wd hw 254 rfl)) (g := (mkF m 503 #[vi p0, vr nx_1, vr nm_1, vl qa, us, vi ng, vi nd, vi vT, vr b11, vr b282] [(vI 1), (.int nd), (.long qa), (.int vT), (.ref nm_1)])) rfl (hb hby at_503) _ ?_
    show SS p e below T387 (mkF m 506 #[vi p0, vr nx_1, vr nm_1, vl qa, us, vi ng, vi nd, vi vT, vr b11, vr b282] [(.long (10 : Int64)), (vI 1), (.int nd), (.long qa), (.int vT), (.ref nm_1)]) _
    refine st388 _ ?_
    show SS p e below T388 (mkF m 509 #[vi p0, vr nx_1, vr nm_1, vl qa, us, vi ng, vi nd, vi vT, vr b11, vr b282] [(vI 1)]) _
    refine XS.ifNo X388.here hx rfl (hb hby at_509) rfl ((if0 _ _).trans (feq (by decide : ¬ ((1 : Int32) = (0 : Int32)))).1) ?_
    refine XS.aloadN X388.here hx rfl (hb hby at_512) rfl rfl ?_
    refine XS.iload X388.here hx rfl (hb hby at_513) rfl ?_
    refine XS.lloadN X388.here hx rfl (hb hby at_515) rfl ?_
    refine XS.iload X388.here hx rfl (hb hby at_516) rfl ?_
    refine XS.iconst X388.here hx rfl (hb hby at_518) ?_
    show SS p e below T388 (mkF m 519 #[vi p0, vr nx_1, vr nm_1, vl qa, us, vi ng, vi nd, vi vT, vr b11, vr b282] [(vI 2), (.int nd), (.long qa), (.int vT), (.ref nm_1)]) _
    refine X388.ldc2Long hx hown365 (mvT hZ365 (wd hw 310 rfl)) (g := (mkF m 519 #[vi p0, vr nx_1, vr nm_1, vl qa, us, vi ng, vi nd, vi vT, vr b11, vr b282] [(vI 2), (.int nd), (.long qa), (.int vT), (.ref nm_1)])) rfl (hb hby at_519) _ ?_
    show SS p e below T388 (mkF m 522 #[vi p0, vr nx_1, vr nm_1, vl qa, us, vi ng, vi nd, vi vT, vr b11, vr b282] [(.long (100 : Int64)), (vI 2), (.int nd), (.long qa), (.int vT), (.ref nm_1)]) _
    refine st389 _ ?_
    show SS p e below T389 (mkF m 525 #[vi p0, vr nx_1, vr nm_1, vl qa, us, vi ng, vi nd, vi vT, vr b11, vr b282] [(vI 1)]) _
    refine XS.ifNo X389.here hx rfl (hb hby at_525) rfl ((if0 _ _).trans (feq (by decide : ¬ ((1 : Int32) = (0 : Int32)))).1) ?_
    refine XS.aloadN X389.here hx rfl (hb hby at_528) rfl rfl ?_
    refine XS.iload X389.here hx rfl (hb hby at_529) rfl ?_
    refine XS.lloadN X389.here hx rfl (hb hby at_531) rfl ?_
    refine XS.iload X389.here hx rfl (hb hby at_532) rfl ?_
    refine XS.iconst X389.here hx rfl (hb hby at_534) ?_
    show SS p e below T389 (mkF m 535 #[vi p0, vr nx_1, vr nm_1, vl qa, us, vi ng, vi nd, vi vT, vr b11, vr b282] [(vI 3), (.int nd), (.long qa), (.int vT), (.ref nm_1)]) _
    refine X389.ldc2Long hx hown365 (mvT hZ365 (wd hw 311 rfl)) (g := (mkF m 535 #[vi p0, vr nx_1, vr nm_1, vl qa, us, vi ng, vi nd, vi vT, vr b11, vr b282] [(vI 3), (.int nd), (.long qa), (.int vT), (.ref nm_1)])) rfl (hb hby at_535) _ ?_
    show SS p e below T389 (mkF m 538 #[vi p0, vr nx_1, vr nm_1, vl qa, us, vi ng, vi nd, vi vT, vr b11, vr b282] [(.long (1000 : Int64)), (vI 3), (.int nd), (.long qa), (.int vT), (.ref nm_1)]) _
    refine st390 _ ?_
    show SS p e below T390 (mkF m 541 #[vi p0, vr nx_1, vr nm_1, vl qa, us, vi ng, vi nd, vi vT, vr b11, vr b282] [(vI 1)]) _
    refine XS.ifNo X390.here hx rfl (hb hby at_541) rfl ((if0 _ _).trans (feq (by decide : ¬ ((1 : Int32) = (0 : Int32)))).1) ?_
    refine XS.aloadN X390.here hx rfl (hb hby at_544) rfl rfl ?_
    refine XS.iload X390.here hx rfl (hb hby at_545) rfl ?_
    refine XS.lloadN X390.here hx rfl (hb hby at_547) rfl ?_
    refine XS.iload X390.here hx rfl (hb hby at_548) rfl ?_
    refine XS.iconst X390.here hx rfl (hb hby at_550) ?_
    show SS p e below T390 (mkF m 551 #[vi p0, vr nx_1, vr nm_1, vl qa, us, vi ng, vi nd, vi vT, vr b11, vr b282] [(vI 4), (.int nd), (.long qa), (.int vT), (.ref nm_1)]) _
    refine X390.ldc2Long hx hown365 (mvT hZ365 (wd hw 312 rfl)) (g := (mkF m 551 #[vi p0, vr nx_1, vr nm_1, vl qa, us, vi ng, vi nd, vi vT, vr b11, vr b282] [(vI 4), (.int nd), (.long qa), (.int vT), (.ref nm_1)])) rfl (hb hby at_551) _ ?_
    show SS p e below T390 (mkF m 554 #[vi p0, vr nx_1, vr nm_1, vl qa, us, vi ng, vi nd, vi vT, vr b11, vr b282] [(.long (10000 : Int64)), (vI 4), (.int nd), (.long qa), (.int vT), (.ref nm_1)]) _
    refine st391 _ ?_
    show SS p e below T391 (mkF m 557 #[vi p0, vr nx_1, vr nm_1, vl qa, us, vi ng, vi nd, vi vT, vr b11, vr b282] [(vI 1)]) _
    refine XS.ifNo X391.here hx rfl (hb hby at_557) rfl ((if0 _ _).trans (feq (by decide : ¬ ((1 : Int32) = (0 : Int32)))).1) ?_
    refine XS.aloadN X391.here hx rfl (hb hby at_560) rfl rfl ?_
    refine XS.iload X391.here hx rfl (hb hby at_561) rfl ?_
    refine XS.lloadN X391.here hx rfl (hb hby at_563) rfl ?_
    refine XS.iload X391.here hx rfl (hb hby at_564) rfl ?_
    refine XS.iconst X391.here hx rfl (hb hby at_566) ?_
    show SS p e below T391 (mkF m 567 #[vi p0, vr nx_1, vr nm_1, vl qa, us, vi ng, vi nd, vi vT, vr b11, vr b282] [(vI 5), (.int nd), (.long qa), (.int vT), (.ref nm_1)]) _
    refine X391.ldc2Long hx hown365 (mvT hZ365 (wd hw 313 rfl)) (g := (mkF m 567 #[vi p0, vr nx_1, vr nm_1, vl qa, us, vi ng, vi nd, vi vT, vr b11, vr b282] [(vI 5), (.int nd), (.long qa), (.int vT), (.ref nm_1)])) rfl (hb hby at_567) _ ?_
    show SS p e below T391 (mkF m 570 #[vi p0, vr nx_1, vr nm_1, vl qa, us, vi ng, vi nd, vi vT, vr b11, vr b282] [(.long (100000 : Int64)), (vI 5), (.int nd), (.long qa), (.int vT), (.ref nm_1)]) _
    refine st392 _ ?_
    show SS p e below T392 (mkF m 573 #[vi p0, vr nx_1, vr nm_1, vl qa, us, vi ng, vi nd, vi vT, vr b11, vr b282] [(vI 1)]) _
    refine XS.ifNo X392.here hx rfl (hb hby at_573) rfl ((if0 _ _).trans (feq (by decide : ¬ ((1 : Int32) = (0 : Int32)))).1) ?_
    refine XS.aloadN X392.here hx rfl (hb hby at_576) rfl rfl ?_
    refine XS.iload X392.here hx rfl (hb hby at_577) rfl ?_
    refine XS.lloadN X392.here hx rfl (hb hby at_579) rfl ?_
    refine XS.iload X392.here hx rfl (hb hby at_580) rfl ?_
    refine XS.bipush X392.here hx rfl (hb hby at_582) ?_
    show SS p e below T392 (mkF m 584 #[vi p0, vr nx_1, vr nm_1, vl qa, us, vi ng, vi nd, vi vT, vr b11, vr b282] [(vI 6), (.int nd), (.long qa), (.int vT), (.ref nm_1)]) _
    refine X392.ldc2Long hx hown365 (mvT hZ365 (wd hw 314 rfl)) (g := (mkF m 584 #[vi p0, vr nx_1, vr nm_1, vl qa, us, vi ng, vi nd, vi vT, vr b11, vr b282] [(vI 6), (.int nd), (.long qa), (.int vT), (.ref nm_1)])) rfl (hb hby at_584) _ ?_
    show SS p e below T392 (mkF m 587 #[vi p0, vr nx_1, vr nm_1, vl qa, us, vi ng, vi nd, vi vT, vr b11, vr b282] [(.long (1000000 : Int64)), (vI 6), (.int nd), (.long qa), (.int vT), (.ref nm_1)]) _
    refine st393 _ ?_
    show SS p e below T393 (mkF m 590 #[vi p0, vr nx_1, vr nm_1, vl qa, us, vi ng, vi nd, vi vT, vr b11, vr b282] [(vI 1)]) _
    refine XS.ifNo X393.here hx rfl (hb hby at_590) rfl ((if0 _ _).trans (feq (by decide : ¬ ((1 : Int32) = (0 : Int32)))).1) ?_
    refine XS.aloadN X393.here hx rfl (hb hby at_593) rfl rfl ?_
    refine XS.iload X393.here hx rfl (hb hby at_594) rfl ?_
    refine XS.lloadN X393.here hx rfl (hb hby at_596) rfl ?_
    refine XS.iload X393.here hx rfl (hb hby at_597) rfl ?_
    refine XS.bipush X393.here hx rfl (hb hby at_599) ?_
    show SS p e below T393 (mkF m 601 #[vi p0, vr nx_1, vr nm_1, vl qa, us, vi ng, vi nd, vi vT, vr b11, vr b282] [(vI 7), (.int nd), (.long qa), (.int vT), (.ref nm_1)]) _
    refine X393.ldc2Long hx hown365 (mvT hZ365 (wd hw 315 rfl)) (g := (mkF m 601 #[vi p0, vr nx_1, vr nm_1, vl qa, us, vi ng, vi nd, vi vT, vr b11, vr b282] [(vI 7), (.int nd), (.long qa), (.int vT), (.ref nm_1)])) rfl (hb hby at_601) _ ?_
    show SS p e below T393 (mkF m 604 #[vi p0, vr nx_1, vr nm_1, vl qa, us, vi ng, vi nd, vi vT, vr b11, vr b282] [(.long (10000000 : Int64)), (vI 7), (.int nd), (.long qa), (.int vT), (.ref nm_1)]) _
    refine st394 _ ?_
    show SS p e below T394 (mkF m 607 #[vi p0, vr nx_1, vr nm_1, vl qa, us, vi ng, vi nd, vi vT, vr b11, vr b282] [(vI 1)]) _
    refine XS.ifNo X394.here hx rfl (hb hby at_607) rfl ((if0 _ _).trans (feq (by decide : ¬ ((1 : Int32) = (0 : Int32)))).1) ?_
    refine XS.aloadN X394.here hx rfl (hb hby at_610) rfl rfl ?_
    refine XS.iload X394.here hx rfl (hb hby at_611) rfl ?_
    refine XS.lloadN X394.here hx rfl (hb hby at_613) rfl ?_
    refine XS.iload X394.here hx rfl (hb hby at_614) rfl ?_
    refine XS.bipush X394.here hx rfl (hb hby at_616) ?_
    show SS p e below T394 (mkF m 618 #[vi p0, vr nx_1, vr nm_1, vl qa, us, vi ng, vi nd, vi vT, vr b11, vr b282] [(vI 8), (.int nd), (.long qa), (.int vT), (.ref nm_1)]) _
    refine X394.ldc2Long hx hown365 (mvT hZ365 (wd hw 316 rfl)) (g := (mkF m 618 #[vi p0, vr nx_1, vr nm_1, vl qa, us, vi ng, vi nd, vi vT, vr b11, vr b282] [(vI 8), (.int nd), (.long qa), (.int vT), (.ref nm_1)])) rfl (hb hby at_618) _ ?_
    show SS p e below T394 (mkF m 621 #[vi p0, vr nx_1, vr nm_1, vl qa, us, vi ng, vi nd, vi vT, vr b11, vr b282] [(.long (100000000 : Int64)), (vI 8), (.int nd), (.long qa), (.int vT), (.ref nm_1)]) _
    refine st395 _ ?_
    show SS p e below T395 (mkF m 624 #[vi p0, vr nx_1, vr nm_1, vl qa, us, vi ng, vi nd, vi vT, vr b11, vr b282] [(vI 1)]) _
    refine XS.ifNo X395.here hx rfl (hb hby at_624) rfl ((if0 _ _).trans (feq (by decide : ¬ ((1 : Int32) = (0 : Int32)))).1) ?_
    refine XS.aloadN X395.here hx rfl (hb hby at_627) rfl rfl ?_
    refine XS.iload X395.here hx rfl (hb hby at_628) rfl ?_
    refine XS.lloadN X395.here hx rfl (hb hby at_630) rfl ?_
    refine XS.iload X395.here hx rfl (hb hby at_631) rfl ?_
    refine XS.bipush X395.here hx rfl (hb hby at_633) ?_
    show SS p e below T395 (mkF m 635 #[vi p0, vr nx_1, vr nm_1, vl qa, us, vi ng, vi nd, vi vT, vr b11, vr b282] [(vI 9), (.int nd), (.long qa), (.int vT), (.ref nm_1)]) _
    refine X395.ldc2Long hx hown365 (mvT hZ365 (wd hw 317 rfl)) (g := (mkF m 635 #[vi p0, vr nx_1, vr nm_1, vl qa, us, vi ng, vi nd, vi vT, vr b11, vr b282] [(vI 9), (.int nd), (.long qa), (.int vT), (.ref nm_1)])) rfl (hb hby at_635) _ ?_
    show SS p e below T395 (mkF m 638 #[vi p0, vr nx_1, vr nm_1, vl qa, us, vi ng, vi nd, vi vT, vr b11, vr b282] [(.long (1000000000 : Int64)), (vI 9), (.int nd), (.long qa), (.int vT), (.ref nm_1)]) _
    refine st396 _ ?_
    show SS p e below T396 (mkF m 641 #[vi p0, vr nx_1, vr nm_1, vl qa, us, vi ng, vi nd, vi vT, vr b11, vr b282] [(vI 1)]) _
    refine XS.ifNo X396.here hx rfl (hb hby at_641) rfl ((if0 _ _).trans (feq (by decide : ¬ ((1 : Int32) = (0 : Int32)))).1) ?_
    refine XS.iconst X396.here hx rfl (hb hby at_644) ?_
    refine XS.goto X396.here hx rfl (pc0 := 645) (pc' := 649) rfl (hb hby at_645) (by decide) (by decide) ?_
    exact retN X396 hx (t := .boolean) Bd.returns (by simp) (hb hby at_649) hr
  · show Q_rm0 Z p0 zc fm vu vq dg1 dg2 kd1 kd2 N sg d zs n1 n2 qa nd ng vT h0 n0 _ T396.heap _
    rw [eh396]
    exact ⟨rfl, N396⟩
set_option maxRecDepth 65536 in
set_option maxHeartbeats 40000000 in
theorem comes_1 {Post : Tables → Env → Array Value → State → Outcome → State → Prop} (hpost : ∀ tb e args s v u, (limb_1_1.after args s (.returned v) u = true ∧ limb_1_2.after args s (.returned v) u = true ∧ True) → ReturnedEndW s (.returned v) u (Jvm.fieldLocs frame_1_writes args s ++ Jvm.arrayLocs frame_1_arrays args s ++ Jvm.staticLocs frame_1_statics s) 48 10240 → Post tb e args s (.returned v) u) :
    ArmFor flags0 classFile x code maxLocals ret World_1 tables_1 room_1 Calls_1 rest_1 Pre_1 Post := by
  intro l hfl _ _ p e ha hc hk s m args below hf hA hF happ hP
  obtain ⟨hcalls, hrest, hpre⟩ := hP
  obtain ⟨-, -, -, hnamed, -, -, -, hat⟩ := (Spec.applies_iff hf).mp happ
  obtain ⟨hg, hn⟩ := and_e (Cond.before_iff.mp (show (Jvm.Cond.and given_1 narrow_1).before args s = true from hpre))
  obtain ⟨g1, g2⟩ := and_e hg
  obtain ⟨w0, rfl⟩ : ∃ w0 : Value, args = #[w0] := by
    have hs : args.size = 1 := by simpa [Cond.value, given_1] using g1
    obtain ⟨L⟩ := args
    match L, hs with
    | [w0], _ => exact ⟨w0, rfl⟩
  have hw := fun d (hd : d ∈ tables_1) => atoms_spec (ws := Jvm.Cond.code x code maxLocals ret :: tables_1) hat d (List.mem_cons_of_mem _ hd)
  have hfit : Fit s := fun {y c} hc i hi => by
    obtain ⟨ha, rfl⟩ := Array.getElem?_eq_some_iff.mp hc
    have q := List.all_eq_true.mp ((Array.all_eq_true_iff_forall_mem.mp hF) _ (Array.getElem_mem ha)) i (List.mem_range.mpr hi)
    simpa [Array.getElem?_eq_getElem hi] using q
  obtain ⟨hsets, hown0⟩ := atoms_of _ (rest_1_c_eq ▸ (show rest_1_c.before _ s = true from hrest))
  obtain ⟨i0, ei0⟩ := is_v g2
  obtain rfl : w0 = (.int i0) := Option.some.inj ei0
  obtain ⟨zc, ezc⟩ := is_v (Cond.before_iff.mp (hsets _ (List.mem_of_getElem? (i := 1) rfl)))
  have uS := Sta.start ezc (Or.inl (hsets _ (List.mem_of_getElem? (i := 0) rfl)))
  have uP : ¬ zc = 0 := gotF (Cond.eq_ints ezc (Term.int_eval (0))) (not_v (Cond.before_iff.mp (hsets _ (List.mem_of_getElem? (i := 2) rfl))))
  obtain ⟨fm, efm, uR_⟩ := isR_v (Cond.before_iff.mp (hsets _ (List.mem_of_getElem? (i := 8) rfl)))
  have uF := Sta.start efm (Or.inl (hsets _ (List.mem_of_getElem? (i := 7) rfl)))
  have uLt : l.stackTraces = true := by
    show (!l.flags.contains noTraceFlag) = true
    rw [hfl]; decide +kernel
  obtain ⟨vu, evu, uRu⟩ := isR_v (Cond.before_iff.mp (hsets _ (List.mem_of_getElem? (i := 27) rfl)))
  have uZu := Sta.start evu (Or.inl (hsets _ (List.mem_of_getElem? (i := 26) rfl)))
  obtain ⟨vq, evq, uRs⟩ := isR_v (Cond.before_iff.mp (hsets _ (List.mem_of_getElem? (i := 32) rfl)))
  have uZs_ := Sta.start evq (Or.inl (hsets _ (List.mem_of_getElem? (i := 31) rfl)))
  obtain ⟨dg1, kd1, edg1, uDV⟩ := own_digits (fun _ => rfl) (wd hw 23 rfl) (hsets _ (List.mem_of_getElem? (i := 12) rfl)) (hsets _ (List.mem_of_getElem? (i := 13) rfl)) (hsets _ (List.mem_of_getElem? (i := 14) rfl))
  have uD := Sta.start edg1 (Or.inl (hsets _ (List.mem_of_getElem? (i := 11) rfl)))
  obtain ⟨dg2, kd2, edg2, uTV⟩ := own_digits2 (fun _ => rfl) (wd hw 23 rfl) (hsets _ (List.mem_of_getElem? (i := 17) rfl)) (hsets _ (List.mem_of_getElem? (i := 18) rfl)) (hsets _ (List.mem_of_getElem? (i := 19) rfl))
  have uT := Sta.start edg2 (Or.inl (hsets _ (List.mem_of_getElem? (i := 16) rfl)))
  obtain ⟨N, uNb, uN⟩ := Jvm.Free.SBG.negI_of i0
  have og := own_all i0 N uNb uN
  have hCH : CHv s own_EL s.vm s.heap := CHv.start (own_EW hw) (show Jvm.D.constsHeld consts_1 s from hcalls.2.2.1) (hsets _ (List.mem_of_getElem? (i := 2) rfl)) (wd hw 23 rfl) (wd hw 29 rfl)
  obtain ⟨n, o, h1, h2, h3, _, L, rfl, ⟨rfl, N⟩, -, hq⟩ := rm0 l s _ hw tables_1 i0 zc fm vu vq dg1 dg2 kd1 kd2 N (Jvm.Free.SBG.GetChars.sgn i0) (Jvm.Free.SBG.digits N) _ _ _ _ _ _ _ s.heap s.heap.size (Nat.le_refl _) (Old.start s) uS uP uF uR_ uLt uZu uRu uZs_ uRs uD uDV uT uTV (hsets _ (List.mem_of_getElem? (i := 10) rfl)) (hsets _ (List.mem_of_getElem? (i := 15) rfl)) uN uNb rfl rfl rfl rfl og.1 rfl og.2.1 og.2.2.1 rfl rfl rfl og.2.2.2.1 rfl og.2.2.2.2.1 og.2.2.2.2.2.1 og.2.2.2.2.2.2.1 og.2.2.2.2.2.2.2 p e ha hc hk s m _ below hf ((Spec.applies_iff_loose hf).mp happ).1 ⟨rfl, State.Warmed39.refl s, rfl, hCH⟩ ⟨hcalls.1, hcalls.2.1⟩
  refine ⟨n, _, h1, h2, h3, hpost _ _ _ _ _ _ ⟨Cond.after_iff.mpr rfl, Cond.after_iff.mpr (eq_i res_at (Term.int_eval (1)) rfl), trivial⟩ ⟨hq.1, hq.2.1, hq.2.2.1, (hq.2.2.2.sift fun y hy => Or.inr (N y hy)).mono (by decide) (by decide)⟩⟩
theorem main_1_1 : Claimed_1_1 := comes_1 fun _ _ _ _ _ _ h hF => ⟨h.1, hF⟩
theorem main_1_2 : Claimed_1_2 := comes_1 fun _ _ _ _ _ _ h hF => ⟨h.2.1, hF⟩
end Jvm.Pilot.@@N@@
namespace Jvm.Pilot.@@N@@
open Jvm Jvm.ClassFile Sem Op Lib Jvm.Free Jvm.Stand Jvm.Pilot.@@N@@.Jvm.D
/-! MADE BY PROGRAM (witnessworld.py) out of the Statement's table words and the real class files: 44 classes; the members and pool entries that the words name. The judged class is class 1, her method 1. -/
namespace start1
open Jvm.ClassFile
def u (s : String) : CpInfo := .utf8 (stringToUtf16 s)
/-- a pool by its gaps: so many unusable entries, then the entry; so many at the end -/
def gap : Nat → List CpInfo → List CpInfo
  | 0, r => r
  | n + 1, r => .unusable :: gap n r
def poolList (es : List (Nat × CpInfo)) (last : Nat) : List CpInfo := es.foldr (fun e r => gap e.1 (e.2 :: r)) (gap last [])
def pool (es : List (Nat × CpInfo)) (last : Nat) : Array CpInfo := ⟨poolList es last⟩
def fileOf (pool : Array CpInfo) (this : Nat) (attrs : Array Attribute := #[]) (ms : Array MethodInfo := #[]) (fl : Nat := 33) (sup : Nat := 0) (ifs : Array Nat := #[]) (fds : Array FieldInfo := #[]) : ClassFile where
  minorVersion := 0
  majorVersion := 65
  constantPool := pool
  accessFlags := fl
  thisClass := this
  superClass := sup
  interfaces := ifs
  fields := fds
  methods := ms
  attributes := attrs
def plain (name : String) (sup : Option ClassId) : Class where
  name := name
  kind := .ordinary
  loader := none
  accessFlags := 33
  super := sup
  interfaces := #[]
  cf := none
  fields := #[]
  methods := #[]
  instanceTypes := #[]
  staticTypes := #[]
  resolved := #[]
  callSites := []
  init := .initialized
  statics := none
  mirror := none

def pool0 : Array CpInfo := pool [(5, u "<init>"), (0, u "()V"), (1, .class_ 10), (1, u "java/lang/Object"), (85, u "clone"), (0, u "()Ljava/lang/Object;")] 26

def k0c0 : Code := { maxStack := 0, maxLocals := 1, code := object_method_1_code, exceptionTable := #[], attributes := #[] }
def k0m0 : Method := { name := "<init>", desc := "()V", sig := { parameters := [], returnType := none }, accessFlags := 1, code := some k0c0 }
def k0m1 : Method := { name := "clone", desc := "()Ljava/lang/Object;", sig := { parameters := [], returnType := some (.object "java/lang/Object") }, accessFlags := 260, code := none }
/-- java/lang/Object -/
def k0 : Class := { plain "java/lang/Object" none with
  accessFlags := 33
  interfaces := #[]
  cf := some (fileOf pool0 8 #[] #[{ accessFlags := 1, nameIndex := 5, descriptorIndex := 6, attributes := #[] }, { accessFlags := 260, nameIndex := 96, descriptorIndex := 97, attributes := #[] }] 33 0 #[] #[])
  fields := #[]
  methods := #[k0m0, k0m1]
  instanceTypes := #[]
  staticTypes := #[]
  resolved := Array.replicate 124 none
  statics := none }

def pool1 : Array CpInfo := pool [(2, .class_ 4), (1, u "java/lang/Object"), (0, u "<init>"), (0, u "()V"), (0, .methodref 8 9), (0, .class_ 10), (0, .nameAndType 11 12), (0, u "com/example/plain_hub/plainhub/HubException"), (0, u "tooLarge"), (0, u "(I)Lcom/example/plain_hub/plainhub/HubException;"), (0, .methodref 8 14), (0, .nameAndType 15 16), (0, u "status"), (0, u "()I"), (0, .methodref 8 18), (0, .nameAndType 19 16), (0, u "code"), (0, .methodref 8 21), (0, .nameAndType 22 23), (0, u "getMessage"), (0, u "()Ljava/lang/String;"), (0, .methodref 25 26), (0, .class_ 27), (0, .nameAndType 28 29), (0, u "java/lang/Math"), (0, u "abs"), (0, u "(J)J"), (0, .methodref 31 32), (0, .class_ 33), (0, .nameAndType 34 35), (0, u "com/example/plain_hub/plainhub/HubExceptionTooLargePinLaw"), (0, u "digits"), (0, u "(J)I"), (0, .methodref 37 38), (0, .class_ 39), (0, .nameAndType 40 16), (0, u "java/lang/String"), (0, u "length"), (0, .methodref 37 42), (0, .nameAndType 43 44), (0, u "charAt"), (0, u "(I)C"), (0, .methodref 37 46), (0, .nameAndType 5 47), (0, u "([C)V"), (0, .string 49), (0, u "The payload is larger than "), (0, .methodref 37 51), (0, .nameAndType 52 53), (0, u "equals"), (0, u "(Ljava/lang/Object;)Z"), (0, .string 55), (0, u " bytes"), (0, .methodref 31 57), (0, .nameAndType 58 59), (0, u "dig"), (0, u "(Ljava/lang/String;IJIIJ)Z"), (0, .long 10), (1, .long 100), (1, .long 1000), (1, .long 10000), (1, .long 100000), (1, .long 1000000), (1, .long 10000000), (1, .long 100000000), (1, .long 1000000000), (3, u "law"), (0, u "(I)Z")] 3

def k1m0 : Method := { name := "<init>", desc := "()V", sig := { parameters := [], returnType := none }, accessFlags := 1, code := none }
def k1c1 : Code := { maxStack := 8, maxLocals := 10, code := code, exceptionTable := #[], attributes := #[] }
def k1m1 : Method := { name := "law", desc := "(I)Z", sig := { parameters := [.int], returnType := some .boolean }, accessFlags := 9, code := some k1c1 }
def k1c2 : Code := { maxStack := 4, maxLocals := 2, code := method_3_code, exceptionTable := #[], attributes := #[] }
def k1m2 : Method := { name := "digits", desc := "(J)I", sig := { parameters := [.long], returnType := some .int }, accessFlags := 10, code := some k1c2 }
def k1c3 : Code := { maxStack := 5, maxLocals := 9, code := method_4_code, exceptionTable := #[], attributes := #[] }
def k1m3 : Method := { name := "dig", desc := "(Ljava/lang/String;IJIIJ)Z", sig := { parameters := [(.object "java/lang/String"), .int, .long, .int, .int, .long], returnType := some .boolean }, accessFlags := 10, code := some k1c3 }
/-- com/example/plain_hub/plainhub/HubExceptionTooLargePinLaw -/
def k1 : Class := { plain "com/example/plain_hub/plainhub/HubExceptionTooLargePinLaw" (some 0) with
  accessFlags := 49
  interfaces := #[]
  cf := some (fileOf pool1 31 #[] #[{ accessFlags := 1, nameIndex := 5, descriptorIndex := 6, attributes := #[] }, { accessFlags := 9, nameIndex := 80, descriptorIndex := 81, attributes := #[] }, { accessFlags := 10, nameIndex := 34, descriptorIndex := 35, attributes := #[] }, { accessFlags := 10, nameIndex := 58, descriptorIndex := 59, attributes := #[] }] 49 2 #[] #[])
  fields := #[]
  methods := #[k1m0, k1m1, k1m2, k1m3]
  instanceTypes := #[]
  staticTypes := #[]
  resolved := Array.replicate 85 none
  statics := none }

def pool2 : Array CpInfo := pool [(1, .class_ 2), (0, u "java/io/Serializable"), (0, .class_ 4), (0, u "java/lang/Object")] 2

/-- java/io/Serializable -/
def k2 : Class := { plain "java/io/Serializable" (some 0) with
  accessFlags := 1537
  interfaces := #[]
  cf := some (fileOf pool2 1 #[] #[] 1537 3 #[] #[])
  fields := #[]
  methods := #[]
  instanceTypes := #[]
  staticTypes := #[]
  resolved := Array.replicate 7 none
  statics := none }

def pool3 : Array CpInfo := pool [(1, .methodref 2 3), (0, .class_ 4), (0, .nameAndType 5 6), (0, u "java/lang/Object"), (0, u "<init>"), (0, u "()V"), (0, .fieldref 8 9), (0, .class_ 10), (0, .nameAndType 11 12), (0, u "java/lang/Throwable"), (0, u "cause"), (0, u "Ljava/lang/Throwable;"), (0, .fieldref 8 14), (0, .nameAndType 15 16), (0, u "UNASSIGNED_STACK"), (0, u "[Ljava/lang/StackTraceElement;"), (0, .fieldref 8 18), (0, .nameAndType 19 16), (0, u "stackTrace"), (0, .fieldref 8 21), (0, .nameAndType 22 23), (0, u "SUPPRESSED_SENTINEL"), (0, u "Ljava/util/List;"), (0, .fieldref 8 25), (0, .nameAndType 26 23), (0, u "suppressedExceptions"), (0, .methodref 8 28), (0, .nameAndType 29 30), (0, u "fillInStackTrace"), (0, u "()Ljava/lang/Throwable;"), (0, .fieldref 8 32), (0, .nameAndType 33 34), (0, u "detailMessage"), (0, u "Ljava/lang/String;"), (3, u "()Ljava/lang/String;"), (2, u "getMessage"), (51, .class_ 94), (0, u "java/lang/Throwable$WrappedPrintStream"), (6, .class_ 103), (1, u "java/lang/Throwable$PrintStreamOrWriter"), (61, u "$assertionsDisabled"), (0, u "Z"), (26, .class_ 194), (0, u "java/lang/Throwable$WrappedPrintWriter"), (3, .fieldref 8 199), (0, .nameAndType 200 201), (0, u "backtrace"), (0, u "Ljava/lang/Object;"), (0, .methodref 8 203), (0, .nameAndType 29 204), (0, u "(I)Ljava/lang/Throwable;"), (6, u "depth"), (0, u "I"), (10, u "(Ljava/lang/String;)V"), (45, .class_ 271), (1, u "java/lang/Throwable$SentinelHolder"), (32, u "EMPTY_THROWABLE_ARRAY"), (0, u "[Ljava/lang/Throwable;"), (12, .class_ 319), (0, u "java/io/Serializable"), (0, u "serialVersionUID"), (0, u "J"), (5, u "NULL_CAUSE_MESSAGE"), (0, u "SELF_SUPPRESSION_MESSAGE"), (0, u "CAUSE_CAPTION"), (0, u "SUPPRESSED_CAPTION")] 73

def k3c0 : Code := { maxStack := 2, maxLocals := 1, code := jdk_78_method_1_code, exceptionTable := #[], attributes := #[] }
def k3m0 : Method := { name := "<init>", desc := "()V", sig := { parameters := [], returnType := none }, accessFlags := 1, code := some k3c0 }
def k3c1 : Code := { maxStack := 2, maxLocals := 2, code := jdk_78_method_2_code, exceptionTable := #[], attributes := #[] }
def k3m1 : Method := { name := "<init>", desc := "(Ljava/lang/String;)V", sig := { parameters := [(.object "java/lang/String")], returnType := none }, accessFlags := 1, code := some k3c1 }
def k3c2 : Code := { maxStack := 1, maxLocals := 1, code := jdk_78_method_6_code, exceptionTable := #[], attributes := #[] }
def k3m2 : Method := { name := "getMessage", desc := "()Ljava/lang/String;", sig := { parameters := [], returnType := some (.object "java/lang/String") }, accessFlags := 1, code := some k3c2 }
def k3c3 : Code := { maxStack := 2, maxLocals := 1, code := ⟨#[0x2a, 0xb4, 0x00, 0x11, 0xc7, 0x00, 0x0a, 0x2a, 0xb4, 0x00, 0xc6, 0xc6, 0x00, 0x10, 0x2a, 0x03, 0xb6, 0x00, 0xca, 0x57, 0x2a, 0xb2, 0x00, 0x0d, 0xb5, 0x00, 0x11, 0x2a, 0xb0]⟩, exceptionTable := #[], attributes := #[] }
def k3m3 : Method := { name := "fillInStackTrace", desc := "()Ljava/lang/Throwable;", sig := { parameters := [], returnType := some (.object "java/lang/Throwable") }, accessFlags := 33, code := some k3c3 }
def k3m4 : Method := { name := "fillInStackTrace", desc := "(I)Ljava/lang/Throwable;", sig := { parameters := [.int], returnType := some (.object "java/lang/Throwable") }, accessFlags := 258, code := none }
/-- java/lang/Throwable -/
def k3 : Class := { plain "java/lang/Throwable" (some 0) with
  accessFlags := 33
  interfaces := #[2]
  cf := some (fileOf pool3 8 #[.nestMembers #[193, 93, 101, 269]] #[{ accessFlags := 1, nameIndex := 5, descriptorIndex := 6, attributes := #[] }, { accessFlags := 1, nameIndex := 5, descriptorIndex := 223, attributes := #[] }, { accessFlags := 1, nameIndex := 41, descriptorIndex := 38, attributes := #[] }, { accessFlags := 33, nameIndex := 29, descriptorIndex := 30, attributes := #[] }, { accessFlags := 258, nameIndex := 29, descriptorIndex := 204, attributes := #[] }] 33 2 #[318] #[{ accessFlags := 26, nameIndex := 320, descriptorIndex := 321, attributes := #[] }, { accessFlags := 130, nameIndex := 200, descriptorIndex := 201, attributes := #[] }, { accessFlags := 2, nameIndex := 33, descriptorIndex := 34, attributes := #[] }, { accessFlags := 26, nameIndex := 15, descriptorIndex := 16, attributes := #[] }, { accessFlags := 2, nameIndex := 11, descriptorIndex := 12, attributes := #[] }, { accessFlags := 2, nameIndex := 19, descriptorIndex := 16, attributes := #[] }, { accessFlags := 130, nameIndex := 211, descriptorIndex := 212, attributes := #[] }, { accessFlags := 26, nameIndex := 22, descriptorIndex := 23, attributes := #[] }, { accessFlags := 2, nameIndex := 26, descriptorIndex := 23, attributes := #[] }, { accessFlags := 26, nameIndex := 327, descriptorIndex := 34, attributes := #[] }, { accessFlags := 26, nameIndex := 328, descriptorIndex := 34, attributes := #[] }, { accessFlags := 26, nameIndex := 329, descriptorIndex := 34, attributes := #[] }, { accessFlags := 26, nameIndex := 330, descriptorIndex := 34, attributes := #[] }, { accessFlags := 26, nameIndex := 304, descriptorIndex := 305, attributes := #[] }, { accessFlags := 4120, nameIndex := 165, descriptorIndex := 166, attributes := #[] }])
  fields := #[{ name := "serialVersionUID", type := .long, accessFlags := 26, slot := 0, constantValue := 0 }, { name := "backtrace", type := (.object "java/lang/Object"), accessFlags := 130, slot := 0, constantValue := 0 }, { name := "detailMessage", type := (.object "java/lang/String"), accessFlags := 2, slot := 1, constantValue := 0 }, { name := "UNASSIGNED_STACK", type := (.array (.object "java/lang/StackTraceElement")), accessFlags := 26, slot := 1, constantValue := 0 }, { name := "cause", type := (.object "java/lang/Throwable"), accessFlags := 2, slot := 2, constantValue := 0 }, { name := "stackTrace", type := (.array (.object "java/lang/StackTraceElement")), accessFlags := 2, slot := 3, constantValue := 0 }, { name := "depth", type := .int, accessFlags := 130, slot := 4, constantValue := 0 }, { name := "SUPPRESSED_SENTINEL", type := (.object "java/util/List"), accessFlags := 26, slot := 2, constantValue := 0 }, { name := "suppressedExceptions", type := (.object "java/util/List"), accessFlags := 2, slot := 5, constantValue := 0 }, { name := "NULL_CAUSE_MESSAGE", type := (.object "java/lang/String"), accessFlags := 26, slot := 3, constantValue := 0 }, { name := "SELF_SUPPRESSION_MESSAGE", type := (.object "java/lang/String"), accessFlags := 26, slot := 4, constantValue := 0 }, { name := "CAUSE_CAPTION", type := (.object "java/lang/String"), accessFlags := 26, slot := 5, constantValue := 0 }, { name := "SUPPRESSED_CAPTION", type := (.object "java/lang/String"), accessFlags := 26, slot := 6, constantValue := 0 }, { name := "EMPTY_THROWABLE_ARRAY", type := (.array (.object "java/lang/Throwable")), accessFlags := 26, slot := 7, constantValue := 0 }, { name := "$assertionsDisabled", type := .boolean, accessFlags := 4120, slot := 8, constantValue := 0 }]
  methods := #[k3m0, k3m1, k3m2, k3m3, k3m4]
  instanceTypes := #[(.object "java/lang/Object"), (.object "java/lang/String"), (.object "java/lang/Throwable"), (.array (.object "java/lang/StackTraceElement")), .int, (.object "java/util/List")]
  staticTypes := #[.long, (.array (.object "java/lang/StackTraceElement")), (.object "java/util/List"), (.object "java/lang/String"), (.object "java/lang/String"), (.object "java/lang/String"), (.object "java/lang/String"), (.array (.object "java/lang/Throwable")), .boolean]
  resolved := Array.replicate 404 none
  statics := some 0 }

def pool4 : Array CpInfo := pool [(2, .class_ 4), (1, u "java/lang/Throwable"), (0, u "<init>"), (0, u "()V"), (0, .methodref 2 8), (0, .nameAndType 5 9), (0, u "(Ljava/lang/String;)V"), (9, .class_ 20), (0, u "java/lang/Exception"), (0, u "serialVersionUID"), (0, u "J")] 17

def k4m0 : Method := { name := "<init>", desc := "()V", sig := { parameters := [], returnType := none }, accessFlags := 1, code := none }
def k4c1 : Code := { maxStack := 2, maxLocals := 2, code := jdk_59_method_2_code, exceptionTable := #[], attributes := #[] }
def k4m1 : Method := { name := "<init>", desc := "(Ljava/lang/String;)V", sig := { parameters := [(.object "java/lang/String")], returnType := none }, accessFlags := 1, code := some k4c1 }
/-- java/lang/Exception -/
def k4 : Class := { plain "java/lang/Exception" (some 3) with
  accessFlags := 33
  interfaces := #[]
  cf := some (fileOf pool4 19 #[] #[{ accessFlags := 1, nameIndex := 5, descriptorIndex := 6, attributes := #[] }, { accessFlags := 1, nameIndex := 5, descriptorIndex := 9, attributes := #[] }] 33 2 #[] #[{ accessFlags := 24, nameIndex := 21, descriptorIndex := 22, attributes := #[] }])
  fields := #[{ name := "serialVersionUID", type := .long, accessFlags := 24, slot := 0, constantValue := 0 }]
  methods := #[k4m0, k4m1]
  instanceTypes := #[(.object "java/lang/Object"), (.object "java/lang/String"), (.object "java/lang/Throwable"), (.array (.object "java/lang/StackTraceElement")), .int, (.object "java/util/List")]
  staticTypes := #[.long]
  resolved := Array.replicate 40 none
  statics := none }

def pool5 : Array CpInfo := pool [(2, .class_ 4), (1, u "java/lang/Exception"), (0, u "<init>"), (0, u "()V"), (0, .methodref 2 8), (0, .nameAndType 5 9), (0, u "(Ljava/lang/String;)V"), (9, .class_ 20), (0, u "java/lang/RuntimeException"), (0, u "serialVersionUID"), (0, u "J")] 17

def k5m0 : Method := { name := "<init>", desc := "()V", sig := { parameters := [], returnType := none }, accessFlags := 1, code := none }
def k5c1 : Code := { maxStack := 2, maxLocals := 2, code := jdk_58_method_2_code, exceptionTable := #[], attributes := #[] }
def k5m1 : Method := { name := "<init>", desc := "(Ljava/lang/String;)V", sig := { parameters := [(.object "java/lang/String")], returnType := none }, accessFlags := 1, code := some k5c1 }
/-- java/lang/RuntimeException -/
def k5 : Class := { plain "java/lang/RuntimeException" (some 4) with
  accessFlags := 33
  interfaces := #[]
  cf := some (fileOf pool5 19 #[] #[{ accessFlags := 1, nameIndex := 5, descriptorIndex := 6, attributes := #[] }, { accessFlags := 1, nameIndex := 5, descriptorIndex := 9, attributes := #[] }] 33 2 #[] #[{ accessFlags := 24, nameIndex := 21, descriptorIndex := 22, attributes := #[] }])
  fields := #[{ name := "serialVersionUID", type := .long, accessFlags := 24, slot := 0, constantValue := 0 }]
  methods := #[k5m0, k5m1]
  instanceTypes := #[(.object "java/lang/Object"), (.object "java/lang/String"), (.object "java/lang/Throwable"), (.array (.object "java/lang/StackTraceElement")), .int, (.object "java/util/List")]
  staticTypes := #[.long]
  resolved := Array.replicate 40 none
  statics := none }

def pool6 : Array CpInfo := pool [(1, .methodref 2 3), (0, .class_ 4), (0, .nameAndType 5 6), (0, u "java/lang/RuntimeException"), (0, u "<init>"), (0, u "(Ljava/lang/String;)V"), (0, .fieldref 8 9), (0, .class_ 10), (0, .nameAndType 11 12), (0, u "com/example/plain_hub/plainhub/HubException"), (0, u "status"), (0, u "I"), (0, .fieldref 8 14), (0, .nameAndType 15 12), (0, u "code"), (0, .methodref 8 17), (0, .nameAndType 5 18), (0, u "(IILjava/lang/String;)V"), (2, .class_ 22), (0, u "java/lang/StringBuilder"), (0, .methodref 21 24), (0, .nameAndType 5 25), (0, u "()V"), (2, .methodref 21 29), (0, .nameAndType 30 31), (0, u "append"), (0, u "(Ljava/lang/String;)Ljava/lang/StringBuilder;"), (0, .methodref 21 33), (0, .nameAndType 34 35), (0, u "toString"), (0, u "()Ljava/lang/String;"), (0, .string 37), (0, u "The payload is larger than "), (0, .methodref 21 39), (0, .nameAndType 30 40), (0, u "(I)Ljava/lang/StringBuilder;"), (0, .string 42), (0, u " bytes"), (0, u "serialVersionUID"), (0, u "J"), (13, u "tooLarge"), (0, u "(I)Lcom/example/plain_hub/plainhub/HubException;"), (0, u "()I")] 2

def k6c0 : Code := { maxStack := 2, maxLocals := 4, code := prog_2_method_1_code, exceptionTable := #[], attributes := #[] }
def k6m0 : Method := { name := "<init>", desc := "(IILjava/lang/String;)V", sig := { parameters := [.int, .int, (.object "java/lang/String")], returnType := none }, accessFlags := 1, code := some k6c0 }
def k6c1 : Code := { maxStack := 6, maxLocals := 1, code := prog_2_method_7_code, exceptionTable := #[], attributes := #[] }
def k6m1 : Method := { name := "tooLarge", desc := "(I)Lcom/example/plain_hub/plainhub/HubException;", sig := { parameters := [.int], returnType := some (.object "com/example/plain_hub/plainhub/HubException") }, accessFlags := 9, code := some k6c1 }
def k6c2 : Code := { maxStack := 1, maxLocals := 1, code := prog_2_method_8_code, exceptionTable := #[], attributes := #[] }
def k6m2 : Method := { name := "status", desc := "()I", sig := { parameters := [], returnType := some .int }, accessFlags := 1, code := some k6c2 }
def k6c3 : Code := { maxStack := 1, maxLocals := 1, code := prog_2_method_9_code, exceptionTable := #[], attributes := #[] }
def k6m3 : Method := { name := "code", desc := "()I", sig := { parameters := [], returnType := some .int }, accessFlags := 1, code := some k6c3 }
/-- com/example/plain_hub/plainhub/HubException -/
def k6 : Class := { plain "com/example/plain_hub/plainhub/HubException" (some 5) with
  accessFlags := 33
  interfaces := #[]
  cf := some (fileOf pool6 8 #[] #[{ accessFlags := 1, nameIndex := 5, descriptorIndex := 18, attributes := #[] }, { accessFlags := 9, nameIndex := 58, descriptorIndex := 59, attributes := #[] }, { accessFlags := 1, nameIndex := 11, descriptorIndex := 60, attributes := #[] }, { accessFlags := 1, nameIndex := 15, descriptorIndex := 60, attributes := #[] }] 33 2 #[] #[{ accessFlags := 26, nameIndex := 43, descriptorIndex := 44, attributes := #[] }, { accessFlags := 18, nameIndex := 11, descriptorIndex := 12, attributes := #[] }, { accessFlags := 18, nameIndex := 15, descriptorIndex := 12, attributes := #[] }])
  fields := #[{ name := "serialVersionUID", type := .long, accessFlags := 26, slot := 0, constantValue := 0 }, { name := "status", type := .int, accessFlags := 18, slot := 6, constantValue := 0 }, { name := "code", type := .int, accessFlags := 18, slot := 7, constantValue := 0 }]
  methods := #[k6m0, k6m1, k6m2, k6m3]
  instanceTypes := #[(.object "java/lang/Object"), (.object "java/lang/String"), (.object "java/lang/Throwable"), (.array (.object "java/lang/StackTraceElement")), .int, (.object "java/util/List"), .int, .int]
  staticTypes := #[.long]
  resolved := Array.replicate 63 none
  statics := none }

def pool7 : Array CpInfo := pool [(1, .class_ 2), (0, u "java/lang/Appendable"), (0, .class_ 4), (0, u "java/lang/Object")] 9

/-- java/lang/Appendable -/
def k7 : Class := { plain "java/lang/Appendable" (some 0) with
  accessFlags := 1537
  interfaces := #[]
  cf := some (fileOf pool7 1 #[] #[] 1537 3 #[] #[])
  fields := #[]
  methods := #[]
  instanceTypes := #[]
  staticTypes := #[]
  resolved := Array.replicate 14 none
  statics := none }

def pool8 : Array CpInfo := pool [(2, .class_ 4), (1, u "java/lang/CharSequence"), (42, .class_ 48), (0, u "java/lang/CharSequence$1CodePointIterator"), (10, .class_ 60), (0, u "java/lang/CharSequence$1CharIterator"), (5, .class_ 67), (0, u "java/lang/Object")] 63

/-- java/lang/CharSequence -/
def k8 : Class := { plain "java/lang/CharSequence" (some 0) with
  accessFlags := 1537
  interfaces := #[]
  cf := some (fileOf pool8 2 #[.nestMembers #[47, 59]] #[] 1537 66 #[] #[])
  fields := #[]
  methods := #[]
  instanceTypes := #[]
  staticTypes := #[]
  resolved := Array.replicate 131 none
  statics := none }

def pool9 : Array CpInfo := pool [(1, .class_ 2), (0, u "java/lang/String"), (0, .methodref 4 5), (0, .class_ 6), (0, .nameAndType 7 8), (0, u "java/lang/Object"), (0, u "<init>"), (0, u "()V"), (1, .class_ 12), (1, u "java/lang/AbstractStringBuilder"), (0, u "EMPTYVALUE"), (0, u "[B"), (0, .fieldref 10 16), (0, .nameAndType 17 14), (0, u "value"), (0, .fieldref 1 19), (0, .nameAndType 20 21), (0, u "COMPACT_STRINGS"), (0, u "Z"), (0, .fieldref 10 23), (0, .nameAndType 24 25), (0, u "coder"), (0, u "B"), (6, .methodref 1 33), (0, .nameAndType 34 35), (0, u "length"), (0, u "()I"), (0, .class_ 37), (0, u "java/lang/Integer"), (1, .integer 2147483647), (0, .methodref 1 41), (0, .nameAndType 24 42), (0, u "()B"), (2, u "append"), (0, u "(Ljava/lang/String;)Ljava/lang/AbstractStringBuilder;"), (1, .class_ 49), (0, u "java/lang/CharSequence"), (19, u "(Ljava/lang/String;)V"), (5, u "maybeLatin1"), (3, .fieldref 10 80), (0, .nameAndType 81 82), (0, u "count"), (0, u "I"), (0, .methodref 10 84), (0, .nameAndType 85 86), (0, u "isLatin1"), (0, u "()Z"), (13, .methodref 10 101), (0, .nameAndType 102 103), (0, u "ensureCapacityInternal"), (0, u "(I)V"), (0, .methodref 10 105), (0, .nameAndType 106 107), (0, u "newCapacity"), (0, u "(I)I"), (0, .methodref 109 110), (0, .class_ 111), (0, .nameAndType 112 113), (0, u "java/util/Arrays"), (0, u "copyOf"), (0, u "([BI)[B"), (0, .methodref 115 116), (0, .class_ 117), (0, .nameAndType 118 119), (0, u "jdk/internal/util/ArraysSupport"), (0, u "newLength"), (0, u "(III)I"), (68, u "getChars"), (19, .methodref 10 209), (0, .nameAndType 210 211), (0, u "putStringAt"), (0, u "(ILjava/lang/String;)V"), (5, u "inflateIfNeededFor"), (2, .nameAndType 221 222), (0, u "getBytes"), (0, u "([BIB)V"), (22, .methodref 36 246), (0, .nameAndType 247 107), (0, u "stringSize"), (0, .methodref 36 249), (0, .nameAndType 188 250), (0, u "(II[B)I"), (146, .methodref 10 398), (0, .nameAndType 217 69), (0, .methodref 1 220), (3, u "()[B"), (40, .class_ 445), (0, u "java/lang/Appendable"), (65, u "(I)Ljava/lang/AbstractStringBuilder;"), (40, u "getValue")] 56

def k9m0 : Method := { name := "<init>", desc := "()V", sig := { parameters := [], returnType := none }, accessFlags := 0, code := none }
def k9c1 : Code := { maxStack := 2, maxLocals := 2, code := jdk_68_method_2_code, exceptionTable := #[], attributes := #[] }
def k9m1 : Method := { name := "<init>", desc := "(I)V", sig := { parameters := [.int], returnType := none }, accessFlags := 0, code := some k9c1 }
def k9c2 : Code := { maxStack := 1, maxLocals := 1, code := jdk_68_method_6_code, exceptionTable := #[], attributes := #[] }
def k9m2 : Method := { name := "length", desc := "()I", sig := { parameters := [], returnType := some .int }, accessFlags := 1, code := some k9c2 }
def k9c3 : Code := { maxStack := 4, maxLocals := 3, code := jdk_68_method_9_code, exceptionTable := #[], attributes := #[] }
def k9m3 : Method := { name := "ensureCapacityInternal", desc := "(I)V", sig := { parameters := [.int], returnType := none }, accessFlags := 2, code := some k9c3 }
def k9c4 : Code := { maxStack := 5, maxLocals := 6, code := jdk_68_method_10_code, exceptionTable := #[], attributes := #[] }
def k9m4 : Method := { name := "newCapacity", desc := "(I)I", sig := { parameters := [.int], returnType := some .int }, accessFlags := 2, code := some k9c4 }
def k9c5 : Code := { maxStack := 3, maxLocals := 3, code := jdk_68_method_22_code, exceptionTable := #[], attributes := #[] }
def k9m5 : Method := { name := "append", desc := "(Ljava/lang/String;)Ljava/lang/AbstractStringBuilder;", sig := { parameters := [(.object "java/lang/String")], returnType := some (.object "java/lang/AbstractStringBuilder") }, accessFlags := 1, code := some k9c5 }
def k9c6 : Code := { maxStack := 4, maxLocals := 4, code := jdk_68_method_32_code, exceptionTable := #[], attributes := #[] }
def k9m6 : Method := { name := "append", desc := "(I)Ljava/lang/AbstractStringBuilder;", sig := { parameters := [.int], returnType := some (.object "java/lang/AbstractStringBuilder") }, accessFlags := 1, code := some k9c6 }
def k9c7 : Code := { maxStack := 1, maxLocals := 1, code := jdk_68_method_64_code, exceptionTable := #[], attributes := #[] }
def k9m7 : Method := { name := "getValue", desc := "()[B", sig := { parameters := [], returnType := some (.array .byte) }, accessFlags := 16, code := some k9c7 }
def k9c8 : Code := { maxStack := 1, maxLocals := 1, code := jdk_68_method_68_code, exceptionTable := #[], attributes := #[] }
def k9m8 : Method := { name := "isLatin1", desc := "()Z", sig := { parameters := [], returnType := some .boolean }, accessFlags := 16, code := some k9c8 }
def k9c9 : Code := { maxStack := 2, maxLocals := 2, code := jdk_68_method_71_code, exceptionTable := #[], attributes := #[] }
def k9m9 : Method := { name := "inflateIfNeededFor", desc := "(Ljava/lang/String;)V", sig := { parameters := [(.object "java/lang/String")], returnType := none }, accessFlags := 2, code := some k9c9 }
def k9c10 : Code := { maxStack := 4, maxLocals := 3, code := jdk_68_method_73_code, exceptionTable := #[], attributes := #[] }
def k9m10 : Method := { name := "putStringAt", desc := "(ILjava/lang/String;)V", sig := { parameters := [.int, (.object "java/lang/String")], returnType := none }, accessFlags := 2, code := some k9c10 }
/-- java/lang/AbstractStringBuilder -/
def k9 : Class := { plain "java/lang/AbstractStringBuilder" (some 0) with
  accessFlags := 1056
  interfaces := #[7, 8]
  cf := some (fileOf pool9 10 #[] #[{ accessFlags := 0, nameIndex := 7, descriptorIndex := 8, attributes := #[] }, { accessFlags := 0, nameIndex := 7, descriptorIndex := 103, attributes := #[] }, { accessFlags := 1, nameIndex := 34, descriptorIndex := 35, attributes := #[] }, { accessFlags := 2, nameIndex := 102, descriptorIndex := 103, attributes := #[] }, { accessFlags := 2, nameIndex := 106, descriptorIndex := 107, attributes := #[] }, { accessFlags := 1, nameIndex := 45, descriptorIndex := 46, attributes := #[] }, { accessFlags := 1, nameIndex := 45, descriptorIndex := 511, attributes := #[] }, { accessFlags := 16, nameIndex := 552, descriptorIndex := 403, attributes := #[] }, { accessFlags := 16, nameIndex := 85, descriptorIndex := 86, attributes := #[] }, { accessFlags := 2, nameIndex := 217, descriptorIndex := 69, attributes := #[] }, { accessFlags := 2, nameIndex := 210, descriptorIndex := 211, attributes := #[] }] 1056 4 #[444, 48] #[{ accessFlags := 0, nameIndex := 17, descriptorIndex := 14, attributes := #[] }, { accessFlags := 0, nameIndex := 24, descriptorIndex := 25, attributes := #[] }, { accessFlags := 0, nameIndex := 75, descriptorIndex := 21, attributes := #[] }, { accessFlags := 0, nameIndex := 81, descriptorIndex := 82, attributes := #[] }, { accessFlags := 26, nameIndex := 13, descriptorIndex := 14, attributes := #[] }])
  fields := #[{ name := "value", type := (.array .byte), accessFlags := 0, slot := 0, constantValue := 0 }, { name := "coder", type := .byte, accessFlags := 0, slot := 1, constantValue := 0 }, { name := "maybeLatin1", type := .boolean, accessFlags := 0, slot := 2, constantValue := 0 }, { name := "count", type := .int, accessFlags := 0, slot := 3, constantValue := 0 }, { name := "EMPTYVALUE", type := (.array .byte), accessFlags := 26, slot := 0, constantValue := 0 }]
  methods := #[k9m0, k9m1, k9m2, k9m3, k9m4, k9m5, k9m6, k9m7, k9m8, k9m9, k9m10]
  instanceTypes := #[(.array .byte), .byte, .boolean, .int]
  staticTypes := #[(.array .byte)]
  resolved := Array.replicate 609 none
  statics := none }

def pool10 : Array CpInfo := pool [(1, .class_ 2), (0, u "java/lang/Comparable"), (0, .class_ 4), (0, u "java/lang/Object")] 7

/-- java/lang/Comparable -/
def k10 : Class := { plain "java/lang/Comparable" (some 0) with
  accessFlags := 1537
  interfaces := #[]
  cf := some (fileOf pool10 1 #[] #[] 1537 3 #[] #[])
  fields := #[]
  methods := #[]
  instanceTypes := #[]
  staticTypes := #[]
  resolved := Array.replicate 12 none
  statics := none }

def pool11 : Array CpInfo := pool [(1, .methodref 2 3), (0, .class_ 4), (0, .nameAndType 5 6), (0, u "java/lang/AbstractStringBuilder"), (0, u "<init>"), (0, u "(I)V"), (11, .class_ 20), (1, u "java/lang/String"), (3, .class_ 26), (1, u "java/lang/StringBuilder"), (0, u "append"), (0, u "(Ljava/lang/String;)Ljava/lang/StringBuilder;"), (0, .methodref 2 30), (0, .nameAndType 27 31), (0, u "(Ljava/lang/String;)Ljava/lang/AbstractStringBuilder;"), (21, .methodref 2 54), (0, .nameAndType 27 55), (0, u "(I)Ljava/lang/AbstractStringBuilder;"), (81, .methodref 18 138), (0, .nameAndType 5 139), (0, u "(Ljava/lang/StringBuilder;)V"), (5, u "()V"), (10, u "()I"), (111, u "(I)Ljava/lang/StringBuilder;"), (74, .methodref 2 344), (0, .nameAndType 345 156), (0, u "length"), (3, .class_ 350), (0, u "java/lang/Appendable"), (0, .class_ 352), (0, u "java/io/Serializable"), (0, .class_ 354), (0, u "java/lang/Comparable"), (0, .class_ 356), (0, u "java/lang/CharSequence"), (0, u "serialVersionUID"), (0, u "J"), (40, u "toString"), (0, u "()Ljava/lang/String;")] 21

def k11c0 : Code := { maxStack := 2, maxLocals := 1, code := jdk_67_method_1_code, exceptionTable := #[], attributes := #[] }
def k11m0 : Method := { name := "<init>", desc := "()V", sig := { parameters := [], returnType := none }, accessFlags := 1, code := some k11c0 }
def k11c1 : Code := { maxStack := 2, maxLocals := 2, code := jdk_67_method_7_code, exceptionTable := #[], attributes := #[] }
def k11m1 : Method := { name := "append", desc := "(Ljava/lang/String;)Ljava/lang/StringBuilder;", sig := { parameters := [(.object "java/lang/String")], returnType := some (.object "java/lang/StringBuilder") }, accessFlags := 1, code := some k11c1 }
def k11c2 : Code := { maxStack := 2, maxLocals := 2, code := jdk_67_method_15_code, exceptionTable := #[], attributes := #[] }
def k11m2 : Method := { name := "append", desc := "(I)Ljava/lang/StringBuilder;", sig := { parameters := [.int], returnType := some (.object "java/lang/StringBuilder") }, accessFlags := 1, code := some k11c2 }
def k11c3 : Code := { maxStack := 3, maxLocals := 1, code := jdk_67_method_42_code, exceptionTable := #[], attributes := #[] }
def k11m3 : Method := { name := "toString", desc := "()Ljava/lang/String;", sig := { parameters := [], returnType := some (.object "java/lang/String") }, accessFlags := 1, code := some k11c3 }
def k11c4 : Code := { maxStack := 1, maxLocals := 1, code := jdk_67_method_93_code, exceptionTable := #[], attributes := #[] }
def k11m4 : Method := { name := "length", desc := "()I", sig := { parameters := [], returnType := some .int }, accessFlags := 4161, code := some k11c4 }
/-- java/lang/StringBuilder -/
def k11 : Class := { plain "java/lang/StringBuilder" (some 9) with
  accessFlags := 49
  interfaces := #[7, 2, 10, 8]
  cf := some (fileOf pool11 24 #[] #[{ accessFlags := 1, nameIndex := 5, descriptorIndex := 145, attributes := #[] }, { accessFlags := 1, nameIndex := 27, descriptorIndex := 28, attributes := #[] }, { accessFlags := 1, nameIndex := 27, descriptorIndex := 268, attributes := #[] }, { accessFlags := 1, nameIndex := 399, descriptorIndex := 400, attributes := #[] }, { accessFlags := 4161, nameIndex := 345, descriptorIndex := 156, attributes := #[] }] 49 2 #[349, 351, 353, 355] #[{ accessFlags := 24, nameIndex := 357, descriptorIndex := 358, attributes := #[] }])
  fields := #[{ name := "serialVersionUID", type := .long, accessFlags := 24, slot := 0, constantValue := 0 }]
  methods := #[k11m0, k11m1, k11m2, k11m3, k11m4]
  instanceTypes := #[(.array .byte), .byte, .boolean, .int]
  staticTypes := #[.long]
  resolved := Array.replicate 422 none
  statics := none }

def pool12 : Array CpInfo := pool [(1, .class_ 2), (0, u "java/lang/constant/Constable"), (0, .class_ 4), (0, u "java/lang/Object")] 6

/-- java/lang/constant/Constable -/
def k12 : Class := { plain "java/lang/constant/Constable" (some 0) with
  accessFlags := 1537
  interfaces := #[]
  cf := some (fileOf pool12 1 #[] #[] 1537 3 #[] #[])
  fields := #[]
  methods := #[]
  instanceTypes := #[]
  staticTypes := #[]
  resolved := Array.replicate 11 none
  statics := none }

def pool13 : Array CpInfo := pool [(1, .class_ 2), (0, u "java/lang/constant/ConstantDesc"), (0, .class_ 4), (0, u "java/lang/Object")] 32

/-- java/lang/constant/ConstantDesc -/
def k13 : Class := { plain "java/lang/constant/ConstantDesc" (some 0) with
  accessFlags := 1537
  interfaces := #[]
  cf := some (fileOf pool13 1 #[] #[] 1537 3 #[] #[])
  fields := #[]
  methods := #[]
  instanceTypes := #[]
  staticTypes := #[]
  resolved := Array.replicate 37 none
  statics := none }

def pool14 : Array CpInfo := pool [(1, .methodref 2 3), (0, .class_ 4), (0, .nameAndType 5 6), (0, u "java/lang/Object"), (0, u "<init>"), (0, u "()V"), (2, .fieldref 10 11), (0, .class_ 12), (0, .nameAndType 13 14), (0, u "java/lang/String"), (0, u "value"), (0, u "[B"), (0, .fieldref 10 16), (0, .nameAndType 17 18), (0, u "coder"), (0, u "B"), (2, u "hash"), (0, u "I"), (2, u "hashIsZero"), (0, u "Z"), (0, .methodref 10 28), (0, .nameAndType 5 29), (0, u "([CIILjava/lang/Void;)V"), (8, .fieldref 10 39), (0, .nameAndType 40 26), (0, u "COMPACT_STRINGS"), (1, .class_ 44), (1, u "java/lang/StringUTF16"), (0, u "compress"), (1, .methodref 42 48), (0, .nameAndType 49 50), (0, u "coderFromArrayLen"), (0, u "([BI)B"), (3, .methodref 55 56), (0, .class_ 57), (0, .nameAndType 58 59), (0, u "java/util/Arrays"), (0, u "copyOfRange"), (0, u "([BII)[B"), (47, .class_ 109), (1, u "java/lang/StringLatin1"), (32, u "()Z"), (34, .methodref 42 178), (0, .nameAndType 45 179), (0, u "([CII)[B"), (13, .class_ 195), (1, u "java/lang/System"), (16, .methodref 193 213), (0, .nameAndType 214 215), (0, u "arraycopy"), (0, u "(Ljava/lang/Object;ILjava/lang/Object;II)V"), (118, u "()I"), (0, .methodref 10 336), (0, .nameAndType 17 337), (0, u "()B"), (2, u "()[B"), (22, u "([BI)C"), (27, u "(II)V"), (35, u "(I)C"), (61, .methodref 10 490), (0, .nameAndType 5 491), (0, u "(Ljava/lang/AbstractStringBuilder;Ljava/lang/Void;)V"), (0, .methodref 10 493), (0, .nameAndType 494 142), (0, u "isLatin1"), (0, .methodref 107 496), (0, .nameAndType 497 363), (0, u "charAt"), (3, u "checkIndex"), (4, .nameAndType 507 334), (0, u "length"), (24, u "getBytes"), (8, .methodref 107 542), (0, .nameAndType 543 544), (0, u "equals"), (0, u "([B[B)Z"), (4, .methodref 550 506), (0, .class_ 551), (0, u "java/lang/AbstractStringBuilder"), (0, .methodref 550 553), (0, .nameAndType 554 340), (0, u "getValue"), (18, u "(Ljava/lang/Object;)Z"), (1, .class_ 576), (0, u "java/lang/CharSequence"), (22, u "CASE_INSENSITIVE_ORDER"), (0, u "Ljava/util/Comparator;"), (220, u "([BIB)V"), (188, u "([C)V"), (36, .methodref 550 493), (5, .fieldref 1054 1055), (0, .class_ 1056), (0, .nameAndType 1057 1058), (0, u "jdk/internal/util/Preconditions"), (0, u "SIOOBE_FORMATTER"), (0, u "Ljava/util/function/BiFunction;"), (0, .methodref 1054 1060), (0, .nameAndType 501 1061), (0, u "(IILjava/util/function/BiFunction;)I"), (39, u "serialPersistentFields"), (0, u "[Ljava/io/ObjectStreamField;"), (0, .class_ 1104), (0, u "java/lang/String$CaseInsensitiveComparator"), (1, .class_ 1107), (0, u "java/io/Serializable"), (0, .class_ 1109), (0, u "java/lang/Comparable"), (0, .class_ 1111), (0, u "java/lang/constant/Constable"), (0, .class_ 1113), (0, u "java/lang/constant/ConstantDesc"), (2, u "serialVersionUID"), (0, u "J"), (3, u "REPL"), (0, u "C"), (2, u "LATIN1"), (1, u "UTF16"), (105, u "(Ljava/lang/StringBuilder;)V")] 217

def k14m0 : Method := { name := "<init>", desc := "()V", sig := { parameters := [], returnType := none }, accessFlags := 1, code := none }
def k14c1 : Code := { maxStack := 5, maxLocals := 2, code := jdk_42_method_3_code, exceptionTable := #[], attributes := #[] }
def k14m1 : Method := { name := "<init>", desc := "([C)V", sig := { parameters := [(.array .char)], returnType := none }, accessFlags := 1, code := some k14c1 }
def k14c2 : Code := { maxStack := 3, maxLocals := 2, code := jdk_42_method_53_code, exceptionTable := #[], attributes := #[] }
def k14m2 : Method := { name := "<init>", desc := "(Ljava/lang/StringBuilder;)V", sig := { parameters := [(.object "java/lang/StringBuilder")], returnType := none }, accessFlags := 1, code := some k14c2 }
def k14c3 : Code := { maxStack := 2, maxLocals := 1, code := jdk_42_method_54_code, exceptionTable := #[], attributes := #[] }
def k14m3 : Method := { name := "length", desc := "()I", sig := { parameters := [], returnType := some .int }, accessFlags := 1, code := some k14c3 }
def k14c4 : Code := { maxStack := 2, maxLocals := 2, code := jdk_42_method_56_code, exceptionTable := #[], attributes := #[] }
def k14m4 : Method := { name := "charAt", desc := "(I)C", sig := { parameters := [.int], returnType := some .char }, accessFlags := 1, code := some k14c4 }
def k14c5 : Code := { maxStack := 2, maxLocals := 3, code := jdk_42_method_66_code, exceptionTable := #[], attributes := #[] }
def k14m5 : Method := { name := "equals", desc := "(Ljava/lang/Object;)Z", sig := { parameters := [(.object "java/lang/Object")], returnType := some .boolean }, accessFlags := 1, code := some k14c5 }
def k14c6 : Code := { maxStack := 5, maxLocals := 4, code := jdk_42_method_147_code, exceptionTable := #[], attributes := #[] }
def k14m6 : Method := { name := "getBytes", desc := "([BIB)V", sig := { parameters := [(.array .byte), .int, .byte], returnType := none }, accessFlags := 0, code := some k14c6 }
def k14c7 : Code := { maxStack := 4, maxLocals := 6, code := jdk_42_method_149_code, exceptionTable := #[], attributes := #[] }
def k14m7 : Method := { name := "<init>", desc := "([CIILjava/lang/Void;)V", sig := { parameters := [(.array .char), .int, .int, (.object "java/lang/Void")], returnType := none }, accessFlags := 2, code := some k14c7 }
def k14c8 : Code := { maxStack := 5, maxLocals := 5, code := jdk_42_method_150_code, exceptionTable := #[], attributes := #[] }
def k14m8 : Method := { name := "<init>", desc := "(Ljava/lang/AbstractStringBuilder;Ljava/lang/Void;)V", sig := { parameters := [(.object "java/lang/AbstractStringBuilder"), (.object "java/lang/Void")], returnType := none }, accessFlags := 0, code := some k14c8 }
def k14c9 : Code := { maxStack := 1, maxLocals := 1, code := jdk_42_method_152_code, exceptionTable := #[], attributes := #[] }
def k14m9 : Method := { name := "coder", desc := "()B", sig := { parameters := [], returnType := some .byte }, accessFlags := 0, code := some k14c9 }
def k14c10 : Code := { maxStack := 1, maxLocals := 1, code := jdk_42_method_154_code, exceptionTable := #[], attributes := #[] }
def k14m10 : Method := { name := "isLatin1", desc := "()Z", sig := { parameters := [], returnType := some .boolean }, accessFlags := 0, code := some k14c10 }
def k14c11 : Code := { maxStack := 3, maxLocals := 2, code := jdk_42_method_155_code, exceptionTable := #[], attributes := #[] }
def k14m11 : Method := { name := "checkIndex", desc := "(II)V", sig := { parameters := [.int, .int], returnType := none }, accessFlags := 8, code := some k14c11 }
/-- java/lang/String -/
def k14 : Class := { plain "java/lang/String" (some 0) with
  accessFlags := 49
  interfaces := #[2, 10, 8, 12, 13]
  cf := some (fileOf pool14 10 #[.nestMembers #[1103]] #[{ accessFlags := 1, nameIndex := 5, descriptorIndex := 6, attributes := #[] }, { accessFlags := 1, nameIndex := 5, descriptorIndex := 1010, attributes := #[] }, { accessFlags := 1, nameIndex := 5, descriptorIndex := 1233, attributes := #[] }, { accessFlags := 1, nameIndex := 507, descriptorIndex := 334, attributes := #[] }, { accessFlags := 1, nameIndex := 497, descriptorIndex := 427, attributes := #[] }, { accessFlags := 1, nameIndex := 543, descriptorIndex := 573, attributes := #[] }, { accessFlags := 0, nameIndex := 532, descriptorIndex := 821, attributes := #[] }, { accessFlags := 2, nameIndex := 5, descriptorIndex := 29, attributes := #[] }, { accessFlags := 0, nameIndex := 5, descriptorIndex := 491, attributes := #[] }, { accessFlags := 0, nameIndex := 17, descriptorIndex := 337, attributes := #[] }, { accessFlags := 0, nameIndex := 494, descriptorIndex := 142, attributes := #[] }, { accessFlags := 8, nameIndex := 501, descriptorIndex := 391, attributes := #[] }] 49 2 #[1106, 1108, 575, 1110, 1112] #[{ accessFlags := 18, nameIndex := 13, descriptorIndex := 14, attributes := #[] }, { accessFlags := 18, nameIndex := 17, descriptorIndex := 18, attributes := #[] }, { accessFlags := 2, nameIndex := 21, descriptorIndex := 22, attributes := #[] }, { accessFlags := 2, nameIndex := 25, descriptorIndex := 26, attributes := #[] }, { accessFlags := 26, nameIndex := 1116, descriptorIndex := 1117, attributes := #[] }, { accessFlags := 24, nameIndex := 40, descriptorIndex := 26, attributes := #[] }, { accessFlags := 26, nameIndex := 1101, descriptorIndex := 1102, attributes := #[] }, { accessFlags := 26, nameIndex := 1121, descriptorIndex := 1122, attributes := #[] }, { accessFlags := 25, nameIndex := 599, descriptorIndex := 600, attributes := #[] }, { accessFlags := 24, nameIndex := 1125, descriptorIndex := 18, attributes := #[] }, { accessFlags := 24, nameIndex := 1127, descriptorIndex := 18, attributes := #[] }])
  fields := #[{ name := "value", type := (.array .byte), accessFlags := 18, slot := 0, constantValue := 0 }, { name := "coder", type := .byte, accessFlags := 18, slot := 1, constantValue := 0 }, { name := "hash", type := .int, accessFlags := 2, slot := 2, constantValue := 0 }, { name := "hashIsZero", type := .boolean, accessFlags := 2, slot := 3, constantValue := 0 }, { name := "serialVersionUID", type := .long, accessFlags := 26, slot := 0, constantValue := 0 }, { name := "COMPACT_STRINGS", type := .boolean, accessFlags := 24, slot := 1, constantValue := 0 }, { name := "serialPersistentFields", type := (.array (.object "java/io/ObjectStreamField")), accessFlags := 26, slot := 2, constantValue := 0 }, { name := "REPL", type := .char, accessFlags := 26, slot := 3, constantValue := 0 }, { name := "CASE_INSENSITIVE_ORDER", type := (.object "java/util/Comparator"), accessFlags := 25, slot := 4, constantValue := 0 }, { name := "LATIN1", type := .byte, accessFlags := 24, slot := 5, constantValue := 0 }, { name := "UTF16", type := .byte, accessFlags := 24, slot := 6, constantValue := 0 }]
  methods := #[k14m0, k14m1, k14m2, k14m3, k14m4, k14m5, k14m6, k14m7, k14m8, k14m9, k14m10, k14m11]
  instanceTypes := #[(.array .byte), .byte, .int, .boolean]
  staticTypes := #[.long, .boolean, (.array (.object "java/io/ObjectStreamField")), .char, (.object "java/util/Comparator"), .byte, .byte]
  resolved := Array.replicate 1451 none
  statics := some 1 }

def pool15 : Array CpInfo := pool [(9, u "<init>"), (6, .class_ 18), (1, u "java/lang/Object"), (0, u "()V"), (1, .class_ 23), (1, u "jdk/internal/util/ArraysSupport"), (0, u "LOG2_ARRAY_LONG_INDEX_SCALE"), (0, u "I"), (2, u "U"), (0, u "Ljdk/internal/misc/Unsafe;"), (8, u "BIG_ENDIAN"), (0, u "Z"), (8, u "LOG2_BYTE_BIT_SIZE"), (4, u "LOG2_ARRAY_INT_INDEX_SCALE"), (54, u "JLA"), (0, u "Ljdk/internal/access/JavaLangAccess;"), (11, u "LOG2_ARRAY_BOOLEAN_INDEX_SCALE"), (9, u "LOG2_ARRAY_BYTE_INDEX_SCALE"), (5, u "LOG2_ARRAY_CHAR_INDEX_SCALE"), (5, u "LOG2_ARRAY_SHORT_INDEX_SCALE"), (18, u "LOG2_ARRAY_FLOAT_INDEX_SCALE"), (24, u "LOG2_ARRAY_DOUBLE_INDEX_SCALE"), (6, .methodref 195 196), (0, .class_ 197), (0, .nameAndType 198 199), (0, u "java/lang/Math"), (0, u "max"), (0, u "(II)I"), (0, .integer 2147483639), (76, u "T_BOOLEAN"), (2, u "T_CHAR"), (1, u "T_FLOAT"), (1, u "T_DOUBLE"), (1, u "T_BYTE"), (1, u "T_SHORT"), (1, u "T_INT"), (1, u "T_LONG"), (1, u "SOFT_MAX_ARRAY_LENGTH"), (56, u "newLength"), (0, u "(III)I")] 25

def k15m0 : Method := { name := "<init>", desc := "()V", sig := { parameters := [], returnType := none }, accessFlags := 2, code := none }
def k15c1 : Code := { maxStack := 3, maxLocals := 4, code := jdk_48_method_27_code, exceptionTable := #[], attributes := #[] }
def k15m1 : Method := { name := "newLength", desc := "(III)I", sig := { parameters := [.int, .int, .int], returnType := some .int }, accessFlags := 9, code := some k15c1 }
/-- jdk/internal/util/ArraysSupport -/
def k15 : Class := { plain "jdk/internal/util/ArraysSupport" (some 0) with
  accessFlags := 33
  interfaces := #[]
  cf := some (fileOf pool15 21 #[] #[{ accessFlags := 2, nameIndex := 9, descriptorIndex := 19, attributes := #[] }, { accessFlags := 9, nameIndex := 351, descriptorIndex := 352, attributes := #[] }] 33 16 #[] #[{ accessFlags := 24, nameIndex := 28, descriptorIndex := 29, attributes := #[] }, { accessFlags := 26, nameIndex := 38, descriptorIndex := 39, attributes := #[] }, { accessFlags := 25, nameIndex := 121, descriptorIndex := 25, attributes := #[] }, { accessFlags := 25, nameIndex := 131, descriptorIndex := 25, attributes := #[] }, { accessFlags := 25, nameIndex := 137, descriptorIndex := 25, attributes := #[] }, { accessFlags := 25, nameIndex := 143, descriptorIndex := 25, attributes := #[] }, { accessFlags := 25, nameIndex := 53, descriptorIndex := 25, attributes := #[] }, { accessFlags := 25, nameIndex := 24, descriptorIndex := 25, attributes := #[] }, { accessFlags := 25, nameIndex := 162, descriptorIndex := 25, attributes := #[] }, { accessFlags := 25, nameIndex := 187, descriptorIndex := 25, attributes := #[] }, { accessFlags := 26, nameIndex := 48, descriptorIndex := 25, attributes := #[] }, { accessFlags := 25, nameIndex := 277, descriptorIndex := 25, attributes := #[] }, { accessFlags := 25, nameIndex := 280, descriptorIndex := 25, attributes := #[] }, { accessFlags := 25, nameIndex := 282, descriptorIndex := 25, attributes := #[] }, { accessFlags := 25, nameIndex := 284, descriptorIndex := 25, attributes := #[] }, { accessFlags := 25, nameIndex := 286, descriptorIndex := 25, attributes := #[] }, { accessFlags := 25, nameIndex := 288, descriptorIndex := 25, attributes := #[] }, { accessFlags := 25, nameIndex := 290, descriptorIndex := 25, attributes := #[] }, { accessFlags := 25, nameIndex := 292, descriptorIndex := 25, attributes := #[] }, { accessFlags := 26, nameIndex := 108, descriptorIndex := 109, attributes := #[] }, { accessFlags := 25, nameIndex := 294, descriptorIndex := 25, attributes := #[] }])
  fields := #[{ name := "U", type := (.object "jdk/internal/misc/Unsafe"), accessFlags := 24, slot := 0, constantValue := 0 }, { name := "BIG_ENDIAN", type := .boolean, accessFlags := 26, slot := 1, constantValue := 0 }, { name := "LOG2_ARRAY_BOOLEAN_INDEX_SCALE", type := .int, accessFlags := 25, slot := 2, constantValue := 0 }, { name := "LOG2_ARRAY_BYTE_INDEX_SCALE", type := .int, accessFlags := 25, slot := 3, constantValue := 0 }, { name := "LOG2_ARRAY_CHAR_INDEX_SCALE", type := .int, accessFlags := 25, slot := 4, constantValue := 0 }, { name := "LOG2_ARRAY_SHORT_INDEX_SCALE", type := .int, accessFlags := 25, slot := 5, constantValue := 0 }, { name := "LOG2_ARRAY_INT_INDEX_SCALE", type := .int, accessFlags := 25, slot := 6, constantValue := 0 }, { name := "LOG2_ARRAY_LONG_INDEX_SCALE", type := .int, accessFlags := 25, slot := 7, constantValue := 0 }, { name := "LOG2_ARRAY_FLOAT_INDEX_SCALE", type := .int, accessFlags := 25, slot := 8, constantValue := 0 }, { name := "LOG2_ARRAY_DOUBLE_INDEX_SCALE", type := .int, accessFlags := 25, slot := 9, constantValue := 0 }, { name := "LOG2_BYTE_BIT_SIZE", type := .int, accessFlags := 26, slot := 10, constantValue := 0 }, { name := "T_BOOLEAN", type := .int, accessFlags := 25, slot := 11, constantValue := 0 }, { name := "T_CHAR", type := .int, accessFlags := 25, slot := 12, constantValue := 0 }, { name := "T_FLOAT", type := .int, accessFlags := 25, slot := 13, constantValue := 0 }, { name := "T_DOUBLE", type := .int, accessFlags := 25, slot := 14, constantValue := 0 }, { name := "T_BYTE", type := .int, accessFlags := 25, slot := 15, constantValue := 0 }, { name := "T_SHORT", type := .int, accessFlags := 25, slot := 16, constantValue := 0 }, { name := "T_INT", type := .int, accessFlags := 25, slot := 17, constantValue := 0 }, { name := "T_LONG", type := .int, accessFlags := 25, slot := 18, constantValue := 0 }, { name := "JLA", type := (.object "jdk/internal/access/JavaLangAccess"), accessFlags := 26, slot := 19, constantValue := 0 }, { name := "SOFT_MAX_ARRAY_LENGTH", type := .int, accessFlags := 25, slot := 20, constantValue := 0 }]
  methods := #[k15m0, k15m1]
  instanceTypes := #[]
  staticTypes := #[(.object "jdk/internal/misc/Unsafe"), .boolean, .int, .int, .int, .int, .int, .int, .int, .int, .int, .int, .int, .int, .int, .int, .int, .int, .int, (.object "jdk/internal/access/JavaLangAccess"), .int]
  resolved := Array.replicate 378 none
  statics := none }

def pool16 : Array CpInfo := pool [(1, .class_ 2), (0, u "java/lang/Math"), (1, .class_ 6), (1, u "java/lang/Object"), (0, u "<init>"), (0, u "()V"), (89, .class_ 100), (1, u "java/lang/Math$RandomNumberGeneratorHolder"), (23, u "abs"), (0, u "(J)J"), (46, u "negativeZeroFloatBits"), (0, u "J"), (2, u "negativeZeroDoubleBits"), (21, u "max"), (2, u "min"), (43, u "$assertionsDisabled"), (0, u "Z"), (88, u "(II)I"), (2, u "twoToTheDoubleScaleDown"), (0, u "D"), (4, u "twoToTheDoubleScaleUp"), (9, u "E"), (3, u "PI"), (2, u "TAU"), (2, u "DEGREES_TO_RADIANS"), (0, u "RADIANS_TO_DEGREES")] 94

def k16m0 : Method := { name := "<init>", desc := "()V", sig := { parameters := [], returnType := none }, accessFlags := 2, code := none }
def k16c1 : Code := { maxStack := 4, maxLocals := 2, code := jdk_29_method_61_code, exceptionTable := #[], attributes := #[] }
def k16m1 : Method := { name := "abs", desc := "(J)J", sig := { parameters := [.long], returnType := some .long }, accessFlags := 9, code := some k16c1 }
def k16c2 : Code := { maxStack := 2, maxLocals := 2, code := jdk_29_method_65_code, exceptionTable := #[], attributes := #[] }
def k16m2 : Method := { name := "max", desc := "(II)I", sig := { parameters := [.int, .int], returnType := some .int }, accessFlags := 9, code := some k16c2 }
def k16c3 : Code := { maxStack := 2, maxLocals := 2, code := jdk_29_method_69_code, exceptionTable := #[], attributes := #[] }
def k16m3 : Method := { name := "min", desc := "(II)I", sig := { parameters := [.int, .int], returnType := some .int }, accessFlags := 9, code := some k16c3 }
/-- java/lang/Math -/
def k16 : Class := { plain "java/lang/Math" (some 0) with
  accessFlags := 49
  interfaces := #[]
  cf := some (fileOf pool16 1 #[.nestMembers #[98]] #[{ accessFlags := 2, nameIndex := 7, descriptorIndex := 8, attributes := #[] }, { accessFlags := 9, nameIndex := 124, descriptorIndex := 125, attributes := #[] }, { accessFlags := 9, nameIndex := 198, descriptorIndex := 335, attributes := #[] }, { accessFlags := 9, nameIndex := 201, descriptorIndex := 335, attributes := #[] }] 49 4 #[] #[{ accessFlags := 25, nameIndex := 354, descriptorIndex := 339, attributes := #[] }, { accessFlags := 25, nameIndex := 358, descriptorIndex := 339, attributes := #[] }, { accessFlags := 25, nameIndex := 361, descriptorIndex := 339, attributes := #[] }, { accessFlags := 26, nameIndex := 364, descriptorIndex := 339, attributes := #[] }, { accessFlags := 26, nameIndex := 365, descriptorIndex := 339, attributes := #[] }, { accessFlags := 26, nameIndex := 172, descriptorIndex := 173, attributes := #[] }, { accessFlags := 26, nameIndex := 176, descriptorIndex := 173, attributes := #[] }, { accessFlags := 8, nameIndex := 344, descriptorIndex := 339, attributes := #[] }, { accessFlags := 8, nameIndex := 338, descriptorIndex := 339, attributes := #[] }, { accessFlags := 4120, nameIndex := 245, descriptorIndex := 246, attributes := #[] }])
  fields := #[{ name := "E", type := .double, accessFlags := 25, slot := 0, constantValue := 0 }, { name := "PI", type := .double, accessFlags := 25, slot := 1, constantValue := 0 }, { name := "TAU", type := .double, accessFlags := 25, slot := 2, constantValue := 0 }, { name := "DEGREES_TO_RADIANS", type := .double, accessFlags := 26, slot := 3, constantValue := 0 }, { name := "RADIANS_TO_DEGREES", type := .double, accessFlags := 26, slot := 4, constantValue := 0 }, { name := "negativeZeroFloatBits", type := .long, accessFlags := 26, slot := 5, constantValue := 0 }, { name := "negativeZeroDoubleBits", type := .long, accessFlags := 26, slot := 6, constantValue := 0 }, { name := "twoToTheDoubleScaleUp", type := .double, accessFlags := 8, slot := 7, constantValue := 0 }, { name := "twoToTheDoubleScaleDown", type := .double, accessFlags := 8, slot := 8, constantValue := 0 }, { name := "$assertionsDisabled", type := .boolean, accessFlags := 4120, slot := 9, constantValue := 0 }]
  methods := #[k16m0, k16m1, k16m2, k16m3]
  instanceTypes := #[]
  staticTypes := #[.double, .double, .double, .double, .double, .long, .long, .double, .double, .boolean]
  resolved := Array.replicate 460 none
  statics := none }

def pool17 : Array CpInfo := pool [(2, .class_ 4), (1, u "java/lang/Object"), (0, u "<init>"), (0, u "()V"), (7, .class_ 16), (1, u "java/util/Arrays"), (57, .class_ 76), (1, u "java/util/Arrays$NaturalOrder"), (32, u "()Ljava/lang/Object;"), (3, .class_ 115), (1, u "java/util/Arrays$LegacyMergeSort"), (1, u "Z"), (10, .nameAndType 129 109), (0, u "clone"), (9, u "copyOfRange"), (10, .methodref 151 152), (0, .class_ 153), (0, .nameAndType 154 155), (0, u "java/lang/System"), (0, u "arraycopy"), (0, u "(Ljava/lang/Object;ILjava/lang/Object;II)V"), (146, u "copyOf"), (1, .methodref 305 306), (0, .class_ 307), (0, .nameAndType 308 309), (0, u "java/lang/Math"), (0, u "min"), (0, u "(II)I"), (0, .methodref 311 128), (0, .class_ 312), (0, u "[B"), (26, .methodref 14 340), (0, .nameAndType 341 342), (0, u "copyOfRangeByte"), (0, u "([BII)[B"), (0, .methodref 14 344), (0, .nameAndType 345 346), (0, u "checkLength"), (0, u "(II)V"), (28, .class_ 376), (0, u "java/util/Arrays$ArrayList"), (68, u "$assertionsDisabled"), (269, u "MIN_ARRAY_SORT_GRAN"), (0, u "I"), (2, u "INSERTIONSORT_THRESHOLD"), (149, u "([BI)[B"), (105, .class_ 976), (0, u "java/util/Arrays$ArrayItr")] 52

def k17m0 : Method := { name := "<init>", desc := "()V", sig := { parameters := [], returnType := none }, accessFlags := 2, code := none }
def k17c1 : Code := { maxStack := 6, maxLocals := 3, code := jdk_65_method_121_code, exceptionTable := #[], attributes := #[] }
def k17m1 : Method := { name := "copyOf", desc := "([BI)[B", sig := { parameters := [(.array .byte), .int], returnType := some (.array .byte) }, accessFlags := 9, code := some k17c1 }
def k17c2 : Code := { maxStack := 4, maxLocals := 2, code := jdk_65_method_131_code, exceptionTable := #[], attributes := #[] }
def k17m2 : Method := { name := "checkLength", desc := "(II)V", sig := { parameters := [.int, .int], returnType := none }, accessFlags := 10, code := some k17c2 }
def k17c3 : Code := { maxStack := 3, maxLocals := 3, code := jdk_65_method_132_code, exceptionTable := #[], attributes := #[] }
def k17m3 : Method := { name := "copyOfRange", desc := "([BII)[B", sig := { parameters := [(.array .byte), .int, .int], returnType := some (.array .byte) }, accessFlags := 9, code := some k17c3 }
def k17c4 : Code := { maxStack := 6, maxLocals := 5, code := jdk_65_method_133_code, exceptionTable := #[], attributes := #[] }
def k17m4 : Method := { name := "copyOfRangeByte", desc := "([BII)[B", sig := { parameters := [(.array .byte), .int, .int], returnType := some (.array .byte) }, accessFlags := 10, code := some k17c4 }
/-- java/util/Arrays -/
def k17 : Class := { plain "java/util/Arrays" (some 0) with
  accessFlags := 49
  interfaces := #[]
  cf := some (fileOf pool17 14 #[.nestMembers #[975, 375, 113, 74]] #[{ accessFlags := 2, nameIndex := 5, descriptorIndex := 6, attributes := #[] }, { accessFlags := 9, nameIndex := 302, descriptorIndex := 869, attributes := #[] }, { accessFlags := 10, nameIndex := 345, descriptorIndex := 346, attributes := #[] }, { accessFlags := 9, nameIndex := 139, descriptorIndex := 342, attributes := #[] }, { accessFlags := 10, nameIndex := 341, descriptorIndex := 342, attributes := #[] }] 49 2 #[] #[{ accessFlags := 26, nameIndex := 715, descriptorIndex := 716, attributes := #[] }, { accessFlags := 26, nameIndex := 719, descriptorIndex := 716, attributes := #[] }, { accessFlags := 4120, nameIndex := 445, descriptorIndex := 117, attributes := #[] }])
  fields := #[{ name := "MIN_ARRAY_SORT_GRAN", type := .int, accessFlags := 26, slot := 0, constantValue := 0 }, { name := "INSERTIONSORT_THRESHOLD", type := .int, accessFlags := 26, slot := 1, constantValue := 0 }, { name := "$assertionsDisabled", type := .boolean, accessFlags := 4120, slot := 2, constantValue := 0 }]
  methods := #[k17m0, k17m1, k17m2, k17m3, k17m4]
  instanceTypes := #[]
  staticTypes := #[.int, .int, .boolean]
  resolved := Array.replicate 1029 none
  statics := none }

def pool18 : Array CpInfo := pool [(2, .class_ 4), (1, u "java/lang/Object"), (0, u "<init>"), (0, u "()V"), (1, .class_ 10), (1, u "java/lang/System"), (0, u "allowSecurityManager"), (0, u "I"), (16, u "cons"), (0, u "Ljava/io/Console;"), (77, .class_ 110), (1, u "java/lang/System$CallersHolder"), (43, u "initialErrStream"), (0, u "Ljava/io/PrintStream;"), (19, u "security"), (0, u "Ljava/lang/SecurityManager;"), (31, .class_ 209), (0, u "java/lang/System$1"), (7, u "props"), (0, u "Ljava/util/Properties;"), (2, u "lineSeparator"), (0, u "Ljava/lang/String;"), (96, .class_ 321), (1, u "java/lang/System$LoggerFinder"), (5, .class_ 328), (0, u "java/lang/System$Logger"), (67, u "err"), (2, u "out"), (91, u "notSupportedJnuEncoding"), (15, u "in"), (17, u "initialIn"), (0, u "Ljava/io/InputStream;"), (35, u "bootLayer"), (0, u "Ljava/lang/ModuleLayer;"), (99, .class_ 664), (0, u "java/lang/System$2"), (9, u "NEVER"), (2, u "MAYBE"), (49, u "arraycopy"), (0, u "(Ljava/lang/Object;ILjava/lang/Object;II)V"), (72, .class_ 802), (0, u "java/lang/System$Logger$Level")] 31

def k18m0 : Method := { name := "<init>", desc := "()V", sig := { parameters := [], returnType := none }, accessFlags := 2, code := none }
def k18m1 : Method := { name := "arraycopy", desc := "(Ljava/lang/Object;ILjava/lang/Object;II)V", sig := { parameters := [(.object "java/lang/Object"), .int, (.object "java/lang/Object"), .int, .int], returnType := none }, accessFlags := 265, code := none }
/-- java/lang/System -/
def k18 : Class := { plain "java/lang/System" (some 0) with
  accessFlags := 49
  interfaces := #[]
  cf := some (fileOf pool18 8 #[.nestMembers #[319, 327, 801, 108, 663, 208]] #[{ accessFlags := 2, nameIndex := 5, descriptorIndex := 6, attributes := #[] }, { accessFlags := 265, nameIndex := 727, descriptorIndex := 728, attributes := #[] }] 49 2 #[] #[{ accessFlags := 25, nameIndex := 507, descriptorIndex := 526, attributes := #[] }, { accessFlags := 25, nameIndex := 399, descriptorIndex := 155, attributes := #[] }, { accessFlags := 25, nameIndex := 396, descriptorIndex := 155, attributes := #[] }, { accessFlags := 10, nameIndex := 525, descriptorIndex := 526, attributes := #[] }, { accessFlags := 26, nameIndex := 674, descriptorIndex := 12, attributes := #[] }, { accessFlags := 26, nameIndex := 677, descriptorIndex := 12, attributes := #[] }, { accessFlags := 10, nameIndex := 11, descriptorIndex := 12, attributes := #[] }, { accessFlags := 74, nameIndex := 175, descriptorIndex := 176, attributes := #[] }, { accessFlags := 10, nameIndex := 491, descriptorIndex := 222, attributes := #[] }, { accessFlags := 74, nameIndex := 29, descriptorIndex := 30, attributes := #[] }, { accessFlags := 74, nameIndex := 154, descriptorIndex := 155, attributes := #[] }, { accessFlags := 10, nameIndex := 217, descriptorIndex := 218, attributes := #[] }, { accessFlags := 10, nameIndex := 221, descriptorIndex := 222, attributes := #[] }, { accessFlags := 8, nameIndex := 562, descriptorIndex := 563, attributes := #[] }])
  fields := #[{ name := "in", type := (.object "java/io/InputStream"), accessFlags := 25, slot := 0, constantValue := 0 }, { name := "out", type := (.object "java/io/PrintStream"), accessFlags := 25, slot := 1, constantValue := 0 }, { name := "err", type := (.object "java/io/PrintStream"), accessFlags := 25, slot := 2, constantValue := 0 }, { name := "initialIn", type := (.object "java/io/InputStream"), accessFlags := 10, slot := 3, constantValue := 0 }, { name := "NEVER", type := .int, accessFlags := 26, slot := 4, constantValue := 0 }, { name := "MAYBE", type := .int, accessFlags := 26, slot := 5, constantValue := 0 }, { name := "allowSecurityManager", type := .int, accessFlags := 10, slot := 6, constantValue := 0 }, { name := "security", type := (.object "java/lang/SecurityManager"), accessFlags := 74, slot := 7, constantValue := 0 }, { name := "notSupportedJnuEncoding", type := (.object "java/lang/String"), accessFlags := 10, slot := 8, constantValue := 0 }, { name := "cons", type := (.object "java/io/Console"), accessFlags := 74, slot := 9, constantValue := 0 }, { name := "initialErrStream", type := (.object "java/io/PrintStream"), accessFlags := 74, slot := 10, constantValue := 0 }, { name := "props", type := (.object "java/util/Properties"), accessFlags := 10, slot := 11, constantValue := 0 }, { name := "lineSeparator", type := (.object "java/lang/String"), accessFlags := 10, slot := 12, constantValue := 0 }, { name := "bootLayer", type := (.object "java/lang/ModuleLayer"), accessFlags := 8, slot := 13, constantValue := 0 }]
  methods := #[k18m0, k18m1]
  instanceTypes := #[]
  staticTypes := #[(.object "java/io/InputStream"), (.object "java/io/PrintStream"), (.object "java/io/PrintStream"), (.object "java/io/InputStream"), .int, .int, .int, (.object "java/lang/SecurityManager"), (.object "java/lang/String"), (.object "java/io/Console"), (.object "java/io/PrintStream"), (.object "java/util/Properties"), (.object "java/lang/String"), (.object "java/lang/ModuleLayer")]
  resolved := Array.replicate 834 none
  statics := none }

def pool19 : Array CpInfo := pool [(2, .class_ 4), (1, u "java/lang/Object"), (0, u "<init>"), (0, u "()V"), (1, .class_ 10), (1, u "java/lang/Number"), (2, .class_ 14), (0, u "java/io/Serializable"), (0, u "serialVersionUID"), (0, u "J")] 20

def k19m0 : Method := { name := "<init>", desc := "()V", sig := { parameters := [], returnType := none }, accessFlags := 1, code := none }
/-- java/lang/Number -/
def k19 : Class := { plain "java/lang/Number" (some 0) with
  accessFlags := 1057
  interfaces := #[2]
  cf := some (fileOf pool19 8 #[] #[{ accessFlags := 1, nameIndex := 5, descriptorIndex := 6, attributes := #[] }] 1057 2 #[13] #[{ accessFlags := 26, nameIndex := 15, descriptorIndex := 16, attributes := #[] }])
  fields := #[{ name := "serialVersionUID", type := .long, accessFlags := 26, slot := 0, constantValue := 0 }]
  methods := #[k19m0]
  instanceTypes := #[]
  staticTypes := #[.long]
  resolved := Array.replicate 37 none
  statics := none }

def pool20 : Array CpInfo := pool [(1, .class_ 2), (0, u "java/lang/Integer"), (16, u "digits"), (0, u "[C"), (33, u "(I)I"), (19, u "stringSize"), (2, u "getChars"), (0, u "(II[B)I"), (4, .fieldref 1 84), (0, .nameAndType 85 86), (0, u "DigitOnes"), (0, u "[B"), (0, .fieldref 1 88), (0, .nameAndType 89 86), (0, u "DigitTens"), (99, .class_ 190), (0, u "java/lang/Integer$IntegerCache"), (3, u "I"), (8, .class_ 204), (0, u "java/lang/Number"), (2, u "value"), (94, u "TYPE"), (0, u "Ljava/lang/Class;"), (0, .class_ 305), (0, u "java/lang/Comparable"), (0, .class_ 307), (0, u "java/lang/constant/Constable"), (0, .class_ 309), (0, u "java/lang/constant/ConstantDesc"), (0, u "MIN_VALUE"), (1, u "MAX_VALUE"), (3, u "SIZE"), (1, u "BYTES"), (1, u "serialVersionUID"), (0, u "J")] 131

def k20c0 : Code := { maxStack := 4, maxLocals := 7, code := jdk_33_method_12_code, exceptionTable := #[], attributes := #[] }
def k20m0 : Method := { name := "getChars", desc := "(II[B)I", sig := { parameters := [.int, .int, (.array .byte)], returnType := some .int }, accessFlags := 8, code := some k20c0 }
def k20c1 : Code := { maxStack := 2, maxLocals := 4, code := jdk_33_method_13_code, exceptionTable := #[], attributes := #[] }
def k20m1 : Method := { name := "stringSize", desc := "(I)I", sig := { parameters := [.int], returnType := some .int }, accessFlags := 8, code := some k20c1 }
/-- java/lang/Integer -/
def k20 : Class := { plain "java/lang/Integer" (some 19) with
  accessFlags := 49
  interfaces := #[10, 12, 13]
  cf := some (fileOf pool20 1 #[.nestMembers #[189]] #[{ accessFlags := 8, nameIndex := 77, descriptorIndex := 78, attributes := #[] }, { accessFlags := 8, nameIndex := 74, descriptorIndex := 54, attributes := #[] }] 49 203 #[304, 306, 308] #[{ accessFlags := 25, nameIndex := 310, descriptorIndex := 194, attributes := #[] }, { accessFlags := 25, nameIndex := 312, descriptorIndex := 194, attributes := #[] }, { accessFlags := 25, nameIndex := 302, descriptorIndex := 303, attributes := #[] }, { accessFlags := 24, nameIndex := 19, descriptorIndex := 20, attributes := #[] }, { accessFlags := 24, nameIndex := 89, descriptorIndex := 86, attributes := #[] }, { accessFlags := 24, nameIndex := 85, descriptorIndex := 86, attributes := #[] }, { accessFlags := 18, nameIndex := 207, descriptorIndex := 194, attributes := #[] }, { accessFlags := 25, nameIndex := 316, descriptorIndex := 194, attributes := #[] }, { accessFlags := 25, nameIndex := 318, descriptorIndex := 194, attributes := #[] }, { accessFlags := 26, nameIndex := 320, descriptorIndex := 321, attributes := #[] }])
  fields := #[{ name := "MIN_VALUE", type := .int, accessFlags := 25, slot := 0, constantValue := 0 }, { name := "MAX_VALUE", type := .int, accessFlags := 25, slot := 1, constantValue := 0 }, { name := "TYPE", type := (.object "java/lang/Class"), accessFlags := 25, slot := 2, constantValue := 0 }, { name := "digits", type := (.array .char), accessFlags := 24, slot := 3, constantValue := 0 }, { name := "DigitTens", type := (.array .byte), accessFlags := 24, slot := 4, constantValue := 0 }, { name := "DigitOnes", type := (.array .byte), accessFlags := 24, slot := 5, constantValue := 0 }, { name := "value", type := .int, accessFlags := 18, slot := 0, constantValue := 0 }, { name := "SIZE", type := .int, accessFlags := 25, slot := 6, constantValue := 0 }, { name := "BYTES", type := .int, accessFlags := 25, slot := 7, constantValue := 0 }, { name := "serialVersionUID", type := .long, accessFlags := 26, slot := 8, constantValue := 0 }]
  methods := #[k20m0, k20m1]
  instanceTypes := #[.int]
  staticTypes := #[.int, .int, (.object "java/lang/Class"), (.array .char), (.array .byte), (.array .byte), .int, .int, .long]
  resolved := Array.replicate 453 none
  statics := some 2 }

def pool21 : Array CpInfo := pool [(1, .class_ 2), (0, u "java/lang/Cloneable"), (0, .class_ 4), (0, u "java/lang/Object")] 2

/-- java/lang/Cloneable -/
def k21 : Class := { plain "java/lang/Cloneable" (some 0) with
  accessFlags := 1537
  interfaces := #[]
  cf := some (fileOf pool21 1 #[] #[] 1537 3 #[] #[])
  fields := #[]
  methods := #[]
  instanceTypes := #[]
  staticTypes := #[]
  resolved := Array.replicate 7 none
  statics := none }

def pool22 : Array CpInfo := pool [(1, .class_ 2), (0, u "java/lang/String"), (1, .class_ 6), (1, u "java/lang/Object"), (0, u "<init>"), (0, u "()V"), (0, .methodref 1 10), (0, .nameAndType 11 12), (0, u "checkIndex"), (0, u "(II)V"), (1, .class_ 16), (1, u "java/lang/StringLatin1"), (36, u "([BI)C"), (67, u "$assertionsDisabled"), (0, u "Z"), (98, .class_ 223), (1, u "java/lang/StringLatin1$LinesSpliterator"), (28, u "charAt"), (28, u "equals"), (0, u "([B[B)Z"), (107, .class_ 391), (0, u "java/lang/StringLatin1$CharsSpliterator")] 3

def k22m0 : Method := { name := "<init>", desc := "()V", sig := { parameters := [], returnType := none }, accessFlags := 0, code := none }
def k22c1 : Code := { maxStack := 2, maxLocals := 2, code := jdk_43_method_2_code, exceptionTable := #[], attributes := #[] }
def k22m1 : Method := { name := "charAt", desc := "([BI)C", sig := { parameters := [(.array .byte), .int], returnType := some .char }, accessFlags := 9, code := some k22c1 }
def k22c2 : Code := { maxStack := 3, maxLocals := 3, code := jdk_43_method_13_code, exceptionTable := #[], attributes := #[] }
def k22m2 : Method := { name := "equals", desc := "([B[B)Z", sig := { parameters := [(.array .byte), (.array .byte)], returnType := some .boolean }, accessFlags := 9, code := some k22c2 }
/-- java/lang/StringLatin1 -/
def k22 : Class := { plain "java/lang/StringLatin1" (some 0) with
  accessFlags := 48
  interfaces := #[]
  cf := some (fileOf pool22 14 #[.nestMembers #[390, 221]] #[{ accessFlags := 0, nameIndex := 7, descriptorIndex := 8, attributes := #[] }, { accessFlags := 9, nameIndex := 252, descriptorIndex := 53, attributes := #[] }, { accessFlags := 9, nameIndex := 281, descriptorIndex := 282, attributes := #[] }] 48 4 #[] #[{ accessFlags := 4120, nameIndex := 121, descriptorIndex := 122, attributes := #[] }])
  fields := #[{ name := "$assertionsDisabled", type := .boolean, accessFlags := 4120, slot := 0, constantValue := 0 }]
  methods := #[k22m0, k22m1, k22m2]
  instanceTypes := #[]
  staticTypes := #[.boolean]
  resolved := Array.replicate 395 none
  statics := none }

def pool23 : Array CpInfo := pool [(2, .class_ 4), (1, u "java/lang/Object"), (0, u "<init>"), (0, u "()V"), (17, .class_ 26), (1, u "jdk/internal/util/Preconditions"), (6, u "checkIndex"), (21, .class_ 56), (0, u "jdk/internal/util/Preconditions$4"), (57, .class_ 115), (0, u "jdk/internal/util/Preconditions$1"), (7, u "SIOOBE_FORMATTER"), (0, u "Ljava/util/function/BiFunction;"), (0, .class_ 126), (0, u "jdk/internal/util/Preconditions$2"), (3, u "AIOOBE_FORMATTER"), (0, .class_ 132), (0, u "jdk/internal/util/Preconditions$3"), (3, u "IOOBE_FORMATTER"), (41, u "(IILjava/util/function/BiFunction;)I")] 15

def k23m0 : Method := { name := "<init>", desc := "()V", sig := { parameters := [], returnType := none }, accessFlags := 1, code := none }
def k23c1 : Code := { maxStack := 3, maxLocals := 3, code := jdk_41_method_11_code, exceptionTable := #[], attributes := #[] }
def k23m1 : Method := { name := "checkIndex", desc := "(IILjava/util/function/BiFunction;)I", sig := { parameters := [.int, .int, (.object "java/util/function/BiFunction")], returnType := some .int }, accessFlags := 9, code := some k23c1 }
/-- jdk/internal/util/Preconditions -/
def k23 : Class := { plain "jdk/internal/util/Preconditions" (some 0) with
  accessFlags := 33
  interfaces := #[]
  cf := some (fileOf pool23 24 #[.nestMembers #[55, 131, 125, 114]] #[{ accessFlags := 1, nameIndex := 5, descriptorIndex := 6, attributes := #[] }, { accessFlags := 9, nameIndex := 33, descriptorIndex := 178, attributes := #[] }] 33 2 #[] #[{ accessFlags := 25, nameIndex := 123, descriptorIndex := 124, attributes := #[] }, { accessFlags := 25, nameIndex := 130, descriptorIndex := 124, attributes := #[] }, { accessFlags := 25, nameIndex := 136, descriptorIndex := 124, attributes := #[] }])
  fields := #[{ name := "SIOOBE_FORMATTER", type := (.object "java/util/function/BiFunction"), accessFlags := 25, slot := 0, constantValue := 0 }, { name := "AIOOBE_FORMATTER", type := (.object "java/util/function/BiFunction"), accessFlags := 25, slot := 1, constantValue := 0 }, { name := "IOOBE_FORMATTER", type := (.object "java/util/function/BiFunction"), accessFlags := 25, slot := 2, constantValue := 0 }]
  methods := #[k23m0, k23m1]
  instanceTypes := #[]
  staticTypes := #[(.object "java/util/function/BiFunction"), (.object "java/util/function/BiFunction"), (.object "java/util/function/BiFunction")]
  resolved := Array.replicate 194 none
  statics := some 3 }

def pool24 : Array CpInfo := pool [(6, .class_ 8), (1, u "java/lang/Object"), (0, u "<init>"), (0, u "()V"), (1, .class_ 14), (1, u "java/lang/StringUTF16"), (31, u "$assertionsDisabled"), (0, u "Z"), (13, u "HI_BYTE_SHIFT"), (0, u "I"), (2, u "LO_BYTE_SHIFT"), (49, .methodref 12 116), (0, .nameAndType 117 118), (0, u "compress"), (0, u "([CI[BII)I"), (3, u "([CII)[B"), (138, u "coderFromArrayLen"), (0, u "([BI)B"), (106, .class_ 371), (1, u "java/lang/StringUTF16$LinesSpliterator"), (58, u "MAX_LENGTH"), (196, .class_ 628), (0, u "java/lang/StringUTF16$CodePointsSpliterator"), (0, .class_ 630), (0, u "java/lang/StringUTF16$CharsSpliterator")] 4

def k24m0 : Method := { name := "<init>", desc := "()V", sig := { parameters := [], returnType := none }, accessFlags := 0, code := none }
def k24c1 : Code := { maxStack := 2, maxLocals := 2, code := jdk_52_method_15_code, exceptionTable := #[], attributes := #[] }
def k24m1 : Method := { name := "coderFromArrayLen", desc := "([BI)B", sig := { parameters := [(.array .byte), .int], returnType := some .byte }, accessFlags := 8, code := some k24c1 }
def k24c2 : Code := { maxStack := 5, maxLocals := 6, code := jdk_52_method_16_code, exceptionTable := #[], attributes := #[] }
def k24m2 : Method := { name := "compress", desc := "([CII)[B", sig := { parameters := [(.array .char), .int, .int], returnType := some (.array .byte) }, accessFlags := 9, code := some k24c2 }
def k24c3 : Code := { maxStack := 3, maxLocals := 7, code := jdk_52_method_21_code, exceptionTable := #[], attributes := #[] }
def k24m3 : Method := { name := "compress", desc := "([CI[BII)I", sig := { parameters := [(.array .char), .int, (.array .byte), .int, .int], returnType := some .int }, accessFlags := 9, code := some k24c3 }
/-- java/lang/StringUTF16 -/
def k24 : Class := { plain "java/lang/StringUTF16" (some 0) with
  accessFlags := 48
  interfaces := #[]
  cf := some (fileOf pool24 12 #[.nestMembers #[627, 629, 369]] #[{ accessFlags := 0, nameIndex := 9, descriptorIndex := 10, attributes := #[] }, { accessFlags := 8, nameIndex := 261, descriptorIndex := 262, attributes := #[] }, { accessFlags := 9, nameIndex := 117, descriptorIndex := 122, attributes := #[] }, { accessFlags := 9, nameIndex := 117, descriptorIndex := 118, attributes := #[] }] 48 6 #[] #[{ accessFlags := 26, nameIndex := 61, descriptorIndex := 62, attributes := #[] }, { accessFlags := 26, nameIndex := 65, descriptorIndex := 62, attributes := #[] }, { accessFlags := 24, nameIndex := 430, descriptorIndex := 62, attributes := #[] }, { accessFlags := 4120, nameIndex := 46, descriptorIndex := 47, attributes := #[] }])
  fields := #[{ name := "HI_BYTE_SHIFT", type := .int, accessFlags := 26, slot := 0, constantValue := 0 }, { name := "LO_BYTE_SHIFT", type := .int, accessFlags := 26, slot := 1, constantValue := 0 }, { name := "MAX_LENGTH", type := .int, accessFlags := 24, slot := 2, constantValue := 0 }, { name := "$assertionsDisabled", type := .boolean, accessFlags := 4120, slot := 3, constantValue := 0 }]
  methods := #[k24m0, k24m1, k24m2, k24m3]
  instanceTypes := #[]
  staticTypes := #[.int, .int, .int, .boolean]
  resolved := Array.replicate 635 none
  statics := none }

def pool25 : Array CpInfo := pool [(2, .class_ 4), (1, u "java/lang/Object"), (0, u "<init>"), (0, u "()V"), (12, .class_ 20), (0, u "java/util/Collections"), (63, u "r"), (0, u "Ljava/util/Random;"), (80, .class_ 167), (0, u "java/util/Collections$UnmodifiableCollection"), (6, .class_ 175), (0, u "java/util/Collections$UnmodifiableSequencedCollection"), (6, .class_ 183), (0, u "java/util/Collections$UnmodifiableSet"), (6, .class_ 191), (0, u "java/util/Collections$UnmodifiableSequencedSet"), (6, .class_ 199), (0, u "java/util/Collections$UnmodifiableSortedSet"), (6, .class_ 207), (0, u "java/util/Collections$UnmodifiableNavigableSet"), (4, .class_ 213), (0, u "java/util/Collections$UnmodifiableList"), (1, .class_ 216), (0, u "java/util/Collections$UnmodifiableRandomAccessList"), (6, .class_ 224), (0, u "java/util/Collections$UnmodifiableMap"), (6, .class_ 232), (0, u "java/util/Collections$UnmodifiableSequencedMap"), (4, .class_ 238), (0, u "java/util/Collections$UnmodifiableSortedMap"), (6, .class_ 246), (0, u "java/util/Collections$UnmodifiableNavigableMap"), (3, .class_ 251), (0, u "java/util/Collections$SynchronizedCollection"), (4, .class_ 257), (0, u "java/util/Collections$SynchronizedSet"), (4, .class_ 263), (0, u "java/util/Collections$SynchronizedSortedSet"), (1, .class_ 266), (0, u "java/util/Collections$SynchronizedNavigableSet"), (1, .class_ 269), (0, u "java/util/Collections$SynchronizedRandomAccessList"), (1, .class_ 272), (0, u "java/util/Collections$SynchronizedList"), (5, .class_ 279), (0, u "java/util/Collections$SynchronizedMap"), (1, .class_ 282), (0, u "java/util/Collections$SynchronizedSortedMap"), (1, .class_ 285), (0, u "java/util/Collections$SynchronizedNavigableMap"), (1, .class_ 288), (0, u "java/util/Collections$CheckedCollection"), (11, .class_ 301), (0, u "java/util/Collections$CheckedQueue"), (3, .class_ 306), (0, u "java/util/Collections$CheckedSet"), (3, .class_ 311), (0, u "java/util/Collections$CheckedSortedSet"), (3, .class_ 316), (0, u "java/util/Collections$CheckedNavigableSet"), (3, .class_ 321), (0, u "java/util/Collections$CheckedRandomAccessList"), (3, .class_ 326), (0, u "java/util/Collections$CheckedList"), (1, .class_ 329), (0, u "java/util/Collections$CheckedMap"), (3, .class_ 334), (0, u "java/util/Collections$CheckedSortedMap"), (3, .class_ 339), (0, u "java/util/Collections$CheckedNavigableMap"), (4, .class_ 346), (1, u "java/util/Collections$EmptyIterator"), (3, .class_ 352), (1, u "java/util/Collections$EmptyListIterator"), (2, .class_ 357), (1, u "java/util/Collections$EmptyEnumeration"), (4, u "EMPTY_SET"), (0, u "Ljava/util/Set;"), (6, u "EMPTY_LIST"), (0, u "Ljava/util/List;"), (2, u "EMPTY_MAP"), (0, u "Ljava/util/Map;"), (4, .class_ 381), (0, u "java/util/Collections$SingletonSet"), (2, .class_ 385), (0, u "java/util/Collections$1"), (1, .class_ 388), (0, u "java/util/Collections$2"), (1, .class_ 391), (0, u "java/util/Collections$SingletonList"), (1, .class_ 394), (0, u "java/util/Collections$SingletonMap"), (22, .class_ 418), (0, u "java/util/Collections$CopiesList"), (4, .class_ 425), (1, u "java/util/Collections$ReverseComparator"), (8, .class_ 435), (0, u "java/util/Collections$ReverseComparator2"), (6, .class_ 443), (0, u "java/util/Collections$3"), (25, .class_ 470), (0, u "java/util/Collections$SetFromMap"), (2, .class_ 474), (0, u "java/util/Collections$SequencedSetFromMap"), (3, .class_ 479), (0, u "java/util/Collections$AsLIFOQueue"), (11, .class_ 492), (0, u "java/util/Collections$EmptySet"), (1, .class_ 495), (0, u "java/util/Collections$EmptyList"), (1, .class_ 498), (0, u "java/util/Collections$EmptyMap"), (1, u "BINARYSEARCH_THRESHOLD"), (0, u "I"), (2, u "REVERSE_THRESHOLD"), (1, u "SHUFFLE_THRESHOLD"), (1, u "FILL_THRESHOLD"), (1, u "ROTATE_THRESHOLD"), (1, u "COPY_THRESHOLD"), (1, u "REPLACEALL_THRESHOLD"), (1, u "INDEXOFSUBLIST_THRESHOLD"), (333, .class_ 851), (0, u "java/util/Collections$CheckedMap$CheckedEntrySet"), (0, .class_ 853), (0, u "java/util/Collections$CheckedMap$CheckedEntrySet$CheckedEntry"), (0, .class_ 855), (0, u "java/util/Collections$CheckedMap$CheckedEntrySet$1"), (0, .class_ 857), (0, u "java/util/Collections$CheckedList$1"), (0, .class_ 859), (0, u "java/util/Collections$CheckedCollection$1"), (0, .class_ 861), (0, u "java/util/Collections$UnmodifiableNavigableMap$EmptyNavigableMap"), (0, .class_ 863), (0, u "java/util/Collections$UnmodifiableMap$UnmodifiableEntrySet"), (0, .class_ 865), (0, u "java/util/Collections$UnmodifiableMap$UnmodifiableEntrySet$UnmodifiableEntry"), (0, .class_ 867), (0, u "java/util/Collections$UnmodifiableMap$UnmodifiableEntrySet$UnmodifiableEntrySetSpliterator"), (0, .class_ 869), (0, u "java/util/Collections$UnmodifiableMap$UnmodifiableEntrySet$1"), (0, .class_ 871), (0, u "java/util/Collections$UnmodifiableList$1"), (0, .class_ 873), (0, u "java/util/Collections$UnmodifiableNavigableSet$EmptyNavigableSet"), (0, .class_ 875), (0, u "java/util/Collections$UnmodifiableCollection$1")] 57

def k25m0 : Method := { name := "<init>", desc := "()V", sig := { parameters := [], returnType := none }, accessFlags := 2, code := none }
/-- java/util/Collections -/
def k25 : Class := { plain "java/util/Collections" (some 0) with
  accessFlags := 33
  interfaces := #[]
  cf := some (fileOf pool25 19 #[.nestMembers #[478, 473, 469, 434, 423, 417, 393, 390, 380, 497, 494, 491, 355, 350, 344, 338, 333, 328, 850, 852, 854, 320, 325, 856, 315, 310, 305, 300, 287, 858, 284, 281, 278, 268, 271, 265, 262, 256, 250, 245, 860, 237, 231, 223, 862, 864, 866, 868, 215, 212, 870, 206, 872, 198, 190, 182, 174, 166, 874, 442, 387, 384]] #[{ accessFlags := 2, nameIndex := 5, descriptorIndex := 6, attributes := #[] }] 33 2 #[] #[{ accessFlags := 26, nameIndex := 500, descriptorIndex := 501, attributes := #[] }, { accessFlags := 26, nameIndex := 504, descriptorIndex := 501, attributes := #[] }, { accessFlags := 26, nameIndex := 506, descriptorIndex := 501, attributes := #[] }, { accessFlags := 26, nameIndex := 508, descriptorIndex := 501, attributes := #[] }, { accessFlags := 26, nameIndex := 510, descriptorIndex := 501, attributes := #[] }, { accessFlags := 26, nameIndex := 512, descriptorIndex := 501, attributes := #[] }, { accessFlags := 26, nameIndex := 514, descriptorIndex := 501, attributes := #[] }, { accessFlags := 26, nameIndex := 516, descriptorIndex := 501, attributes := #[] }, { accessFlags := 10, nameIndex := 84, descriptorIndex := 85, attributes := #[] }, { accessFlags := 25, nameIndex := 362, descriptorIndex := 363, attributes := #[] }, { accessFlags := 25, nameIndex := 370, descriptorIndex := 371, attributes := #[] }, { accessFlags := 25, nameIndex := 374, descriptorIndex := 375, attributes := #[] }])
  fields := #[{ name := "BINARYSEARCH_THRESHOLD", type := .int, accessFlags := 26, slot := 0, constantValue := 0 }, { name := "REVERSE_THRESHOLD", type := .int, accessFlags := 26, slot := 1, constantValue := 0 }, { name := "SHUFFLE_THRESHOLD", type := .int, accessFlags := 26, slot := 2, constantValue := 0 }, { name := "FILL_THRESHOLD", type := .int, accessFlags := 26, slot := 3, constantValue := 0 }, { name := "ROTATE_THRESHOLD", type := .int, accessFlags := 26, slot := 4, constantValue := 0 }, { name := "COPY_THRESHOLD", type := .int, accessFlags := 26, slot := 5, constantValue := 0 }, { name := "REPLACEALL_THRESHOLD", type := .int, accessFlags := 26, slot := 6, constantValue := 0 }, { name := "INDEXOFSUBLIST_THRESHOLD", type := .int, accessFlags := 26, slot := 7, constantValue := 0 }, { name := "r", type := (.object "java/util/Random"), accessFlags := 10, slot := 8, constantValue := 0 }, { name := "EMPTY_SET", type := (.object "java/util/Set"), accessFlags := 25, slot := 9, constantValue := 0 }, { name := "EMPTY_LIST", type := (.object "java/util/List"), accessFlags := 25, slot := 10, constantValue := 0 }, { name := "EMPTY_MAP", type := (.object "java/util/Map"), accessFlags := 25, slot := 11, constantValue := 0 }]
  methods := #[k25m0]
  instanceTypes := #[]
  staticTypes := #[.int, .int, .int, .int, .int, .int, .int, .int, (.object "java/util/Random"), (.object "java/util/Set"), (.object "java/util/List"), (.object "java/util/Map")]
  resolved := Array.replicate 933 none
  statics := some 4 }

def pool26 : Array CpInfo := pool [(8, .class_ 10), (1, u "java/lang/Iterable"), (24, .class_ 36), (0, u "java/lang/Object")] 25

/-- java/lang/Iterable -/
def k26 : Class := { plain "java/lang/Iterable" (some 0) with
  accessFlags := 1537
  interfaces := #[]
  cf := some (fileOf pool26 8 #[] #[] 1537 35 #[] #[])
  fields := #[]
  methods := #[]
  instanceTypes := #[]
  staticTypes := #[]
  resolved := Array.replicate 62 none
  statics := none }

def pool27 : Array CpInfo := pool [(10, .class_ 12), (1, u "java/util/Collection"), (47, .class_ 61), (0, u "java/lang/Object"), (0, .class_ 63), (0, u "java/lang/Iterable")] 51

/-- java/util/Collection -/
def k27 : Class := { plain "java/util/Collection" (some 0) with
  accessFlags := 1537
  interfaces := #[26]
  cf := some (fileOf pool27 10 #[] #[] 1537 60 #[62] #[])
  fields := #[]
  methods := #[]
  instanceTypes := #[]
  staticTypes := #[]
  resolved := Array.replicate 115 none
  statics := none }

def pool28 : Array CpInfo := pool [(2, .class_ 4), (1, u "java/lang/Object"), (0, u "<init>"), (0, u "()V"), (1, .class_ 10), (1, u "java/util/AbstractCollection"), (66, .class_ 78), (0, u "java/util/Collection")] 81

def k28m0 : Method := { name := "<init>", desc := "()V", sig := { parameters := [], returnType := none }, accessFlags := 4, code := none }
/-- java/util/AbstractCollection -/
def k28 : Class := { plain "java/util/AbstractCollection" (some 0) with
  accessFlags := 1057
  interfaces := #[27]
  cf := some (fileOf pool28 8 #[] #[{ accessFlags := 4, nameIndex := 5, descriptorIndex := 6, attributes := #[] }] 1057 2 #[77] #[])
  fields := #[]
  methods := #[k28m0]
  instanceTypes := #[]
  staticTypes := #[]
  resolved := Array.replicate 160 none
  statics := none }

def pool29 : Array CpInfo := pool [(8, .class_ 10), (1, u "java/util/SequencedCollection"), (15, .class_ 27), (0, u "java/lang/Object"), (0, .class_ 29), (0, u "java/util/Collection")] 27

/-- java/util/SequencedCollection -/
def k29 : Class := { plain "java/util/SequencedCollection" (some 0) with
  accessFlags := 1537
  interfaces := #[27]
  cf := some (fileOf pool29 8 #[] #[] 1537 26 #[28] #[])
  fields := #[]
  methods := #[]
  instanceTypes := #[]
  staticTypes := #[]
  resolved := Array.replicate 57 none
  statics := none }

def pool30 : Array CpInfo := pool [(8, .class_ 10), (1, u "java/util/List"), (92, .class_ 104), (0, u "java/lang/Object"), (15, .class_ 121), (0, u "java/util/SequencedCollection")] 129

/-- java/util/List -/
def k30 : Class := { plain "java/util/List" (some 0) with
  accessFlags := 1537
  interfaces := #[29]
  cf := some (fileOf pool30 8 #[] #[] 1537 103 #[120] #[])
  fields := #[]
  methods := #[]
  instanceTypes := #[]
  staticTypes := #[]
  resolved := Array.replicate 251 none
  statics := none }

def pool31 : Array CpInfo := pool [(2, .class_ 4), (1, u "java/util/AbstractCollection"), (0, u "<init>"), (0, u "()V"), (1, .class_ 10), (1, u "java/util/AbstractList"), (0, u "modCount"), (0, u "I"), (64, .class_ 78), (0, u "java/util/AbstractList$Itr"), (3, .class_ 83), (0, u "java/util/AbstractList$ListItr"), (9, .class_ 94), (0, u "java/util/AbstractList$RandomAccessSubList"), (3, .class_ 99), (0, u "java/util/AbstractList$SubList"), (33, .class_ 134), (0, u "java/util/List"), (73, .class_ 209), (0, u "java/util/AbstractList$SubList$1"), (0, .class_ 211), (0, u "java/util/AbstractList$RandomAccessSpliterator")] 6

def k31m0 : Method := { name := "<init>", desc := "()V", sig := { parameters := [], returnType := none }, accessFlags := 4, code := none }
/-- java/util/AbstractList -/
def k31 : Class := { plain "java/util/AbstractList" (some 28) with
  accessFlags := 1057
  interfaces := #[30]
  cf := some (fileOf pool31 8 #[.nestMembers #[93, 98, 208, 210, 82, 77]] #[{ accessFlags := 4, nameIndex := 5, descriptorIndex := 6, attributes := #[] }] 1057 2 #[133] #[{ accessFlags := 132, nameIndex := 11, descriptorIndex := 12, attributes := #[] }])
  fields := #[{ name := "modCount", type := .int, accessFlags := 132, slot := 0, constantValue := 0 }]
  methods := #[k31m0]
  instanceTypes := #[.int]
  staticTypes := #[]
  resolved := Array.replicate 218 none
  statics := none }

def pool32 : Array CpInfo := pool [(1, .class_ 2), (0, u "java/util/RandomAccess"), (0, .class_ 4), (0, u "java/lang/Object")] 2

/-- java/util/RandomAccess -/
def k32 : Class := { plain "java/util/RandomAccess" (some 0) with
  accessFlags := 1537
  interfaces := #[]
  cf := some (fileOf pool32 1 #[] #[] 1537 3 #[] #[])
  fields := #[]
  methods := #[]
  instanceTypes := #[]
  staticTypes := #[]
  resolved := Array.replicate 7 none
  statics := none }

def pool33 : Array CpInfo := pool [(2, .class_ 4), (1, u "java/util/AbstractList"), (0, u "<init>"), (0, u "()V"), (1, .class_ 10), (1, u "java/util/Collections"), (54, .class_ 66), (0, u "java/util/Collections$EmptyList"), (0, .class_ 68), (0, u "java/util/RandomAccess"), (0, .class_ 70), (0, u "java/io/Serializable"), (0, u "serialVersionUID"), (0, u "J")] 77

def k33m0 : Method := { name := "<init>", desc := "()V", sig := { parameters := [], returnType := none }, accessFlags := 2, code := none }
/-- java/util/Collections$EmptyList -/
def k33 : Class := { plain "java/util/Collections$EmptyList" (some 31) with
  accessFlags := 32
  interfaces := #[32, 2]
  cf := some (fileOf pool33 65 #[.nestHost 8] #[{ accessFlags := 2, nameIndex := 5, descriptorIndex := 6, attributes := #[] }] 32 2 #[67, 69] #[{ accessFlags := 26, nameIndex := 71, descriptorIndex := 72, attributes := #[] }])
  fields := #[{ name := "serialVersionUID", type := .long, accessFlags := 26, slot := 0, constantValue := 0 }]
  methods := #[k33m0]
  instanceTypes := #[.int]
  staticTypes := #[.long]
  resolved := Array.replicate 150 none
  statics := none }

def pool34 : Array CpInfo := pool [(2, .class_ 4), (1, u "java/lang/StackTraceElement"), (0, u "<init>"), (2, .class_ 10), (1, u "java/lang/Object"), (0, u "()V"), (2, u "format"), (0, u "B"), (2, u "classLoaderName"), (0, u "Ljava/lang/String;"), (2, u "moduleName"), (2, u "moduleVersion"), (12, u "declaringClass"), (4, u "methodName"), (2, u "fileName"), (2, u "lineNumber"), (0, u "I"), (65, u "declaringClassObject"), (0, u "Ljava/lang/Class;"), (33, .class_ 153), (1, u "java/lang/StackTraceElement$HashedModules"), (17, .class_ 172), (0, u "java/io/Serializable"), (0, u "NATIVE_METHOD"), (1, u "UNKNOWN_SOURCE"), (2, u "BUILTIN_CLASS_LOADER"), (1, u "JDK_NON_UPGRADEABLE_MODULE"), (1, u "serialVersionUID"), (0, u "J")] 51

def k34m0 : Method := { name := "<init>", desc := "()V", sig := { parameters := [], returnType := none }, accessFlags := 2, code := none }
/-- java/lang/StackTraceElement -/
def k34 : Class := { plain "java/lang/StackTraceElement" (some 0) with
  accessFlags := 49
  interfaces := #[2]
  cf := some (fileOf pool34 2 #[.nestMembers #[151]] #[{ accessFlags := 2, nameIndex := 5, descriptorIndex := 11, attributes := #[] }] 49 8 #[171] #[{ accessFlags := 26, nameIndex := 173, descriptorIndex := 19, attributes := #[] }, { accessFlags := 26, nameIndex := 175, descriptorIndex := 19, attributes := #[] }, { accessFlags := 130, nameIndex := 116, descriptorIndex := 117, attributes := #[] }, { accessFlags := 2, nameIndex := 18, descriptorIndex := 19, attributes := #[] }, { accessFlags := 2, nameIndex := 22, descriptorIndex := 19, attributes := #[] }, { accessFlags := 2, nameIndex := 25, descriptorIndex := 19, attributes := #[] }, { accessFlags := 2, nameIndex := 38, descriptorIndex := 19, attributes := #[] }, { accessFlags := 2, nameIndex := 43, descriptorIndex := 19, attributes := #[] }, { accessFlags := 2, nameIndex := 46, descriptorIndex := 19, attributes := #[] }, { accessFlags := 2, nameIndex := 49, descriptorIndex := 50, attributes := #[] }, { accessFlags := 2, nameIndex := 14, descriptorIndex := 15, attributes := #[] }, { accessFlags := 26, nameIndex := 178, descriptorIndex := 15, attributes := #[] }, { accessFlags := 26, nameIndex := 180, descriptorIndex := 15, attributes := #[] }, { accessFlags := 26, nameIndex := 182, descriptorIndex := 183, attributes := #[] }])
  fields := #[{ name := "NATIVE_METHOD", type := (.object "java/lang/String"), accessFlags := 26, slot := 0, constantValue := 0 }, { name := "UNKNOWN_SOURCE", type := (.object "java/lang/String"), accessFlags := 26, slot := 1, constantValue := 0 }, { name := "declaringClassObject", type := (.object "java/lang/Class"), accessFlags := 130, slot := 0, constantValue := 0 }, { name := "classLoaderName", type := (.object "java/lang/String"), accessFlags := 2, slot := 1, constantValue := 0 }, { name := "moduleName", type := (.object "java/lang/String"), accessFlags := 2, slot := 2, constantValue := 0 }, { name := "moduleVersion", type := (.object "java/lang/String"), accessFlags := 2, slot := 3, constantValue := 0 }, { name := "declaringClass", type := (.object "java/lang/String"), accessFlags := 2, slot := 4, constantValue := 0 }, { name := "methodName", type := (.object "java/lang/String"), accessFlags := 2, slot := 5, constantValue := 0 }, { name := "fileName", type := (.object "java/lang/String"), accessFlags := 2, slot := 6, constantValue := 0 }, { name := "lineNumber", type := .int, accessFlags := 2, slot := 7, constantValue := 0 }, { name := "format", type := .byte, accessFlags := 2, slot := 8, constantValue := 0 }, { name := "BUILTIN_CLASS_LOADER", type := .byte, accessFlags := 26, slot := 2, constantValue := 0 }, { name := "JDK_NON_UPGRADEABLE_MODULE", type := .byte, accessFlags := 26, slot := 3, constantValue := 0 }, { name := "serialVersionUID", type := .long, accessFlags := 26, slot := 4, constantValue := 0 }]
  methods := #[k34m0]
  instanceTypes := #[(.object "java/lang/Class"), (.object "java/lang/String"), (.object "java/lang/String"), (.object "java/lang/String"), (.object "java/lang/String"), (.object "java/lang/String"), (.object "java/lang/String"), .int, .byte]
  staticTypes := #[(.object "java/lang/String"), (.object "java/lang/String"), .byte, .byte, .long]
  resolved := Array.replicate 235 none
  statics := none }

/-- the primitive byte -/
def k35 : Class := { plain "byte" none with kind := .primitive 'B', accessFlags := 0x411 }
/-- [B -/
def k36 : Class := { plain "[B" (some 0) with kind := .array 35 .byte, interfaces := #[21, 2], accessFlags := 1041 }

/-- the primitive char -/
def k37 : Class := { plain "char" none with kind := .primitive 'C', accessFlags := 0x411 }
/-- [C -/
def k38 : Class := { plain "[C" (some 0) with kind := .array 37 .char, interfaces := #[21, 2], accessFlags := 1041 }

/-- the primitive int -/
def k39 : Class := { plain "int" none with kind := .primitive 'I', accessFlags := 0x411 }
/-- [I -/
def k40 : Class := { plain "[I" (some 0) with kind := .array 39 .int, interfaces := #[21, 2], accessFlags := 1041 }

/-- [Ljava/lang/Object; -/
def k41 : Class := { plain "[Ljava/lang/Object;" (some 0) with kind := .array 0 (.object "java/lang/Object"), interfaces := #[21, 2], accessFlags := 1041 }

/-- [Ljava/lang/StackTraceElement; -/
def k42 : Class := { plain "[Ljava/lang/StackTraceElement;" (some 0) with kind := .array 34 (.object "java/lang/StackTraceElement"), interfaces := #[21, 2], accessFlags := 1041 }

/-- [Ljava/lang/Throwable; -/
def k43 : Class := { plain "[Ljava/lang/Throwable;" (some 0) with kind := .array 3 (.object "java/lang/Throwable"), interfaces := #[21, 2], accessFlags := 1041 }

def heap : Heap := #[{ cls := 3, slots := #[.long 0, .ref 7, .ref 8, .null, .null, .null, .null, .ref 9, .int 1], vm := .statics 3 },
  { cls := 14, slots := #[.long 0, .int 1, .null, .int 0, .null, .int 0, .int 0], vm := .statics 14 },
  { cls := 20, slots := #[.int 0, .int 0, .null, .null, .ref 6, .ref 5, .int 0, .int 0, .long 0], vm := .statics 20 },
  { cls := 23, slots := #[.null, .null, .null], vm := .statics 23 },
  { cls := 25, slots := #[.int 0, .int 0, .int 0, .int 0, .int 0, .int 0, .int 0, .int 0, .null, .null, .ref 8, .null], vm := .statics 25 },
  { cls := 36, slots := #[.int 48, .int 49, .int 50, .int 51, .int 52, .int 53, .int 54, .int 55, .int 56, .int 57, .int 48, .int 49, .int 50, .int 51, .int 52, .int 53, .int 54, .int 55, .int 56, .int 57, .int 48, .int 49, .int 50, .int 51, .int 52, .int 53, .int 54, .int 55, .int 56, .int 57, .int 48, .int 49, .int 50, .int 51, .int 52, .int 53, .int 54, .int 55, .int 56, .int 57, .int 48, .int 49, .int 50, .int 51, .int 52, .int 53, .int 54, .int 55, .int 56, .int 57, .int 48, .int 49, .int 50, .int 51, .int 52, .int 53, .int 54, .int 55, .int 56, .int 57, .int 48, .int 49, .int 50, .int 51, .int 52, .int 53, .int 54, .int 55, .int 56, .int 57, .int 48, .int 49, .int 50, .int 51, .int 52, .int 53, .int 54, .int 55, .int 56, .int 57, .int 48, .int 49, .int 50, .int 51, .int 52, .int 53, .int 54, .int 55, .int 56, .int 57, .int 48, .int 49, .int 50, .int 51, .int 52, .int 53, .int 54, .int 55, .int 56, .int 57], vm := .none },
  { cls := 36, slots := #[.int 48, .int 48, .int 48, .int 48, .int 48, .int 48, .int 48, .int 48, .int 48, .int 48, .int 49, .int 49, .int 49, .int 49, .int 49, .int 49, .int 49, .int 49, .int 49, .int 49, .int 50, .int 50, .int 50, .int 50, .int 50, .int 50, .int 50, .int 50, .int 50, .int 50, .int 51, .int 51, .int 51, .int 51, .int 51, .int 51, .int 51, .int 51, .int 51, .int 51, .int 52, .int 52, .int 52, .int 52, .int 52, .int 52, .int 52, .int 52, .int 52, .int 52, .int 53, .int 53, .int 53, .int 53, .int 53, .int 53, .int 53, .int 53, .int 53, .int 53, .int 54, .int 54, .int 54, .int 54, .int 54, .int 54, .int 54, .int 54, .int 54, .int 54, .int 55, .int 55, .int 55, .int 55, .int 55, .int 55, .int 55, .int 55, .int 55, .int 55, .int 56, .int 56, .int 56, .int 56, .int 56, .int 56, .int 56, .int 56, .int 56, .int 56, .int 57, .int 57, .int 57, .int 57, .int 57, .int 57, .int 57, .int 57, .int 57, .int 57], vm := .none },
  { cls := 42, slots := #[], vm := .none },
  { cls := 33, slots := #[.int 0], vm := .none },
  { cls := 43, slots := #[], vm := .none }]
def classes : Array Class := #[k0, k1, k2, k3, k4, k5, k6, k7, k8, k9, k10, k11, k12, k13, k14, k15, k16, k17, k18, k19, k20, k21, k22, k23, k24, k25, k26, k27, k28, k29, k30, k31, k32, k33, k34, k35, k36, k37, k38, k39, k40, k41, k42, k43]
def interned : List (Array UInt16 × Addr) := []
def slotsUsed : Nat := 241
def theMethod : MethodId := ⟨1, 1⟩
def args0 : Array Value := #[.int 5]
def aboutOver (below : List Frame) : State where
  vm := { classes := classes, interned := interned.toArray }
  heap := heap
  slotsUsed := slotsUsed
  threads := #[{ frames := .invoking theMethod args0 :: below }]
def below0 : List Frame := [.native { method := ⟨0, 0⟩, args := #[] }]
def about1 : State := aboutOver below0
def p0 : Program := .bare "" "" ""
def e0 : Env := launch0.env 0 0 0
theorem w_frames : about1.frames = Frame.invoking theMethod args0 :: below0 := rfl
set_option maxRecDepth 65536 in
theorem w_args : argsFit about1.vm theMethod args0 = true := by decide +kernel
set_option maxRecDepth 65536 in
theorem w_heap : heapFits about1 = true := by decide +kernel
set_option maxRecDepth 65536 in
theorem w_runnable : about1.curStatus? = some .runnable := by decide +kernel
set_option maxRecDepth 65536 in
theorem w_alone : about1.alone = true := by decide +kernel
set_option maxRecDepth 65536 in
theorem w_named : about1.methodNamed? x = some theMethod := by decide +kernel
set_option maxRecDepth 65536 in
theorem w_hears : about1.hears theMethod below0 = true := by decide +kernel
set_option maxRecDepth 65536 in
theorem w_ripe : about1.ripe theMethod args0 below0 = true := by decide +kernel
theorem w_running : about1.status = .running := rfl
set_option maxRecDepth 65536 in
theorem w_room : about1.hasRoom e0.platform room_1 = true :=
  launch0.hasRoom_least _ room_1 (by decide +kernel) (by decide +kernel) (by decide +kernel) (by decide +kernel) (by decide +kernel) (by decide +kernel)
theorem allAtoms_all (ts : List Jvm.Cond) (a : Array Jvm.Value) (st : Jvm.State) : (allAtoms ts).before a st = ts.all (fun c => c.before a st) := by
  induction ts with
  | nil => rfl
  | cons c t ih =>
    show (Jvm.Cond.and c (allAtoms t)).before a st = _
    rw [Jvm.Cond.before_and, ih, List.all_cons]
def words1 : List Jvm.Cond := Jvm.Cond.code x code maxLocals ret :: tables_1
/-- a 'code' word, met by the world's own term for the bytes: nothing is compared byte by byte -/
theorem code_word {y : MethodName} {bytes : ByteArray} {mx : Nat} {rt : Option FieldType} {a : Array Value} {s : State} {m : MethodId} {meth : Method} {c : Code} (h1 : s.methodNamed? y = some m) (h2 : s.vm.method? m = some meth) (h3 : meth.code = some c) (h4 : c.code = bytes)
    (h5 : (c.maxLocals == mx && c.exceptionTable.isEmpty && decide (c.maxStack ≤ mostOperands) && decide (meth.sig.returnType = rt) && !meth.locks && decide (parseMethodDescriptor y.desc = some meth.sig)) = true) : (Jvm.Cond.code y bytes mx rt).before a s = true := by
  simp only [Bool.and_eq_true, beq_iff_eq, Bool.not_eq_true', decide_eq_true_eq] at h5
  obtain ⟨⟨⟨⟨⟨g1, g2⟩, g3⟩, g4⟩, g5⟩, g6⟩ := h5
  simp [Cond.before, Cond.holds, Cond.value, h1, h2, h3, h4, g1, g2, g3, g4, g5, g6]
def isCode : Jvm.Cond → Bool
  | .code _ _ _ _ => true
  | _ => false
theorem all_split {L : List Jvm.Cond} {P : Jvm.Cond → Bool} (h1 : L.all (fun c => isCode c || P c) = true) (h2 : ∀ c ∈ L.filter isCode, P c = true) : L.all P = true := by
  refine List.all_eq_true.mpr fun c hc => ?_
  have h := List.all_eq_true.mp h1 c hc
  rcases Bool.eq_false_or_eq_true (isCode c) with hi | hi
  · exact h2 c (List.mem_filter.mpr ⟨hc, hi⟩)
  · simpa [hi] using h
set_option maxRecDepth 65536 in
theorem w_c0 : (Jvm.Cond.code x code maxLocals ret).before args0 about1 = true := code_word (m := ⟨1, 1⟩) (meth := k1m1) (c := k1c1) (by decide +kernel) rfl rfl rfl (by decide +kernel)
set_option maxRecDepth 65536 in
theorem w_c1 : (Jvm.Cond.code ({ cls := "com/example/plain_hub/plainhub/HubException", name := "tooLarge", desc := "(I)Lcom/example/plain_hub/plainhub/HubException;" } : Jvm.MethodName) prog_2_method_7_code (1 : Nat) (Option.some (Jvm.ClassFile.FieldType.object "com/example/plain_hub/plainhub/HubException"))).before args0 about1 = true := code_word (m := ⟨6, 1⟩) (meth := k6m1) (c := k6c1) (by decide +kernel) rfl rfl rfl (by decide +kernel)
set_option maxRecDepth 65536 in
theorem w_c2 : (Jvm.Cond.code ({ cls := "java/lang/StringBuilder", name := "<init>", desc := "()V" } : Jvm.MethodName) jdk_67_method_1_code (1 : Nat) (Option.none : Option Jvm.ClassFile.FieldType)).before args0 about1 = true := code_word (m := ⟨11, 0⟩) (meth := k11m0) (c := k11c0) (by decide +kernel) rfl rfl rfl (by decide +kernel)
set_option maxRecDepth 65536 in
theorem w_c3 : (Jvm.Cond.code ({ cls := "java/lang/AbstractStringBuilder", name := "<init>", desc := "(I)V" } : Jvm.MethodName) jdk_68_method_2_code (2 : Nat) (Option.none : Option Jvm.ClassFile.FieldType)).before args0 about1 = true := code_word (m := ⟨9, 1⟩) (meth := k9m1) (c := k9c1) (by decide +kernel) rfl rfl rfl (by decide +kernel)
set_option maxRecDepth 65536 in
theorem w_c4 : (Jvm.Cond.code ({ cls := "java/lang/Object", name := "<init>", desc := "()V" } : Jvm.MethodName) object_method_1_code (1 : Nat) (Option.none : Option Jvm.ClassFile.FieldType)).before args0 about1 = true := code_word (m := ⟨0, 0⟩) (meth := k0m0) (c := k0c0) (by decide +kernel) rfl rfl rfl (by decide +kernel)
set_option maxRecDepth 65536 in
theorem w_c5 : (Jvm.Cond.code ({ cls := "java/lang/StringBuilder", name := "append", desc := "(Ljava/lang/String;)Ljava/lang/StringBuilder;" } : Jvm.MethodName) jdk_67_method_7_code (2 : Nat) (Option.some (Jvm.ClassFile.FieldType.object "java/lang/StringBuilder"))).before args0 about1 = true := code_word (m := ⟨11, 1⟩) (meth := k11m1) (c := k11c1) (by decide +kernel) rfl rfl rfl (by decide +kernel)
set_option maxRecDepth 65536 in
theorem w_c6 : (Jvm.Cond.code ({ cls := "java/lang/AbstractStringBuilder", name := "append", desc := "(Ljava/lang/String;)Ljava/lang/AbstractStringBuilder;" } : Jvm.MethodName) jdk_68_method_22_code (3 : Nat) (Option.some (Jvm.ClassFile.FieldType.object "java/lang/AbstractStringBuilder"))).before args0 about1 = true := code_word (m := ⟨9, 5⟩) (meth := k9m5) (c := k9c5) (by decide +kernel) rfl rfl rfl (by decide +kernel)
set_option maxRecDepth 65536 in
theorem w_c7 : (Jvm.Cond.code ({ cls := "java/lang/String", name := "length", desc := "()I" } : Jvm.MethodName) jdk_42_method_54_code (1 : Nat) (Option.some Jvm.ClassFile.FieldType.int)).before args0 about1 = true := code_word (m := ⟨14, 3⟩) (meth := k14m3) (c := k14c3) (by decide +kernel) rfl rfl rfl (by decide +kernel)
set_option maxRecDepth 65536 in
theorem w_c8 : (Jvm.Cond.code ({ cls := "java/lang/String", name := "coder", desc := "()B" } : Jvm.MethodName) jdk_42_method_152_code (1 : Nat) (Option.some Jvm.ClassFile.FieldType.byte)).before args0 about1 = true := code_word (m := ⟨14, 9⟩) (meth := k14m9) (c := k14c9) (by decide +kernel) rfl rfl rfl (by decide +kernel)
set_option maxRecDepth 65536 in
theorem w_c9 : (Jvm.Cond.code ({ cls := "java/lang/AbstractStringBuilder", name := "ensureCapacityInternal", desc := "(I)V" } : Jvm.MethodName) jdk_68_method_9_code (3 : Nat) (Option.none : Option Jvm.ClassFile.FieldType)).before args0 about1 = true := code_word (m := ⟨9, 3⟩) (meth := k9m3) (c := k9c3) (by decide +kernel) rfl rfl rfl (by decide +kernel)
set_option maxRecDepth 65536 in
theorem w_c10 : (Jvm.Cond.code ({ cls := "java/lang/AbstractStringBuilder", name := "newCapacity", desc := "(I)I" } : Jvm.MethodName) jdk_68_method_10_code (6 : Nat) (Option.some Jvm.ClassFile.FieldType.int)).before args0 about1 = true := code_word (m := ⟨9, 4⟩) (meth := k9m4) (c := k9c4) (by decide +kernel) rfl rfl rfl (by decide +kernel)
set_option maxRecDepth 65536 in
theorem w_c11 : (Jvm.Cond.code ({ cls := "jdk/internal/util/ArraysSupport", name := "newLength", desc := "(III)I" } : Jvm.MethodName) jdk_48_method_27_code (4 : Nat) (Option.some Jvm.ClassFile.FieldType.int)).before args0 about1 = true := code_word (m := ⟨15, 1⟩) (meth := k15m1) (c := k15c1) (by decide +kernel) rfl rfl rfl (by decide +kernel)
set_option maxRecDepth 65536 in
theorem w_c12 : (Jvm.Cond.code ({ cls := "java/lang/Math", name := "max", desc := "(II)I" } : Jvm.MethodName) jdk_29_method_65_code (2 : Nat) (Option.some Jvm.ClassFile.FieldType.int)).before args0 about1 = true := code_word (m := ⟨16, 2⟩) (meth := k16m2) (c := k16c2) (by decide +kernel) rfl rfl rfl (by decide +kernel)
set_option maxRecDepth 65536 in
theorem w_c13 : (Jvm.Cond.code ({ cls := "java/util/Arrays", name := "copyOf", desc := "([BI)[B" } : Jvm.MethodName) jdk_65_method_121_code (3 : Nat) (Option.some (Jvm.ClassFile.FieldType.array Jvm.ClassFile.FieldType.byte))).before args0 about1 = true := code_word (m := ⟨17, 1⟩) (meth := k17m1) (c := k17c1) (by decide +kernel) rfl rfl rfl (by decide +kernel)
set_option maxRecDepth 65536 in
theorem w_c14 : (Jvm.Cond.code ({ cls := "java/lang/Math", name := "min", desc := "(II)I" } : Jvm.MethodName) jdk_29_method_69_code (2 : Nat) (Option.some Jvm.ClassFile.FieldType.int)).before args0 about1 = true := code_word (m := ⟨16, 3⟩) (meth := k16m3) (c := k16c3) (by decide +kernel) rfl rfl rfl (by decide +kernel)
set_option maxRecDepth 65536 in
theorem w_c15 : (Jvm.Cond.code ({ cls := "java/lang/AbstractStringBuilder", name := "putStringAt", desc := "(ILjava/lang/String;)V" } : Jvm.MethodName) jdk_68_method_73_code (3 : Nat) (Option.none : Option Jvm.ClassFile.FieldType)).before args0 about1 = true := code_word (m := ⟨9, 10⟩) (meth := k9m10) (c := k9c10) (by decide +kernel) rfl rfl rfl (by decide +kernel)
set_option maxRecDepth 65536 in
theorem w_c16 : (Jvm.Cond.code ({ cls := "java/lang/AbstractStringBuilder", name := "inflateIfNeededFor", desc := "(Ljava/lang/String;)V" } : Jvm.MethodName) jdk_68_method_71_code (2 : Nat) (Option.none : Option Jvm.ClassFile.FieldType)).before args0 about1 = true := code_word (m := ⟨9, 9⟩) (meth := k9m9) (c := k9c9) (by decide +kernel) rfl rfl rfl (by decide +kernel)
set_option maxRecDepth 65536 in
theorem w_c17 : (Jvm.Cond.code ({ cls := "java/lang/String", name := "getBytes", desc := "([BIB)V" } : Jvm.MethodName) jdk_42_method_147_code (4 : Nat) (Option.none : Option Jvm.ClassFile.FieldType)).before args0 about1 = true := code_word (m := ⟨14, 6⟩) (meth := k14m6) (c := k14c6) (by decide +kernel) rfl rfl rfl (by decide +kernel)
set_option maxRecDepth 65536 in
theorem w_c18 : (Jvm.Cond.code ({ cls := "java/lang/StringBuilder", name := "append", desc := "(I)Ljava/lang/StringBuilder;" } : Jvm.MethodName) jdk_67_method_15_code (2 : Nat) (Option.some (Jvm.ClassFile.FieldType.object "java/lang/StringBuilder"))).before args0 about1 = true := code_word (m := ⟨11, 2⟩) (meth := k11m2) (c := k11c2) (by decide +kernel) rfl rfl rfl (by decide +kernel)
set_option maxRecDepth 65536 in
theorem w_c19 : (Jvm.Cond.code ({ cls := "java/lang/AbstractStringBuilder", name := "append", desc := "(I)Ljava/lang/AbstractStringBuilder;" } : Jvm.MethodName) jdk_68_method_32_code (4 : Nat) (Option.some (Jvm.ClassFile.FieldType.object "java/lang/AbstractStringBuilder"))).before args0 about1 = true := code_word (m := ⟨9, 6⟩) (meth := k9m6) (c := k9c6) (by decide +kernel) rfl rfl rfl (by decide +kernel)
set_option maxRecDepth 65536 in
theorem w_c20 : (Jvm.Cond.code ({ cls := "java/lang/Integer", name := "stringSize", desc := "(I)I" } : Jvm.MethodName) jdk_33_method_13_code (4 : Nat) (Option.some Jvm.ClassFile.FieldType.int)).before args0 about1 = true := code_word (m := ⟨20, 1⟩) (meth := k20m1) (c := k20c1) (by decide +kernel) rfl rfl rfl (by decide +kernel)
set_option maxRecDepth 65536 in
theorem w_c21 : (Jvm.Cond.code ({ cls := "java/lang/AbstractStringBuilder", name := "isLatin1", desc := "()Z" } : Jvm.MethodName) jdk_68_method_68_code (1 : Nat) (Option.some Jvm.ClassFile.FieldType.boolean)).before args0 about1 = true := code_word (m := ⟨9, 8⟩) (meth := k9m8) (c := k9c8) (by decide +kernel) rfl rfl rfl (by decide +kernel)
set_option maxRecDepth 65536 in
theorem w_c22 : (Jvm.Cond.code ({ cls := "java/lang/Integer", name := "getChars", desc := "(II[B)I" } : Jvm.MethodName) jdk_33_method_12_code (7 : Nat) (Option.some Jvm.ClassFile.FieldType.int)).before args0 about1 = true := code_word (m := ⟨20, 0⟩) (meth := k20m0) (c := k20c0) (by decide +kernel) rfl rfl rfl (by decide +kernel)
set_option maxRecDepth 65536 in
theorem w_c23 : (Jvm.Cond.code ({ cls := "java/lang/StringBuilder", name := "toString", desc := "()Ljava/lang/String;" } : Jvm.MethodName) jdk_67_method_42_code (1 : Nat) (Option.some (Jvm.ClassFile.FieldType.object "java/lang/String"))).before args0 about1 = true := code_word (m := ⟨11, 3⟩) (meth := k11m3) (c := k11c3) (by decide +kernel) rfl rfl rfl (by decide +kernel)
set_option maxRecDepth 65536 in
theorem w_c24 : (Jvm.Cond.code ({ cls := "java/lang/String", name := "<init>", desc := "(Ljava/lang/StringBuilder;)V" } : Jvm.MethodName) jdk_42_method_53_code (2 : Nat) (Option.none : Option Jvm.ClassFile.FieldType)).before args0 about1 = true := code_word (m := ⟨14, 2⟩) (meth := k14m2) (c := k14c2) (by decide +kernel) rfl rfl rfl (by decide +kernel)
set_option maxRecDepth 65536 in
theorem w_c25 : (Jvm.Cond.code ({ cls := "java/lang/String", name := "<init>", desc := "(Ljava/lang/AbstractStringBuilder;Ljava/lang/Void;)V" } : Jvm.MethodName) jdk_42_method_150_code (5 : Nat) (Option.none : Option Jvm.ClassFile.FieldType)).before args0 about1 = true := code_word (m := ⟨14, 8⟩) (meth := k14m8) (c := k14c8) (by decide +kernel) rfl rfl rfl (by decide +kernel)
set_option maxRecDepth 65536 in
theorem w_c26 : (Jvm.Cond.code ({ cls := "java/lang/AbstractStringBuilder", name := "getValue", desc := "()[B" } : Jvm.MethodName) jdk_68_method_64_code (1 : Nat) (Option.some (Jvm.ClassFile.FieldType.array Jvm.ClassFile.FieldType.byte))).before args0 about1 = true := code_word (m := ⟨9, 7⟩) (meth := k9m7) (c := k9c7) (by decide +kernel) rfl rfl rfl (by decide +kernel)
set_option maxRecDepth 65536 in
theorem w_c27 : (Jvm.Cond.code ({ cls := "java/lang/StringBuilder", name := "length", desc := "()I" } : Jvm.MethodName) jdk_67_method_93_code (1 : Nat) (Option.some Jvm.ClassFile.FieldType.int)).before args0 about1 = true := code_word (m := ⟨11, 4⟩) (meth := k11m4) (c := k11c4) (by decide +kernel) rfl rfl rfl (by decide +kernel)
set_option maxRecDepth 65536 in
theorem w_c28 : (Jvm.Cond.code ({ cls := "java/lang/AbstractStringBuilder", name := "length", desc := "()I" } : Jvm.MethodName) jdk_68_method_6_code (1 : Nat) (Option.some Jvm.ClassFile.FieldType.int)).before args0 about1 = true := code_word (m := ⟨9, 2⟩) (meth := k9m2) (c := k9c2) (by decide +kernel) rfl rfl rfl (by decide +kernel)
set_option maxRecDepth 65536 in
theorem w_c29 : (Jvm.Cond.code ({ cls := "java/util/Arrays", name := "copyOfRange", desc := "([BII)[B" } : Jvm.MethodName) jdk_65_method_132_code (3 : Nat) (Option.some (Jvm.ClassFile.FieldType.array Jvm.ClassFile.FieldType.byte))).before args0 about1 = true := code_word (m := ⟨17, 3⟩) (meth := k17m3) (c := k17c3) (by decide +kernel) rfl rfl rfl (by decide +kernel)
set_option maxRecDepth 65536 in
theorem w_c30 : (Jvm.Cond.code ({ cls := "com/example/plain_hub/plainhub/HubException", name := "<init>", desc := "(IILjava/lang/String;)V" } : Jvm.MethodName) prog_2_method_1_code (4 : Nat) (Option.none : Option Jvm.ClassFile.FieldType)).before args0 about1 = true := code_word (m := ⟨6, 0⟩) (meth := k6m0) (c := k6c0) (by decide +kernel) rfl rfl rfl (by decide +kernel)
set_option maxRecDepth 65536 in
theorem w_c31 : (Jvm.Cond.code ({ cls := "java/lang/RuntimeException", name := "<init>", desc := "(Ljava/lang/String;)V" } : Jvm.MethodName) jdk_58_method_2_code (2 : Nat) (Option.none : Option Jvm.ClassFile.FieldType)).before args0 about1 = true := code_word (m := ⟨5, 1⟩) (meth := k5m1) (c := k5c1) (by decide +kernel) rfl rfl rfl (by decide +kernel)
set_option maxRecDepth 65536 in
theorem w_c32 : (Jvm.Cond.code ({ cls := "java/lang/Exception", name := "<init>", desc := "(Ljava/lang/String;)V" } : Jvm.MethodName) jdk_59_method_2_code (2 : Nat) (Option.none : Option Jvm.ClassFile.FieldType)).before args0 about1 = true := code_word (m := ⟨4, 1⟩) (meth := k4m1) (c := k4c1) (by decide +kernel) rfl rfl rfl (by decide +kernel)
set_option maxRecDepth 65536 in
theorem w_c33 : (Jvm.Cond.code ({ cls := "java/lang/Throwable", name := "<init>", desc := "(Ljava/lang/String;)V" } : Jvm.MethodName) jdk_78_method_2_code (2 : Nat) (Option.none : Option Jvm.ClassFile.FieldType)).before args0 about1 = true := code_word (m := ⟨3, 1⟩) (meth := k3m1) (c := k3c1) (by decide +kernel) rfl rfl rfl (by decide +kernel)
set_option maxRecDepth 65536 in
theorem w_c34 : (Jvm.Cond.code ({ cls := "java/lang/Throwable", name := "<init>", desc := "()V" } : Jvm.MethodName) jdk_78_method_1_code (1 : Nat) (Option.none : Option Jvm.ClassFile.FieldType)).before args0 about1 = true := code_word (m := ⟨3, 0⟩) (meth := k3m0) (c := k3c0) (by decide +kernel) rfl rfl rfl (by decide +kernel)
set_option maxRecDepth 65536 in
theorem w_c35 : (Jvm.Cond.code ({ cls := "com/example/plain_hub/plainhub/HubException", name := "status", desc := "()I" } : Jvm.MethodName) prog_2_method_8_code (1 : Nat) (Option.some Jvm.ClassFile.FieldType.int)).before args0 about1 = true := code_word (m := ⟨6, 2⟩) (meth := k6m2) (c := k6c2) (by decide +kernel) rfl rfl rfl (by decide +kernel)
set_option maxRecDepth 65536 in
theorem w_c36 : (Jvm.Cond.code ({ cls := "com/example/plain_hub/plainhub/HubException", name := "code", desc := "()I" } : Jvm.MethodName) prog_2_method_9_code (1 : Nat) (Option.some Jvm.ClassFile.FieldType.int)).before args0 about1 = true := code_word (m := ⟨6, 3⟩) (meth := k6m3) (c := k6c3) (by decide +kernel) rfl rfl rfl (by decide +kernel)
set_option maxRecDepth 65536 in
theorem w_c37 : (Jvm.Cond.code ({ cls := "java/lang/Throwable", name := "getMessage", desc := "()Ljava/lang/String;" } : Jvm.MethodName) jdk_78_method_6_code (1 : Nat) (Option.some (Jvm.ClassFile.FieldType.object "java/lang/String"))).before args0 about1 = true := code_word (m := ⟨3, 2⟩) (meth := k3m2) (c := k3c2) (by decide +kernel) rfl rfl rfl (by decide +kernel)
set_option maxRecDepth 65536 in
theorem w_c38 : (Jvm.Cond.code ({ cls := "java/lang/Math", name := "abs", desc := "(J)J" } : Jvm.MethodName) jdk_29_method_61_code (2 : Nat) (Option.some Jvm.ClassFile.FieldType.long)).before args0 about1 = true := code_word (m := ⟨16, 1⟩) (meth := k16m1) (c := k16c1) (by decide +kernel) rfl rfl rfl (by decide +kernel)
set_option maxRecDepth 65536 in
theorem w_c39 : (Jvm.Cond.code ({ cls := "com/example/plain_hub/plainhub/HubExceptionTooLargePinLaw", name := "digits", desc := "(J)I" } : Jvm.MethodName) method_3_code (2 : Nat) (Option.some Jvm.ClassFile.FieldType.int)).before args0 about1 = true := code_word (m := ⟨1, 2⟩) (meth := k1m2) (c := k1c2) (by decide +kernel) rfl rfl rfl (by decide +kernel)
set_option maxRecDepth 65536 in
theorem w_c40 : (Jvm.Cond.code ({ cls := "java/lang/String", name := "charAt", desc := "(I)C" } : Jvm.MethodName) jdk_42_method_56_code (2 : Nat) (Option.some Jvm.ClassFile.FieldType.char)).before args0 about1 = true := code_word (m := ⟨14, 4⟩) (meth := k14m4) (c := k14c4) (by decide +kernel) rfl rfl rfl (by decide +kernel)
set_option maxRecDepth 65536 in
theorem w_c41 : (Jvm.Cond.code ({ cls := "java/lang/String", name := "isLatin1", desc := "()Z" } : Jvm.MethodName) jdk_42_method_154_code (1 : Nat) (Option.some Jvm.ClassFile.FieldType.boolean)).before args0 about1 = true := code_word (m := ⟨14, 10⟩) (meth := k14m10) (c := k14c10) (by decide +kernel) rfl rfl rfl (by decide +kernel)
set_option maxRecDepth 65536 in
theorem w_c42 : (Jvm.Cond.code ({ cls := "java/lang/StringLatin1", name := "charAt", desc := "([BI)C" } : Jvm.MethodName) jdk_43_method_2_code (2 : Nat) (Option.some Jvm.ClassFile.FieldType.char)).before args0 about1 = true := code_word (m := ⟨22, 1⟩) (meth := k22m1) (c := k22c1) (by decide +kernel) rfl rfl rfl (by decide +kernel)
set_option maxRecDepth 65536 in
theorem w_c43 : (Jvm.Cond.code ({ cls := "java/lang/String", name := "checkIndex", desc := "(II)V" } : Jvm.MethodName) jdk_42_method_155_code (2 : Nat) (Option.none : Option Jvm.ClassFile.FieldType)).before args0 about1 = true := code_word (m := ⟨14, 11⟩) (meth := k14m11) (c := k14c11) (by decide +kernel) rfl rfl rfl (by decide +kernel)
set_option maxRecDepth 65536 in
theorem w_c44 : (Jvm.Cond.code ({ cls := "jdk/internal/util/Preconditions", name := "checkIndex", desc := "(IILjava/util/function/BiFunction;)I" } : Jvm.MethodName) jdk_41_method_11_code (3 : Nat) (Option.some Jvm.ClassFile.FieldType.int)).before args0 about1 = true := code_word (m := ⟨23, 1⟩) (meth := k23m1) (c := k23c1) (by decide +kernel) rfl rfl rfl (by decide +kernel)
set_option maxRecDepth 65536 in
theorem w_c45 : (Jvm.Cond.code ({ cls := "java/lang/String", name := "<init>", desc := "([C)V" } : Jvm.MethodName) jdk_42_method_3_code (2 : Nat) (Option.none : Option Jvm.ClassFile.FieldType)).before args0 about1 = true := code_word (m := ⟨14, 1⟩) (meth := k14m1) (c := k14c1) (by decide +kernel) rfl rfl rfl (by decide +kernel)
set_option maxRecDepth 65536 in
theorem w_c46 : (Jvm.Cond.code ({ cls := "java/lang/String", name := "<init>", desc := "([CIILjava/lang/Void;)V" } : Jvm.MethodName) jdk_42_method_149_code (6 : Nat) (Option.none : Option Jvm.ClassFile.FieldType)).before args0 about1 = true := code_word (m := ⟨14, 7⟩) (meth := k14m7) (c := k14c7) (by decide +kernel) rfl rfl rfl (by decide +kernel)
set_option maxRecDepth 65536 in
theorem w_c47 : (Jvm.Cond.code ({ cls := "java/lang/StringUTF16", name := "compress", desc := "([CII)[B" } : Jvm.MethodName) jdk_52_method_16_code (6 : Nat) (Option.some (Jvm.ClassFile.FieldType.array Jvm.ClassFile.FieldType.byte))).before args0 about1 = true := code_word (m := ⟨24, 2⟩) (meth := k24m2) (c := k24c2) (by decide +kernel) rfl rfl rfl (by decide +kernel)
set_option maxRecDepth 65536 in
theorem w_c48 : (Jvm.Cond.code ({ cls := "java/lang/StringUTF16", name := "compress", desc := "([CI[BII)I" } : Jvm.MethodName) jdk_52_method_21_code (7 : Nat) (Option.some Jvm.ClassFile.FieldType.int)).before args0 about1 = true := code_word (m := ⟨24, 3⟩) (meth := k24m3) (c := k24c3) (by decide +kernel) rfl rfl rfl (by decide +kernel)
set_option maxRecDepth 65536 in
theorem w_c49 : (Jvm.Cond.code ({ cls := "java/lang/StringUTF16", name := "coderFromArrayLen", desc := "([BI)B" } : Jvm.MethodName) jdk_52_method_15_code (2 : Nat) (Option.some Jvm.ClassFile.FieldType.byte)).before args0 about1 = true := code_word (m := ⟨24, 1⟩) (meth := k24m1) (c := k24c1) (by decide +kernel) rfl rfl rfl (by decide +kernel)
set_option maxRecDepth 65536 in
theorem w_c50 : (Jvm.Cond.code ({ cls := "java/lang/String", name := "equals", desc := "(Ljava/lang/Object;)Z" } : Jvm.MethodName) jdk_42_method_66_code (3 : Nat) (Option.some Jvm.ClassFile.FieldType.boolean)).before args0 about1 = true := code_word (m := ⟨14, 5⟩) (meth := k14m5) (c := k14c5) (by decide +kernel) rfl rfl rfl (by decide +kernel)
set_option maxRecDepth 65536 in
theorem w_c51 : (Jvm.Cond.code ({ cls := "java/lang/StringLatin1", name := "equals", desc := "([B[B)Z" } : Jvm.MethodName) jdk_43_method_13_code (3 : Nat) (Option.some Jvm.ClassFile.FieldType.boolean)).before args0 about1 = true := code_word (m := ⟨22, 2⟩) (meth := k22m2) (c := k22c2) (by decide +kernel) rfl rfl rfl (by decide +kernel)
set_option maxRecDepth 65536 in
theorem w_c52 : (Jvm.Cond.code ({ cls := "com/example/plain_hub/plainhub/HubExceptionTooLargePinLaw", name := "dig", desc := "(Ljava/lang/String;IJIIJ)Z" } : Jvm.MethodName) method_4_code (9 : Nat) (Option.some Jvm.ClassFile.FieldType.boolean)).before args0 about1 = true := code_word (m := ⟨1, 3⟩) (meth := k1m3) (c := k1c3) (by decide +kernel) rfl rfl rfl (by decide +kernel)
set_option maxRecDepth 65536 in
theorem w_c53 : (Jvm.Cond.code ({ cls := "java/util/Arrays", name := "copyOfRangeByte", desc := "([BII)[B" } : Jvm.MethodName) jdk_65_method_133_code (5 : Nat) (Option.some (Jvm.ClassFile.FieldType.array Jvm.ClassFile.FieldType.byte))).before args0 about1 = true := code_word (m := ⟨17, 4⟩) (meth := k17m4) (c := k17c4) (by decide +kernel) rfl rfl rfl (by decide +kernel)
set_option maxRecDepth 65536 in
theorem w_c54 : (Jvm.Cond.code ({ cls := "java/util/Arrays", name := "checkLength", desc := "(II)V" } : Jvm.MethodName) jdk_65_method_131_code (2 : Nat) (Option.none : Option Jvm.ClassFile.FieldType)).before args0 about1 = true := code_word (m := ⟨17, 2⟩) (meth := k17m2) (c := k17c2) (by decide +kernel) rfl rfl rfl (by decide +kernel)
def codes1 : List Jvm.Cond := [Jvm.Cond.code x code maxLocals ret, Jvm.Cond.code ({ cls := "com/example/plain_hub/plainhub/HubException", name := "tooLarge", desc := "(I)Lcom/example/plain_hub/plainhub/HubException;" } : Jvm.MethodName) prog_2_method_7_code (1 : Nat) (Option.some (Jvm.ClassFile.FieldType.object "com/example/plain_hub/plainhub/HubException")), Jvm.Cond.code ({ cls := "java/lang/StringBuilder", name := "<init>", desc := "()V" } : Jvm.MethodName) jdk_67_method_1_code (1 : Nat) (Option.none : Option Jvm.ClassFile.FieldType), Jvm.Cond.code ({ cls := "java/lang/AbstractStringBuilder", name := "<init>", desc := "(I)V" } : Jvm.MethodName) jdk_68_method_2_code (2 : Nat) (Option.none : Option Jvm.ClassFile.FieldType), Jvm.Cond.code ({ cls := "java/lang/Object", name := "<init>", desc := "()V" } : Jvm.MethodName) object_method_1_code (1 : Nat) (Option.none : Option Jvm.ClassFile.FieldType), Jvm.Cond.code ({ cls := "java/lang/StringBuilder", name := "append", desc := "(Ljava/lang/String;)Ljava/lang/StringBuilder;" } : Jvm.MethodName) jdk_67_method_7_code (2 : Nat) (Option.some (Jvm.ClassFile.FieldType.object "java/lang/StringBuilder")), Jvm.Cond.code ({ cls := "java/lang/AbstractStringBuilder", name := "append", desc := "(Ljava/lang/String;)Ljava/lang/AbstractStringBuilder;" } : Jvm.MethodName) jdk_68_method_22_code (3 : Nat) (Option.some (Jvm.ClassFile.FieldType.object "java/lang/AbstractStringBuilder")), Jvm.Cond.code ({ cls := "java/lang/String", name := "length", desc := "()I" } : Jvm.MethodName) jdk_42_method_54_code (1 : Nat) (Option.some Jvm.ClassFile.FieldType.int), Jvm.Cond.code ({ cls := "java/lang/String", name := "coder", desc := "()B" } : Jvm.MethodName) jdk_42_method_152_code (1 : Nat) (Option.some Jvm.ClassFile.FieldType.byte), Jvm.Cond.code ({ cls := "java/lang/AbstractStringBuilder", name := "ensureCapacityInternal", desc := "(I)V" } : Jvm.MethodName) jdk_68_method_9_code (3 : Nat) (Option.none : Option Jvm.ClassFile.FieldType), Jvm.Cond.code ({ cls := "java/lang/AbstractStringBuilder", name := "newCapacity", desc := "(I)I" } : Jvm.MethodName) jdk_68_method_10_code (6 : Nat) (Option.some Jvm.ClassFile.FieldType.int), Jvm.Cond.code ({ cls := "jdk/internal/util/ArraysSupport", name := "newLength", desc := "(III)I" } : Jvm.MethodName) jdk_48_method_27_code (4 : Nat) (Option.some Jvm.ClassFile.FieldType.int), Jvm.Cond.code ({ cls := "java/lang/Math", name := "max", desc := "(II)I" } : Jvm.MethodName) jdk_29_method_65_code (2 : Nat) (Option.some Jvm.ClassFile.FieldType.int), Jvm.Cond.code ({ cls := "java/util/Arrays", name := "copyOf", desc := "([BI)[B" } : Jvm.MethodName) jdk_65_method_121_code (3 : Nat) (Option.some (Jvm.ClassFile.FieldType.array Jvm.ClassFile.FieldType.byte)), Jvm.Cond.code ({ cls := "java/lang/Math", name := "min", desc := "(II)I" } : Jvm.MethodName) jdk_29_method_69_code (2 : Nat) (Option.some Jvm.ClassFile.FieldType.int), Jvm.Cond.code ({ cls := "java/lang/AbstractStringBuilder", name := "putStringAt", desc := "(ILjava/lang/String;)V" } : Jvm.MethodName) jdk_68_method_73_code (3 : Nat) (Option.none : Option Jvm.ClassFile.FieldType), Jvm.Cond.code ({ cls := "java/lang/AbstractStringBuilder", name := "inflateIfNeededFor", desc := "(Ljava/lang/String;)V" } : Jvm.MethodName) jdk_68_method_71_code (2 : Nat) (Option.none : Option Jvm.ClassFile.FieldType), Jvm.Cond.code ({ cls := "java/lang/String", name := "getBytes", desc := "([BIB)V" } : Jvm.MethodName) jdk_42_method_147_code (4 : Nat) (Option.none : Option Jvm.ClassFile.FieldType), Jvm.Cond.code ({ cls := "java/lang/StringBuilder", name := "append", desc := "(I)Ljava/lang/StringBuilder;" } : Jvm.MethodName) jdk_67_method_15_code (2 : Nat) (Option.some (Jvm.ClassFile.FieldType.object "java/lang/StringBuilder")), Jvm.Cond.code ({ cls := "java/lang/AbstractStringBuilder", name := "append", desc := "(I)Ljava/lang/AbstractStringBuilder;" } : Jvm.MethodName) jdk_68_method_32_code (4 : Nat) (Option.some (Jvm.ClassFile.FieldType.object "java/lang/AbstractStringBuilder")), Jvm.Cond.code ({ cls := "java/lang/Integer", name := "stringSize", desc := "(I)I" } : Jvm.MethodName) jdk_33_method_13_code (4 : Nat) (Option.some Jvm.ClassFile.FieldType.int), Jvm.Cond.code ({ cls := "java/lang/AbstractStringBuilder", name := "isLatin1", desc := "()Z" } : Jvm.MethodName) jdk_68_method_68_code (1 : Nat) (Option.some Jvm.ClassFile.FieldType.boolean), Jvm.Cond.code ({ cls := "java/lang/Integer", name := "getChars", desc := "(II[B)I" } : Jvm.MethodName) jdk_33_method_12_code (7 : Nat) (Option.some Jvm.ClassFile.FieldType.int), Jvm.Cond.code ({ cls := "java/lang/StringBuilder", name := "toString", desc := "()Ljava/lang/String;" } : Jvm.MethodName) jdk_67_method_42_code (1 : Nat) (Option.some (Jvm.ClassFile.FieldType.object "java/lang/String")), Jvm.Cond.code ({ cls := "java/lang/String", name := "<init>", desc := "(Ljava/lang/StringBuilder;)V" } : Jvm.MethodName) jdk_42_method_53_code (2 : Nat) (Option.none : Option Jvm.ClassFile.FieldType), Jvm.Cond.code ({ cls := "java/lang/String", name := "<init>", desc := "(Ljava/lang/AbstractStringBuilder;Ljava/lang/Void;)V" } : Jvm.MethodName) jdk_42_method_150_code (5 : Nat) (Option.none : Option Jvm.ClassFile.FieldType), Jvm.Cond.code ({ cls := "java/lang/AbstractStringBuilder", name := "getValue", desc := "()[B" } : Jvm.MethodName) jdk_68_method_64_code (1 : Nat) (Option.some (Jvm.ClassFile.FieldType.array Jvm.ClassFile.FieldType.byte)), Jvm.Cond.code ({ cls := "java/lang/StringBuilder", name := "length", desc := "()I" } : Jvm.MethodName) jdk_67_method_93_code (1 : Nat) (Option.some Jvm.ClassFile.FieldType.int), Jvm.Cond.code ({ cls := "java/lang/AbstractStringBuilder", name := "length", desc := "()I" } : Jvm.MethodName) jdk_68_method_6_code (1 : Nat) (Option.some Jvm.ClassFile.FieldType.int), Jvm.Cond.code ({ cls := "java/util/Arrays", name := "copyOfRange", desc := "([BII)[B" } : Jvm.MethodName) jdk_65_method_132_code (3 : Nat) (Option.some (Jvm.ClassFile.FieldType.array Jvm.ClassFile.FieldType.byte)), Jvm.Cond.code ({ cls := "com/example/plain_hub/plainhub/HubException", name := "<init>", desc := "(IILjava/lang/String;)V" } : Jvm.MethodName) prog_2_method_1_code (4 : Nat) (Option.none : Option Jvm.ClassFile.FieldType), Jvm.Cond.code ({ cls := "java/lang/RuntimeException", name := "<init>", desc := "(Ljava/lang/String;)V" } : Jvm.MethodName) jdk_58_method_2_code (2 : Nat) (Option.none : Option Jvm.ClassFile.FieldType), Jvm.Cond.code ({ cls := "java/lang/Exception", name := "<init>", desc := "(Ljava/lang/String;)V" } : Jvm.MethodName) jdk_59_method_2_code (2 : Nat) (Option.none : Option Jvm.ClassFile.FieldType), Jvm.Cond.code ({ cls := "java/lang/Throwable", name := "<init>", desc := "(Ljava/lang/String;)V" } : Jvm.MethodName) jdk_78_method_2_code (2 : Nat) (Option.none : Option Jvm.ClassFile.FieldType), Jvm.Cond.code ({ cls := "java/lang/Throwable", name := "<init>", desc := "()V" } : Jvm.MethodName) jdk_78_method_1_code (1 : Nat) (Option.none : Option Jvm.ClassFile.FieldType), Jvm.Cond.code ({ cls := "com/example/plain_hub/plainhub/HubException", name := "status", desc := "()I" } : Jvm.MethodName) prog_2_method_8_code (1 : Nat) (Option.some Jvm.ClassFile.FieldType.int), Jvm.Cond.code ({ cls := "com/example/plain_hub/plainhub/HubException", name := "code", desc := "()I" } : Jvm.MethodName) prog_2_method_9_code (1 : Nat) (Option.some Jvm.ClassFile.FieldType.int), Jvm.Cond.code ({ cls := "java/lang/Throwable", name := "getMessage", desc := "()Ljava/lang/String;" } : Jvm.MethodName) jdk_78_method_6_code (1 : Nat) (Option.some (Jvm.ClassFile.FieldType.object "java/lang/String")), Jvm.Cond.code ({ cls := "java/lang/Math", name := "abs", desc := "(J)J" } : Jvm.MethodName) jdk_29_method_61_code (2 : Nat) (Option.some Jvm.ClassFile.FieldType.long), Jvm.Cond.code ({ cls := "com/example/plain_hub/plainhub/HubExceptionTooLargePinLaw", name := "digits", desc := "(J)I" } : Jvm.MethodName) method_3_code (2 : Nat) (Option.some Jvm.ClassFile.FieldType.int), Jvm.Cond.code ({ cls := "java/lang/String", name := "charAt", desc := "(I)C" } : Jvm.MethodName) jdk_42_method_56_code (2 : Nat) (Option.some Jvm.ClassFile.FieldType.char), Jvm.Cond.code ({ cls := "java/lang/String", name := "isLatin1", desc := "()Z" } : Jvm.MethodName) jdk_42_method_154_code (1 : Nat) (Option.some Jvm.ClassFile.FieldType.boolean), Jvm.Cond.code ({ cls := "java/lang/StringLatin1", name := "charAt", desc := "([BI)C" } : Jvm.MethodName) jdk_43_method_2_code (2 : Nat) (Option.some Jvm.ClassFile.FieldType.char), Jvm.Cond.code ({ cls := "java/lang/String", name := "checkIndex", desc := "(II)V" } : Jvm.MethodName) jdk_42_method_155_code (2 : Nat) (Option.none : Option Jvm.ClassFile.FieldType), Jvm.Cond.code ({ cls := "jdk/internal/util/Preconditions", name := "checkIndex", desc := "(IILjava/util/function/BiFunction;)I" } : Jvm.MethodName) jdk_41_method_11_code (3 : Nat) (Option.some Jvm.ClassFile.FieldType.int), Jvm.Cond.code ({ cls := "java/lang/String", name := "<init>", desc := "([C)V" } : Jvm.MethodName) jdk_42_method_3_code (2 : Nat) (Option.none : Option Jvm.ClassFile.FieldType), Jvm.Cond.code ({ cls := "java/lang/String", name := "<init>", desc := "([CIILjava/lang/Void;)V" } : Jvm.MethodName) jdk_42_method_149_code (6 : Nat) (Option.none : Option Jvm.ClassFile.FieldType), Jvm.Cond.code ({ cls := "java/lang/StringUTF16", name := "compress", desc := "([CII)[B" } : Jvm.MethodName) jdk_52_method_16_code (6 : Nat) (Option.some (Jvm.ClassFile.FieldType.array Jvm.ClassFile.FieldType.byte)), Jvm.Cond.code ({ cls := "java/lang/StringUTF16", name := "compress", desc := "([CI[BII)I" } : Jvm.MethodName) jdk_52_method_21_code (7 : Nat) (Option.some Jvm.ClassFile.FieldType.int), Jvm.Cond.code ({ cls := "java/lang/StringUTF16", name := "coderFromArrayLen", desc := "([BI)B" } : Jvm.MethodName) jdk_52_method_15_code (2 : Nat) (Option.some Jvm.ClassFile.FieldType.byte), Jvm.Cond.code ({ cls := "java/lang/String", name := "equals", desc := "(Ljava/lang/Object;)Z" } : Jvm.MethodName) jdk_42_method_66_code (3 : Nat) (Option.some Jvm.ClassFile.FieldType.boolean), Jvm.Cond.code ({ cls := "java/lang/StringLatin1", name := "equals", desc := "([B[B)Z" } : Jvm.MethodName) jdk_43_method_13_code (3 : Nat) (Option.some Jvm.ClassFile.FieldType.boolean), Jvm.Cond.code ({ cls := "com/example/plain_hub/plainhub/HubExceptionTooLargePinLaw", name := "dig", desc := "(Ljava/lang/String;IJIIJ)Z" } : Jvm.MethodName) method_4_code (9 : Nat) (Option.some Jvm.ClassFile.FieldType.boolean), Jvm.Cond.code ({ cls := "java/util/Arrays", name := "copyOfRangeByte", desc := "([BII)[B" } : Jvm.MethodName) jdk_65_method_133_code (5 : Nat) (Option.some (Jvm.ClassFile.FieldType.array Jvm.ClassFile.FieldType.byte)), Jvm.Cond.code ({ cls := "java/util/Arrays", name := "checkLength", desc := "(II)V" } : Jvm.MethodName) jdk_65_method_131_code (2 : Nat) (Option.none : Option Jvm.ClassFile.FieldType)]
set_option maxRecDepth 65536 in
theorem codes_eq : words1.filter isCode = codes1 := rfl
theorem w_codes : ∀ c ∈ words1.filter isCode, c.before args0 about1 = true := by
  rw [codes_eq]
  intro c hc
  simp only [codes1, List.mem_cons, List.not_mem_nil, or_false] at hc
  rcases hc with rfl | rfl | rfl | rfl | rfl | rfl | rfl | rfl | rfl | rfl | rfl | rfl | rfl | rfl | rfl | rfl | rfl | rfl | rfl | rfl | rfl | rfl | rfl | rfl | rfl | rfl | rfl | rfl | rfl | rfl | rfl | rfl | rfl | rfl | rfl | rfl | rfl | rfl | rfl | rfl | rfl | rfl | rfl | rfl | rfl | rfl | rfl | rfl | rfl | rfl | rfl | rfl | rfl | rfl | rfl
  · exact w_c0
  · exact w_c1
  · exact w_c2
  · exact w_c3
  · exact w_c4
  · exact w_c5
  · exact w_c6
  · exact w_c7
  · exact w_c8
  · exact w_c9
  · exact w_c10
  · exact w_c11
  · exact w_c12
  · exact w_c13
  · exact w_c14
  · exact w_c15
  · exact w_c16
  · exact w_c17
  · exact w_c18
  · exact w_c19
  · exact w_c20
  · exact w_c21
  · exact w_c22
  · exact w_c23
  · exact w_c24
  · exact w_c25
  · exact w_c26
  · exact w_c27
  · exact w_c28
  · exact w_c29
  · exact w_c30
  · exact w_c31
  · exact w_c32
  · exact w_c33
  · exact w_c34
  · exact w_c35
  · exact w_c36
  · exact w_c37
  · exact w_c38
  · exact w_c39
  · exact w_c40
  · exact w_c41
  · exact w_c42
  · exact w_c43
  · exact w_c44
  · exact w_c45
  · exact w_c46
  · exact w_c47
  · exact w_c48
  · exact w_c49
  · exact w_c50
  · exact w_c51
  · exact w_c52
  · exact w_c53
  · exact w_c54
set_option maxRecDepth 65536 in
theorem w_t1 : (words1.take 24).all (fun c => isCode c || c.before args0 about1) = true := by decide +kernel
set_option maxRecDepth 65536 in
theorem w_t2 : ((words1.drop 24).take 24).all (fun c => isCode c || c.before args0 about1) = true := by decide +kernel
set_option maxRecDepth 65536 in
theorem w_t3 : (((words1.drop 24).drop 24).take 24).all (fun c => isCode c || c.before args0 about1) = true := by decide +kernel
set_option maxRecDepth 65536 in
theorem w_t4 : ((((words1.drop 24).drop 24).drop 24).take 24).all (fun c => isCode c || c.before args0 about1) = true := by decide +kernel
set_option maxRecDepth 65536 in
theorem w_t5 : (((((words1.drop 24).drop 24).drop 24).drop 24).take 24).all (fun c => isCode c || c.before args0 about1) = true := by decide +kernel
set_option maxRecDepth 65536 in
theorem w_t6 : ((((((words1.drop 24).drop 24).drop 24).drop 24).drop 24).take 24).all (fun c => isCode c || c.before args0 about1) = true := by decide +kernel
set_option maxRecDepth 65536 in
theorem w_t7 : (((((((words1.drop 24).drop 24).drop 24).drop 24).drop 24).drop 24).take 24).all (fun c => isCode c || c.before args0 about1) = true := by decide +kernel
set_option maxRecDepth 65536 in
theorem w_t8 : ((((((((words1.drop 24).drop 24).drop 24).drop 24).drop 24).drop 24).drop 24).take 24).all (fun c => isCode c || c.before args0 about1) = true := by decide +kernel
set_option maxRecDepth 65536 in
theorem w_t9 : (((((((((words1.drop 24).drop 24).drop 24).drop 24).drop 24).drop 24).drop 24).drop 24).take 24).all (fun c => isCode c || c.before args0 about1) = true := by decide +kernel
set_option maxRecDepth 65536 in
theorem w_t10 : ((((((((((words1.drop 24).drop 24).drop 24).drop 24).drop 24).drop 24).drop 24).drop 24).drop 24).take 24).all (fun c => isCode c || c.before args0 about1) = true := by decide +kernel
set_option maxRecDepth 65536 in
theorem w_t11 : (((((((((((words1.drop 24).drop 24).drop 24).drop 24).drop 24).drop 24).drop 24).drop 24).drop 24).drop 24).take 24).all (fun c => isCode c || c.before args0 about1) = true := by decide +kernel
set_option maxRecDepth 65536 in
theorem w_t12 : ((((((((((((words1.drop 24).drop 24).drop 24).drop 24).drop 24).drop 24).drop 24).drop 24).drop 24).drop 24).drop 24).take 24).all (fun c => isCode c || c.before args0 about1) = true := by decide +kernel
set_option maxRecDepth 65536 in
theorem w_t13 : (((((((((((((words1.drop 24).drop 24).drop 24).drop 24).drop 24).drop 24).drop 24).drop 24).drop 24).drop 24).drop 24).drop 24).take 24).all (fun c => isCode c || c.before args0 about1) = true := by decide +kernel
set_option maxRecDepth 65536 in
theorem w_t14 : (((((((((((((words1.drop 24).drop 24).drop 24).drop 24).drop 24).drop 24).drop 24).drop 24).drop 24).drop 24).drop 24).drop 24).drop 24).all (fun c => isCode c || c.before args0 about1) = true := by decide +kernel
theorem w_tables : (allAtoms (Jvm.Cond.code x code maxLocals ret :: tables_1)).before args0 about1 = true := by
  rw [allAtoms_all]
  show words1.all (fun c => c.before args0 about1) = true
  refine all_split ?_ w_codes
  rw [← List.take_append_drop 24 words1, List.all_append, w_t1, ← List.take_append_drop 24 (words1.drop 24), List.all_append, w_t2, ← List.take_append_drop 24 ((words1.drop 24).drop 24), List.all_append, w_t3, ← List.take_append_drop 24 (((words1.drop 24).drop 24).drop 24), List.all_append, w_t4, ← List.take_append_drop 24 ((((words1.drop 24).drop 24).drop 24).drop 24), List.all_append, w_t5, ← List.take_append_drop 24 (((((words1.drop 24).drop 24).drop 24).drop 24).drop 24), List.all_append, w_t6, ← List.take_append_drop 24 ((((((words1.drop 24).drop 24).drop 24).drop 24).drop 24).drop 24), List.all_append, w_t7, ← List.take_append_drop 24 (((((((words1.drop 24).drop 24).drop 24).drop 24).drop 24).drop 24).drop 24), List.all_append, w_t8, ← List.take_append_drop 24 ((((((((words1.drop 24).drop 24).drop 24).drop 24).drop 24).drop 24).drop 24).drop 24), List.all_append, w_t9, ← List.take_append_drop 24 (((((((((words1.drop 24).drop 24).drop 24).drop 24).drop 24).drop 24).drop 24).drop 24).drop 24), List.all_append, w_t10, ← List.take_append_drop 24 ((((((((((words1.drop 24).drop 24).drop 24).drop 24).drop 24).drop 24).drop 24).drop 24).drop 24).drop 24), List.all_append, w_t11, ← List.take_append_drop 24 (((((((((((words1.drop 24).drop 24).drop 24).drop 24).drop 24).drop 24).drop 24).drop 24).drop 24).drop 24).drop 24), List.all_append, w_t12, ← List.take_append_drop 24 ((((((((((((words1.drop 24).drop 24).drop 24).drop 24).drop 24).drop 24).drop 24).drop 24).drop 24).drop 24).drop 24).drop 24), List.all_append, w_t13, w_t14]
  rfl
set_option maxRecDepth 65536 in
theorem w_rest : rest_1_c.before args0 about1 = true := by decide +kernel
set_option maxRecDepth 65536 in
theorem w_case : (Jvm.Cond.and given_1 narrow_1).before args0 about1 = true := by decide +kernel
set_option maxRecDepth 65536 in
theorem w_consts : constsHeld consts_1 about1 := Jvm.Lit.constsHeldB_iff.mp (by decide +kernel)
theorem w_applies : (headSpec (Jvm.Cond.code x code maxLocals ret :: tables_1) room_1).applies x e0.platform about1 = true :=
  (Spec.applies_iff w_frames).mpr ⟨w_running, w_runnable, w_alone, w_named, w_hears, w_ripe, w_room, w_tables⟩
theorem atStart : AtStart classFile x code maxLocals ret World_1 tables_1 room_1 Calls_1 rest_1 Pre_1 launch0 p0 e0 about1 theMethod args0 below0 :=
  ⟨lists_1, trivial, launch0.admits_env _ _ _, launch0.least_env, fairChoices_fair.cas, fairChoices_fair.clock, w_frames, w_args, w_heap, w_applies, ⟨(by decide +kernel : framesKnown about1 = true), ⟨(by decide +kernel : tablesKnown about1 = true), ⟨w_consts, trivial⟩⟩⟩, w_rest, w_case⟩
end start1
theorem witness_1 : WitnessClaimed_1 := ⟨start1.p0, start1.e0, start1.about1, start1.theMethod, start1.args0, start1.below0, start1.atStart⟩
end Jvm.Pilot.@@N@@
